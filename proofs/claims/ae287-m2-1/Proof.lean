import JvmDerived
import JvmDerived.Pilot.@@N@@Statement
import JvmDerived.Pilot.@@N@@Code
set_option linter.unusedVariables false
set_option linter.unusedSimpArgs false
@@BLOCK:NumsL.lean.txt@@
/- laws to paste: Road.backV, Road.empW, Road.eqW, Road.codOf (cut by pick.py; bodies as the Statement names them) -/
namespace Jvm.Pilot.@@N@@
namespace StrChars
open Jvm Sem ClassFile Op Lib Jvm.Stand Jvm.Free.XT Jvm.Free.ALB Jvm.Free.JM Jvm.Free
open Jvm.Lib.Cold (StaticIs)
/-- a char array whose places are chars -/
def Ch (a : Addr) (A : Cell) (U : State) : Prop := Arr .char a A U ∧ Typed .char A
theorem Ch.mv {a : Addr} {A : Cell} {U U' : State} (h : Ch a A U) (hal : U.vm.Alike U'.vm) (hh : U'.heap = U.heap) : Ch a A U' := ⟨h.1.mv hal hh, h.2⟩
theorem Ch.keep {a : Addr} {A : Cell} {U U' : State} (h : Ch a A U) (hal : U.vm.Alike U'.vm) (hk : U'.heap[a]? = some A) : Ch a A U' := ⟨h.1.keep hal hk, h.2⟩
/-- what place i of a char[]'s cell holds -/
def cv (A : Cell) (i : Nat) : Int32 := match A.slots[i]? with | some (.int x) => x | _ => 0
theorem Ch.get {a : Addr} {A : Cell} {U : State} (h : Ch a A U) {i : Nat} (hi : i < A.slots.size) : A.slots[i]? = some (.int (cv A i)) := by
  have e := Array.getElem?_eq_getElem hi
  have f := h.2 i _ e
  unfold cv; rw [e]
  generalize A.slots[i] = v at f
  cases v <;> simp [fits] at f ⊢
/-- the byte that i2b leaves of a char -/
def lo8 (x : Int32) : Int32 := x.toInt8.toInt32
theorem fits_lo8 (y : Int32) : fits .byte (.int (lo8 y)) = true := by
  have h1 := y.toInt8.le_toInt
  have h2 := y.toInt8.toInt_lt
  simp only [lo8, fits, Bool.and_eq_true, decide_eq_true_eq, Int32.le_iff_toInt_le, Int8.toInt_toInt32, show (-128 : Int32).toInt = -128 from by decide, show (127 : Int32).toInt = 127 from by decide]
  omega
/-- A' is A but that each place j of lo .. hi - 1 holds f j -/
def Laid (A A' : Cell) (lo hi : Nat) (f : Nat → Value) : Prop := A'.cls = A.cls ∧ A'.vm = A.vm ∧ A'.slots.size = A.slots.size ∧ ∀ i, A'.slots[i]? = if lo ≤ i ∧ i < hi then some (f i) else A.slots[i]?
theorem Laid.zero (A : Cell) (lo : Nat) (f : Nat → Value) : Laid A A lo (lo + 0) f := ⟨rfl, rfl, rfl, fun i => by rw [if_neg (by omega)]⟩
theorem Laid.step {A Ak : Cell} {lo k : Nat} {f : Nat → Value} {v : Value} (h : Laid A Ak lo k f) (hlo : lo ≤ k) (hk : k < Ak.slots.size) (hv : v = f k) : Laid A (Ak.setSlot k v) lo (k + 1) f := by
  refine ⟨h.1, h.2.1, by simpa [Cell.setSlot] using h.2.2.1, fun i => ?_⟩
  by_cases e : k = i
  · subst e; rw [Cell.slots_setSlot_self v hk, if_pos (by omega), hv]
  · rw [Cell.slots_setSlot_ne v e, h.2.2.2 i]
    by_cases q : lo ≤ i ∧ i < k
    · rw [if_pos q, if_pos (by omega)]
    · rw [if_neg q, if_neg (by omega)]
def U16 : String := "java/lang/StringUTF16"
namespace Cmp5
def yN : MethodName := ⟨"java/lang/StringUTF16", "compress", "([CI[BII)I"⟩
abbrev yB : ByteArray := jdk_52_method_21_code
theorem d0 : decode yB 0 = .ok (.iconst 0, 1) := by decide +kernel
theorem d1 : decode yB 1 = .ok (.istore 5, 2) := by decide +kernel
theorem d3 : decode yB 3 = .ok (.iload 5, 2) := by decide +kernel
theorem d5 : decode yB 5 = .ok (.iload 4, 2) := by decide +kernel
theorem d7 : decode yB 7 = .ok (.if_icmp (.ge) 37, 3) := by decide +kernel
theorem d10 : decode yB 10 = .ok (.aload_n 0, 1) := by decide +kernel
theorem d11 : decode yB 11 = .ok (.iload_n 1, 1) := by decide +kernel
theorem d12 : decode yB 12 = .ok (.caload, 1) := by decide +kernel
theorem d13 : decode yB 13 = .ok (.istore 6, 2) := by decide +kernel
theorem d15 : decode yB 15 = .ok (.iload 6, 2) := by decide +kernel
theorem d17 : decode yB 17 = .ok (.sipush 255, 3) := by decide +kernel
theorem d20 : decode yB 20 = .ok (.if_icmp (.le) 6, 3) := by decide +kernel
theorem d26 : decode yB 26 = .ok (.aload_n 2, 1) := by decide +kernel
theorem d27 : decode yB 27 = .ok (.iload_n 3, 1) := by decide +kernel
theorem d28 : decode yB 28 = .ok (.iload 6, 2) := by decide +kernel
theorem d30 : decode yB 30 = .ok (.i2b, 1) := by decide +kernel
theorem d31 : decode yB 31 = .ok (.bastore, 1) := by decide +kernel
theorem d32 : decode yB 32 = .ok (.iinc 1 1, 3) := by decide +kernel
theorem d35 : decode yB 35 = .ok (.iinc 3 1, 3) := by decide +kernel
theorem d38 : decode yB 38 = .ok (.iinc 5 1, 3) := by decide +kernel
theorem d41 : decode yB 41 = .ok (.goto (-38), 3) := by decide +kernel
theorem d44 : decode yB 44 = .ok (.iload 4, 2) := by decide +kernel
theorem d46 : decode yB 46 = .ok (.ireturn, 1) := by decide +kernel
def site : List Cond := []
def tab : Cond := tabOf yN yB 7 (some .int) site
def P (b : Addr) (A : Cell) (d : Addr) (B : Cell) (o q len : Nat) (args : Array Value) (s : State) : Prop := args = #[.ref b, .int (Int32.ofNat o), .ref d, .int (Int32.ofNat q), .int (Int32.ofNat len)] ∧ Ch b A s ∧ Arr .byte d B s ∧ b ≠ d ∧ o + len ≤ A.slots.size ∧ q + len ≤ B.slots.size ∧ ∀ i, i < len → ¬ 255 < cv A (o + i)
def E (b : Addr) (A : Cell) (d : Addr) (B : Cell) (o q len : Nat) (r : Option Value) (s u : State) : Prop := r = some (.int (Int32.ofNat len)) ∧ ∃ B', Put d B' s u ∧ Laid B B' q (q + len) (fun j => Value.int (lo8 (cv A (o + (j - q)))))
/-- no char of the range above 255: len; the places written hold each char's low byte -/
theorem law (l : Launch) (b : Addr) (A : Cell) (d : Addr) (B : Cell) (o q len : Nat) : Law l yN 5 5 0 0 yB 7 (some .int) site (P b A d B o q len) (E b A d B o q len) (copyLocs d q len) 0 0 := by
  refine Law.of_walk (plainFor_of_name (by decide +kernel)) (by decide +kernel) (by decide +kernel) (by decide) (fun _ _ h => by rw [h.1]; rfl) (fun _ U U' hal hh h => ⟨h.1, h.2.1.mv hal hh, h.2.2.1.mv hal hh, h.2.2.2⟩) (fun r U U' V V' h1 hal h2 h => ⟨h.1, h.2.elim fun B' q => ⟨B', q.1.mv h1 h2, q.2⟩⟩) ?_
  intro p e s m args below meth c s₁ X0 hexec hbytes hml hret hlk hnm hown hh0 W hP
  obtain ⟨rfl, hA, hB, hne, l1, l2, hp⟩ := hP
  have c1 : Steps p.tables e below (s₁.setTop (entryFrame m #[.ref b, .int (Int32.ofNat o), .ref d, .int (Int32.ofNat q), .int (Int32.ofNat len)] 7)) (s₁.setTop (mkF m 0 #[.val (.ref b), .val (.int (Int32.ofNat o)), .val (.ref d), .val (.int (Int32.ofNat q)), .val (.int (Int32.ofNat len)), .unset, .unset] [])) := entry rfl
  have hA0 := hA.1.mv X0.warmed.alike hh0
  have hB0 := hB.mv X0.warmed.alike hh0
  have a31 := hA.1.2.2.2
  have c2 : Steps p.tables e below (s₁.setTop (entryFrame m #[.ref b, .int (Int32.ofNat o), .ref d, .int (Int32.ofNat q), .int (Int32.ofNat len)] 7)) (s₁.setTop (mkF m 3 #[.val (.ref b), .val (.int (Int32.ofNat o)), .val (.ref d), .val (.int (Int32.ofNat q)), .val (.int (Int32.ofNat len)), .val (.int 0), .unset] [])) := c1.trans (by
    refine iconstV X0.here hexec rfl 0 (hb hbytes d0) (by decide) ?_
    refine XS.istore X0.here hexec rfl (hb hbytes d1) rfl rfl ?_
    exact Steps.refl _)
  have loop : ∀ (r i : Nat), i + r = len → ∀ (z : Slot), (z = .unset ∨ ∃ w, z = .val w ∧ w.category = 1) → ∀ (Tl : State) (Bk : Cell), Stand p l e { frames := 0, locals := 0, cells := 0, slots := 0 } s m #[.ref b, .int (Int32.ofNat o), .ref d, .int (Int32.ofNat q), .int (Int32.ofNat len)] below meth c Tl ([] ++ copyLocs d q i) 0 0 → Put d Bk s₁ Tl → Laid B Bk q (q + i) (fun j => Value.int (lo8 (cv A (o + (j - q))))) →
      Steps p.tables e below (s₁.setTop (entryFrame m #[.ref b, .int (Int32.ofNat o), .ref d, .int (Int32.ofNat q), .int (Int32.ofNat len)] 7)) (Tl.setTop (mkF m 3 #[.val (.ref b), .val (.int (Int32.ofNat (o + i))), .val (.ref d), .val (.int (Int32.ofNat (q + i))), .val (.int (Int32.ofNat len)), .val (.int (Int32.ofNat i)), z] [])) → ∃ (T' : State) (B' : Cell) (z' : Slot), Stand p l e { frames := 0, locals := 0, cells := 0, slots := 0 } s m #[.ref b, .int (Int32.ofNat o), .ref d, .int (Int32.ofNat q), .int (Int32.ofNat len)] below meth c T' ([] ++ copyLocs d q len) 0 0 ∧ Put d B' s₁ T' ∧ Laid B B' q (q + len) (fun j => Value.int (lo8 (cv A (o + (j - q))))) ∧
      Steps p.tables e below (s₁.setTop (entryFrame m #[.ref b, .int (Int32.ofNat o), .ref d, .int (Int32.ofNat q), .int (Int32.ofNat len)] 7)) (T'.setTop (mkF m 3 #[.val (.ref b), .val (.int (Int32.ofNat (o + len))), .val (.ref d), .val (.int (Int32.ofNat (q + len))), .val (.int (Int32.ofNat len)), .val (.int (Int32.ofNat len)), z'] [])) := by
    intro r
    induction r with
    | zero =>
      intro i hi z hz Tl Bk Xl pl fl cl
      have hil : i = len := by omega
      rw [hil] at Xl fl cl
      exact ⟨Tl, Bk, z, Xl, pl, fl, cl⟩
    | succ r ih =>
      intro i hi z hz Tl Bk Xl pl fl cl
      have all := X0.warmed.alike.symm.trans Xl.warmed.alike
      have hAl := hA0.keep all (pl.other hne hA0.1)
      have hBk := hB0.like all pl.1 fl.1 fl.2.1 fl.2.2.1
      have hlt : q + i < Bk.slots.size := by rw [fl.2.2.1]; omega
      have c3 : Steps p.tables e below (s₁.setTop (entryFrame m #[.ref b, .int (Int32.ofNat o), .ref d, .int (Int32.ofNat q), .int (Int32.ofNat len)] 7)) (Tl.setTop (mkF m 12 #[.val (.ref b), .val (.int (Int32.ofNat (o + i))), .val (.ref d), .val (.int (Int32.ofNat (q + i))), .val (.int (Int32.ofNat len)), .val (.int (Int32.ofNat i)), z] [.int (Int32.ofNat (o + i)), .ref b])) := cl.trans (by
        refine XS.iload Xl.here hexec rfl (hb hbytes d3) rfl ?_
        refine XS.iload Xl.here hexec rfl (hb hbytes d5) rfl ?_
        refine XS.icmpNo Xl.here hexec rfl (hb hbytes d7) rfl (ii_ge_f (lt32 (by omega) (by omega))) ?_
        refine XS.aloadN Xl.here hexec rfl (hb hbytes d10) rfl rfl ?_
        refine XS.iloadN Xl.here hexec rfl (hb hbytes d11) rfl ?_
        exact Steps.refl _)
      have c4 : Steps p.tables e below (s₁.setTop (entryFrame m #[.ref b, .int (Int32.ofNat o), .ref d, .int (Int32.ofNat q), .int (Int32.ofNat len)] 7)) (Tl.setTop (mkF m 13 #[.val (.ref b), .val (.int (Int32.ofNat (o + i))), .val (.ref d), .val (.int (Int32.ofNat (q + i))), .val (.int (Int32.ofNat len)), .val (.int (Int32.ofNat i)), z] [.int (cv A (o + i))])) := c3.trans (by
        refine Xl.aget hexec hAl rfl (hA.get (i := o + i) (by omega)) rfl rfl (hb hbytes d12) ?_
        exact Steps.refl _)
      have c5 : Steps p.tables e below (s₁.setTop (entryFrame m #[.ref b, .int (Int32.ofNat o), .ref d, .int (Int32.ofNat q), .int (Int32.ofNat len)] 7)) (Tl.setTop (mkF m 15 #[.val (.ref b), .val (.int (Int32.ofNat (o + i))), .val (.ref d), .val (.int (Int32.ofNat (q + i))), .val (.int (Int32.ofNat len)), .val (.int (Int32.ofNat i)), .val (.int (cv A (o + i)))] [])) := c4.trans (by
        refine XS.istoreS Xl.here hexec rfl (hb hbytes d13) rfl rfl hz ?_
        exact Steps.refl _)
      have c6 : Steps p.tables e below (s₁.setTop (entryFrame m #[.ref b, .int (Int32.ofNat o), .ref d, .int (Int32.ofNat q), .int (Int32.ofNat len)] 7)) (Tl.setTop (mkF m 31 #[.val (.ref b), .val (.int (Int32.ofNat (o + i))), .val (.ref d), .val (.int (Int32.ofNat (q + i))), .val (.int (Int32.ofNat len)), .val (.int (Int32.ofNat i)), .val (.int (cv A (o + i)))] [.int (lo8 (cv A (o + i))), .int (Int32.ofNat (q + i)), .ref d])) := c5.trans (by
        refine XS.iload Xl.here hexec rfl (hb hbytes d15) rfl ?_
        refine sipushV Xl.here hexec rfl 255 (hb hbytes d17) (by decide) ?_
        refine XS.icmpYes Xl.here hexec rfl (pc0 := 20) rfl (hb hbytes d20) rfl (ii_le_t (hp i (by omega))) (by decide) rfl ?_
        refine XS.aloadN Xl.here hexec rfl (hb hbytes d26) rfl rfl ?_
        refine XS.iloadN Xl.here hexec rfl (hb hbytes d27) rfl ?_
        refine XS.iload Xl.here hexec rfl (hb hbytes d28) rfl ?_
        refine i2b Xl.here hexec rfl (hb hbytes d30) rfl ?_
        exact Steps.refl _)
      obtain ⟨T7, X7, p7, st7⟩ := Xl.aput hexec hBk rfl hlt rfl (fits_lo8 (cv A (o + i))) (g := (mkF m 31 #[.val (.ref b), .val (.int (Int32.ofNat (o + i))), .val (.ref d), .val (.int (Int32.ofNat (q + i))), .val (.int (Int32.ofNat len)), .val (.int (Int32.ofNat i)), .val (.int (cv A (o + i)))] [.int (lo8 (cv A (o + i))), .int (Int32.ofNat (q + i)), .ref d])) rfl (rest := []) rfl (hb hbytes d31)
      have c8 : Steps p.tables e below (s₁.setTop (entryFrame m #[.ref b, .int (Int32.ofNat o), .ref d, .int (Int32.ofNat q), .int (Int32.ofNat len)] 7)) (T7.setTop (mkF m 32 #[.val (.ref b), .val (.int (Int32.ofNat (o + i))), .val (.ref d), .val (.int (Int32.ofNat (q + i))), .val (.int (Int32.ofNat len)), .val (.int (Int32.ofNat i)), .val (.int (cv A (o + i)))] [])) := c6.trans (st7 _ (Steps.refl _))
      have c9 : Steps p.tables e below (s₁.setTop (entryFrame m #[.ref b, .int (Int32.ofNat o), .ref d, .int (Int32.ofNat q), .int (Int32.ofNat len)] 7)) (T7.setTop (mkF m 3 #[.val (.ref b), .val (.int (Int32.ofNat (o + i) + 1)), .val (.ref d), .val (.int (Int32.ofNat (q + i) + 1)), .val (.int (Int32.ofNat len)), .val (.int (Int32.ofNat i + 1)), .val (.int (cv A (o + i)))] [])) := c8.trans (by
        refine iincV X7.here hexec rfl 1 (hb hbytes d32) (by decide) rfl rfl ?_
        refine iincV X7.here hexec rfl 1 (hb hbytes d35) (by decide) rfl rfl ?_
        refine iincV X7.here hexec rfl 1 (hb hbytes d38) (by decide) rfl rfl ?_
        refine XS.goto X7.here hexec rfl (pc0 := 41) rfl (hb hbytes d41) (by decide) rfl ?_
        exact Steps.refl _)
      have c10 : Steps p.tables e below (s₁.setTop (entryFrame m #[.ref b, .int (Int32.ofNat o), .ref d, .int (Int32.ofNat q), .int (Int32.ofNat len)] 7)) (T7.setTop (mkF m 3 #[.val (.ref b), .val (.int (Int32.ofNat (o + (i + 1)))), .val (.ref d), .val (.int (Int32.ofNat (q + (i + 1)))), .val (.int (Int32.ofNat len)), .val (.int (Int32.ofNat (i + 1))), .val (.int (cv A (o + i)))] [])) := by
        have := c9
        rw [succ32, succ32, succ32] at this
        exact this
      exact ih (i + 1) (by omega) _ (Or.inr ⟨_, rfl, rfl⟩) T7 _ (by rw [copyLocs_step, ← List.append_assoc]; exact X7) (pl.trans p7) (fl.step (by omega) hlt (by simp)) c10
  obtain ⟨T9, B9, z9, X9, p9, f9, g9⟩ := loop len 0 (by omega) .unset (Or.inl rfl) s₁ B (by simpa [copyLocs] using X0) ⟨hB0.1, fun _ _ => rfl, rfl⟩ (Laid.zero _ _ _) c2
  have c11 : Steps p.tables e below (s₁.setTop (entryFrame m #[.ref b, .int (Int32.ofNat o), .ref d, .int (Int32.ofNat q), .int (Int32.ofNat len)] 7)) (T9.setTop (mkF m 46 #[.val (.ref b), .val (.int (Int32.ofNat (o + len))), .val (.ref d), .val (.int (Int32.ofNat (q + len))), .val (.int (Int32.ofNat len)), .val (.int (Int32.ofNat len)), z9] [.int (Int32.ofNat len)])) := g9.trans (by
    refine XS.iload X9.here hexec rfl (hb hbytes d3) rfl ?_
    refine XS.iload X9.here hexec rfl (hb hbytes d5) rfl ?_
    refine XS.icmpYes X9.here hexec rfl (pc0 := 7) rfl (hb hbytes d7) rfl (ii_ge_t (nlt32 (by omega) (Nat.le_refl _))) (by decide) rfl ?_
    refine XS.iload X9.here hexec rfl (hb hbytes d44) rfl ?_
    exact Steps.refl _)
  exact ⟨T9, some (.int (Int32.ofNat len)), _, _, _, X9, by simp, rfl, rfl, (fun h => by cases h), ⟨rfl, B9, p9.from hh0, f9⟩, fun fs hl => c11.trans (X9.ireturnOut hexec hret rfl (Or.inl rfl) (hb hbytes d46) hl)⟩
end Cmp5
namespace Cmp3
def yN : MethodName := ⟨"java/lang/StringUTF16", "compress", "([CII)[B"⟩
abbrev yB : ByteArray := jdk_52_method_16_code
theorem d0 : decode yB 0 = .ok (.iload_n 2, 1) := by decide +kernel
theorem d1 : decode yB 1 = .ok (.newarray .byte, 2) := by decide +kernel
theorem d3 : decode yB 3 = .ok (.astore_n 3, 1) := by decide +kernel
theorem d4 : decode yB 4 = .ok (.aload_n 0, 1) := by decide +kernel
theorem d5 : decode yB 5 = .ok (.iload_n 1, 1) := by decide +kernel
theorem d6 : decode yB 6 = .ok (.aload_n 3, 1) := by decide +kernel
theorem d7 : decode yB 7 = .ok (.iconst 0, 1) := by decide +kernel
theorem d8 : decode yB 8 = .ok (.iload_n 2, 1) := by decide +kernel
theorem d9 : decode yB 9 = .ok (.invokestatic 115, 3) := by decide +kernel
theorem d12 : decode yB 12 = .ok (.istore 4, 2) := by decide +kernel
theorem d14 : decode yB 14 = .ok (.iload 4, 2) := by decide +kernel
theorem d16 : decode yB 16 = .ok (.iload_n 2, 1) := by decide +kernel
theorem d17 : decode yB 17 = .ok (.if_icmp (.eq) 40, 3) := by decide +kernel
theorem d57 : decode yB 57 = .ok (.aload_n 3, 1) := by decide +kernel
theorem d58 : decode yB 58 = .ok (.areturn, 1) := by decide +kernel
def site : List Cond := [.arrayClass .byte, Cmp5.tab] ++ staticW U16 115 Cmp5.yN
def tab : Cond := tabOf yN yB 6 (some (.array .byte)) site
def P (b : Addr) (A : Cell) (o len : Nat) (args : Array Value) (s : State) : Prop := args = #[.ref b, .int (Int32.ofNat o), .int (Int32.ofNat len)] ∧ Ch b A s ∧ o + len ≤ A.slots.size ∧ len ≤ 536870912 ∧ ∀ i, i < len → ¬ 255 < cv A (o + i)
def E (b : Addr) (A : Cell) (o len : Nat) (r : Option Value) (s u : State) : Prop := NewArr .byte "[B" len (fun j => .int (lo8 (cv A (o + j)))) r s u ∧ u.heap.size = s.heap.size + 1
/-- no char of the range above 255: a new byte[] of their low bytes -/
theorem law (l : Launch) (b : Addr) (A : Cell) (o len : Nat) : Law l yN 3 3 1 18 yB 6 (some (.array .byte)) site (P b A o len) (E b A o len) [] 1 len := by
  refine Law.of_walk (plainFor_of_name (by decide +kernel)) (by decide +kernel) (by decide +kernel) (by decide) (fun _ _ h => by rw [h.1]; rfl) (fun _ U U' hal hh h => ⟨h.1, h.2.1.mv hal hh, h.2.2⟩) (fun r U U' V V' h1 hal h2 h => ⟨NewArr.mv r U U' V V' h1 hal h2 h.1, by rw [h1, h2]; exact h.2⟩) ?_
  intro p e s m args below meth c s₁ X0 hexec hbytes hml hret hlk hnm hown hh0 W hP
  obtain ⟨rfl, hA, l1, l2, hp⟩ := hP
  have a31 := hA.1.2.2.2
  have c1 : Steps p.tables e below (s₁.setTop (entryFrame m #[.ref b, .int (Int32.ofNat o), .int (Int32.ofNat len)] 6)) (s₁.setTop (mkF m 0 #[.val (.ref b), .val (.int (Int32.ofNat o)), .val (.int (Int32.ofNat len)), .unset, .unset, .unset] [])) := entry rfl
  have c2 : Steps p.tables e below (s₁.setTop (entryFrame m #[.ref b, .int (Int32.ofNat o), .int (Int32.ofNat len)] 6)) (s₁.setTop (mkF m 1 #[.val (.ref b), .val (.int (Int32.ofNat o)), .val (.int (Int32.ofNat len)), .unset, .unset, .unset] [.int (Int32.ofNat len)])) := c1.trans (by
    refine XS.iloadN X0.here hexec rfl (hb hbytes d0) rfl ?_
    exact Steps.refl _)
  obtain ⟨T3, B3, X3, ba3, bs3, bv3, bh3, bf3, st3⟩ := X0.anew hexec (atype := .byte) (wk W (.arrayClass .byte)) rfl (by show len * 1 ≤ _; omega) (by omega) (g := (mkF m 1 #[.val (.ref b), .val (.int (Int32.ofNat o)), .val (.int (Int32.ofNat len)), .unset, .unset, .unset] [.int (Int32.ofNat len)])) rfl (hb hbytes d1) (rest := []) rfl (Nat.le_refl _) (by show 0 + len ≤ len; omega)
  rw [hh0] at ba3 st3
  have kp3 : XT.Kept s T3 := (XT.Kept.of_eq hh0).push bh3
  have hA3 := hA.keep X3.warmed.alike (kp3 _ _ hA.1.1)
  have hne : b ≠ s.heap.size := hA.1.ne
  have c4 : Steps p.tables e below (s₁.setTop (entryFrame m #[.ref b, .int (Int32.ofNat o), .int (Int32.ofNat len)] 6)) (T3.setTop (mkF m 3 #[.val (.ref b), .val (.int (Int32.ofNat o)), .val (.int (Int32.ofNat len)), .unset, .unset, .unset] [.ref s.heap.size])) := c2.trans (st3 _ (Steps.refl _))
  have c5 : Steps p.tables e below (s₁.setTop (entryFrame m #[.ref b, .int (Int32.ofNat o), .int (Int32.ofNat len)] 6)) (T3.setTop (mkF m 9 #[.val (.ref b), .val (.int (Int32.ofNat o)), .val (.int (Int32.ofNat len)), .val (.ref s.heap.size), .unset, .unset] [.int (Int32.ofNat len), .int 0, .ref s.heap.size, .int (Int32.ofNat o), .ref b])) := c4.trans (by
    refine XS.astoreN X3.here hexec rfl (hb hbytes d3) rfl rfl rfl ?_
    refine XS.aloadN X3.here hexec rfl (hb hbytes d4) rfl rfl ?_
    refine XS.iloadN X3.here hexec rfl (hb hbytes d5) rfl ?_
    refine XS.aloadN X3.here hexec rfl (hb hbytes d6) rfl rfl ?_
    refine iconstV X3.here hexec rfl 0 (hb hbytes d7) (by decide) ?_
    refine XS.iloadN X3.here hexec rfl (hb hbytes d8) rfl ?_
    exact Steps.refl _)
  obtain ⟨v6, T6, X6, E6, g6⟩ := X3.callS hexec (Cmp5.law l b A s.heap.size B3 o 0 len) hown (wks W (staticW U16 115 Cmp5.yN)) (wk W Cmp5.tab) (W := 0) (Nat.le_of_ble_eq_true rfl) (Nat.le_of_ble_eq_true rfl) (Nat.le_refl _) (by show 0 + len + 0 ≤ len; omega) (g := (mkF m 9 #[.val (.ref b), .val (.int (Int32.ofNat o)), .val (.int (Int32.ofNat len)), .val (.ref s.heap.size), .unset, .unset] [.int (Int32.ofNat len), .int (Int32.ofNat 0), .ref s.heap.size, .int (Int32.ofNat o), .ref b])) rfl (by rw [hml]; rfl) c5 (argsL := [.ref b, .int (Int32.ofNat o), .ref s.heap.size, .int (Int32.ofNat 0), .int (Int32.ofNat len)]) (rest := []) rfl rfl (by show 2 * 0 + 0 ≤ _; decide) (hb hbytes d9) (⟨rfl, hA3, ba3, hne, l1, by rw [bs3]; simp, hp⟩)
  obtain ⟨rfl, B6, p6, f6⟩ := E6
  have c7 : Steps p.tables e below (s₁.setTop (entryFrame m #[.ref b, .int (Int32.ofNat o), .int (Int32.ofNat len)] 6)) (T6.setTop (mkF m 12 #[.val (.ref b), .val (.int (Int32.ofNat o)), .val (.int (Int32.ofNat len)), .val (.ref s.heap.size), .unset, .unset] [.int (Int32.ofNat len)])) := g6
  have c8 : Steps p.tables e below (s₁.setTop (entryFrame m #[.ref b, .int (Int32.ofNat o), .int (Int32.ofNat len)] 6)) (T6.setTop (mkF m 58 #[.val (.ref b), .val (.int (Int32.ofNat o)), .val (.int (Int32.ofNat len)), .val (.ref s.heap.size), .val (.int (Int32.ofNat len)), .unset] [.ref s.heap.size])) := c7.trans (by
    refine XS.istore X6.here hexec rfl (hb hbytes d12) rfl rfl ?_
    refine XS.iload X6.here hexec rfl (hb hbytes d14) rfl ?_
    refine XS.iloadN X6.here hexec rfl (hb hbytes d16) rfl ?_
    refine XS.icmpYes X6.here hexec rfl (pc0 := 17) rfl (hb hbytes d17) rfl (ii_eq_t rfl) (by decide) rfl ?_
    refine XS.aloadN X6.here hexec rfl (hb hbytes d57) rfl rfl ?_
    exact Steps.refl _)
  have X8 := X6.wide (L' := []) (cells' := 1) (slots' := len) (fun x hx hlt => by
    simp only [List.nil_append, copyLocs, List.mem_map, List.mem_range] at hx
    obtain ⟨i, -, rfl⟩ := hx
    exact absurd hlt (Nat.lt_irrefl _)) (Nat.le_refl _) (by omega)
  exact ⟨T6, some (.ref s.heap.size), _, _, _, X8, rfl, rfl, rfl, (fun h => by cases h), ⟨⟨rfl, B6, ba3.like (X3.warmed.alike.symm.trans X6.warmed.alike) p6.1 f6.1 f6.2.1 f6.2.2.1, f6.2.1.trans bv3, by rw [X6.warmed.alike.findClass, f6.1]; exact bf3, by rw [f6.2.2.1, bs3]; simp, fun j hj => by rw [f6.2.2.2 j, if_pos (by omega)]; rfl, kp3.put p6 (Nat.le_refl _)⟩, by rw [p6.2.2, bh3, hh0]; simp⟩, fun fs hl => c8.trans (X8.areturnOut hexec rfl hret rfl (hb hbytes d58) hl)⟩
end Cmp3
namespace CodL
def yN : MethodName := ⟨"java/lang/StringUTF16", "coderFromArrayLen", "([BI)B"⟩
abbrev yB : ByteArray := jdk_52_method_15_code
theorem d0 : decode yB 0 = .ok (.iload_n 1, 1) := by decide +kernel
theorem d1 : decode yB 1 = .ok (.aload_n 0, 1) := by decide +kernel
theorem d2 : decode yB 2 = .ok (.arraylength, 1) := by decide +kernel
theorem d3 : decode yB 3 = .ok (.isub, 1) := by decide +kernel
theorem d4 : decode yB 4 = .ok (.bipush 31, 2) := by decide +kernel
theorem d6 : decode yB 6 = .ok (.iushr, 1) := by decide +kernel
theorem d7 : decode yB 7 = .ok (.i2b, 1) := by decide +kernel
theorem d8 : decode yB 8 = .ok (.ireturn, 1) := by decide +kernel
def site : List Cond := []
def tab : Cond := tabOf yN yB 2 (some .byte) site
def P (d : Addr) (B : Cell) (args : Array Value) (s : State) : Prop := args = #[.ref d, .int (Int32.ofNat B.slots.size)] ∧ Arr .byte d B s
def E (r : Option Value) (s u : State) : Prop := XT.PureE (some (.int 0)) r s u
/-- an array as long as the number of chars: LATIN1 -/
theorem law (l : Launch) (d : Addr) (B : Cell) : Law l yN 2 2 0 0 yB 2 (some .byte) site (P d B) E [] 0 0 := by
  refine Law.of_walk (plainFor_of_name (by decide +kernel)) (by decide +kernel) (by decide +kernel) (by decide) (fun _ _ h => by rw [h.1]; rfl) (fun _ U U' hal hh h => ⟨h.1, h.2.mv hal hh⟩) (fun r U U' V V' h1 hal h2 h => XT.PureE.mv r U U' V V' h1 hal h2 h) ?_
  intro p e s m args below meth c s₁ X0 hexec hbytes hml hret hlk hnm hown hh0 W hP
  obtain ⟨rfl, hB⟩ := hP
  have hB0 := hB.mv X0.warmed.alike hh0
  have c1 : Steps p.tables e below (s₁.setTop (entryFrame m #[.ref d, .int (Int32.ofNat B.slots.size)] 2)) (s₁.setTop (mkF m 0 #[.val (.ref d), .val (.int (Int32.ofNat B.slots.size))] [])) := entry rfl
  have c2 : Steps p.tables e below (s₁.setTop (entryFrame m #[.ref d, .int (Int32.ofNat B.slots.size)] 2)) (s₁.setTop (mkF m 2 #[.val (.ref d), .val (.int (Int32.ofNat B.slots.size))] [.ref d, .int (Int32.ofNat B.slots.size)])) := c1.trans (by
    refine XS.iloadN X0.here hexec rfl (hb hbytes d0) rfl ?_
    refine XS.aloadN X0.here hexec rfl (hb hbytes d1) rfl rfl ?_
    exact Steps.refl _)
  have c3 : Steps p.tables e below (s₁.setTop (entryFrame m #[.ref d, .int (Int32.ofNat B.slots.size)] 2)) (s₁.setTop (mkF m 8 #[.val (.ref d), .val (.int (Int32.ofNat B.slots.size))] [.int (lo8 (ushr (Int32.ofNat B.slots.size - Int32.ofNat B.slots.size) 31))])) := c2.trans (by
    refine X0.alen hexec hB0 rfl rfl (hb hbytes d2) ?_
    refine XS.isub X0.here hexec rfl (hb hbytes d3) rfl ?_
    refine bipushV X0.here hexec rfl 31 (hb hbytes d4) (by decide) ?_
    refine iushr X0.here hexec rfl (hb hbytes d6) rfl ?_
    refine i2b X0.here hexec rfl (hb hbytes d7) rfl ?_
    exact Steps.refl _)
  have e0 : lo8 (ushr (Int32.ofNat B.slots.size - Int32.ofNat B.slots.size) 31) = 0 := by rw [Int32.sub_self]; decide
  rw [e0] at c3
  exact ⟨s₁, some (.int 0), _, _, _, X0, rfl, rfl, rfl, (fun h => by cases h), ⟨rfl, hh0⟩, fun fs hl => c3.trans (X0.ireturnOut hexec hret rfl (Or.inr (Or.inr (Or.inl rfl))) (hb hbytes d8) hl)⟩
end CodL
/-- the String at a is Latin-1 over a new byte[] (the heap's one new cell): the low bytes of the len chars of A from o on; every cell but a is kept -/
def Got (a : Addr) (D : Cell) (fV fC : Field) (A : Cell) (o len : Nat) (r : Option Value) (s u : State) : Prop := r = none ∧ ∃ D' V : Cell, Blank "java/lang/String" a D' u ∧ Same D D' [fV.slot, fC.slot] ∧ D'.slots[fV.slot]? = some (.ref s.heap.size) ∧ D'.slots[fC.slot]? = some (.int 0) ∧ Arr .byte s.heap.size V u ∧ V.vm = .none ∧ u.vm.findClass "[B" = some V.cls ∧ V.slots.size = len ∧ (∀ j, j < len → V.slots[j]? = some (.int (lo8 (cv A (o + j))))) ∧ (∀ (y : Addr) (c : Cell), y ≠ a → s.heap[y]? = some c → u.heap[y]? = some c) ∧ u.heap.size = s.heap.size + 1
theorem Got.mv {a : Addr} {D A : Cell} {fV fC : Field} {o len : Nat} : ∀ r (U U' V V' : State), U'.heap = U.heap → V.vm.Alike V'.vm → V'.heap = V.heap → Got a D fV fC A o len r U V → Got a D fV fC A o len r U' V' :=
  fun r U U' V V' h1 hal h2 ⟨e0, D', X, a1, a2, a3, a4, a5, a6, a7, a8, a9, a10, a11⟩ => ⟨e0, D', X, a1.mv hal h2, a2, by rw [h1]; exact a3, a4, by rw [h1]; exact a5.mv hal h2, a6, by rw [hal.findClass]; exact a7, a8, a9, by rw [h1, h2]; exact a10, by rw [h1, h2]; exact a11⟩
namespace New4
def yN : MethodName := ⟨"java/lang/String", "<init>", "([CIILjava/lang/Void;)V"⟩
abbrev yB : ByteArray := jdk_42_method_149_code
theorem d0 : decode yB 0 = .ok (.aload_n 0, 1) := by decide +kernel
theorem d1 : decode yB 1 = .ok (.invokespecial 1, 3) := by decide +kernel
theorem d4 : decode yB 4 = .ok (.iload_n 3, 1) := by decide +kernel
theorem d5 : decode yB 5 = .ok (.ifCond (.ne) 22, 3) := by decide +kernel
theorem d27 : decode yB 27 = .ok (.getstatic 38, 3) := by decide +kernel
theorem d30 : decode yB 30 = .ok (.ifCond (.eq) 28, 3) := by decide +kernel
theorem d33 : decode yB 33 = .ok (.aload_n 1, 1) := by decide +kernel
theorem d34 : decode yB 34 = .ok (.iload_n 2, 1) := by decide +kernel
theorem d35 : decode yB 35 = .ok (.iload_n 3, 1) := by decide +kernel
theorem d36 : decode yB 36 = .ok (.invokestatic 177, 3) := by decide +kernel
theorem d39 : decode yB 39 = .ok (.astore 5, 2) := by decide +kernel
theorem d41 : decode yB 41 = .ok (.aload_n 0, 1) := by decide +kernel
theorem d42 : decode yB 42 = .ok (.aload 5, 2) := by decide +kernel
theorem d44 : decode yB 44 = .ok (.iload_n 3, 1) := by decide +kernel
theorem d45 : decode yB 45 = .ok (.invokestatic 47, 3) := by decide +kernel
theorem d48 : decode yB 48 = .ok (.putfield 15, 3) := by decide +kernel
theorem d51 : decode yB 51 = .ok (.aload_n 0, 1) := by decide +kernel
theorem d52 : decode yB 52 = .ok (.aload 5, 2) := by decide +kernel
theorem d54 : decode yB 54 = .ok (.putfield 9, 3) := by decide +kernel
theorem d57 : decode yB 57 = .ok (.return_, 1) := by decide +kernel
def site : List Cond := [.fieldLink "java/lang/String" 38 "java/lang/String" "COMPACT_STRINGS" "Z", Cmp3.tab, CodL.tab, .laysFinal "java/lang/String" "java/lang/String" "value" "[B", .fieldLink "java/lang/String" 9 "java/lang/String" "value" "[B", .laysFinal "java/lang/String" "java/lang/String" "coder" "B", .fieldLink "java/lang/String" 15 "java/lang/String" "coder" "B"] ++ objW "java/lang/String" 1 ++ staticW "java/lang/String" 177 Cmp3.yN ++ staticW "java/lang/String" 47 CodL.yN
def tab : Cond := tabOf yN yB 6 none site
def P (a : Addr) (D : Cell) (fV fC : Field) (b : Addr) (A : Cell) (z : Int32) (o len : Nat) (args : Array Value) (s : State) : Prop := args = #[.ref a, .ref b, .int (Int32.ofNat o), .int (Int32.ofNat len), .null] ∧ Blank "java/lang/String" a D s ∧ Found "java/lang/String" "value" "[B" fV s ∧ Found "java/lang/String" "coder" "B" fC s ∧ Ch b A s ∧ StaticIs s "java/lang/String" "COMPACT_STRINGS" "Z" (.int z) ∧ ¬ z = 0 ∧ 0 < len ∧ o + len ≤ A.slots.size ∧ len ≤ 536870912 ∧ ∀ i, i < len → ¬ 255 < cv A (o + i)
def E (a : Addr) (D : Cell) (fV fC : Field) (A : Cell) (o len : Nat) (r : Option Value) (s u : State) : Prop := Got a D fV fC A o len r s u
/-- len > 0, no char of the range above 255: a Latin-1 String of their low bytes -/
theorem law (l : Launch) (a : Addr) (D : Cell) (fV fC : Field) (b : Addr) (A : Cell) (z : Int32) (o len : Nat) : Law l yN 5 4 2 35 yB 6 none site (P a D fV fC b A z o len) (E a D fV fC A o len) [⟨a, fC.slot⟩, ⟨a, fV.slot⟩] 1 len := by
  refine Law.of_walk (plainFor_of_name (by decide +kernel)) (by decide +kernel) (by decide +kernel) (by decide) (fun _ _ h => by rw [h.1]; rfl) (fun _ U U' hal hh h => ⟨h.1, h.2.1.mv hal hh, h.2.2.1.al hal, h.2.2.2.1.al hal, h.2.2.2.2.1.mv hal hh, h.2.2.2.2.2.1.there hal hh, h.2.2.2.2.2.2⟩) (fun r U U' V V' h1 hal h2 h => Got.mv r U U' V V' h1 hal h2 h) ?_
  intro p e s m args below meth c s₁ X0 hexec hbytes hml hret hlk hnm hown hh0 W hP
  obtain ⟨rfl, hB, f1, f2, hA, s1, hz, l0, l1, l2, hp⟩ := hP
  have a31 := hA.1.2.2.2
  have c1 : Steps p.tables e below (s₁.setTop (entryFrame m #[.ref a, .ref b, .int (Int32.ofNat o), .int (Int32.ofNat len), .null] 6)) (s₁.setTop (mkF m 0 #[.val (.ref a), .val (.ref b), .val (.int (Int32.ofNat o)), .val (.int (Int32.ofNat len)), .val .null, .unset] [])) := entry rfl
  have c2 : Steps p.tables e below (s₁.setTop (entryFrame m #[.ref a, .ref b, .int (Int32.ofNat o), .int (Int32.ofNat len), .null] 6)) (s₁.setTop (mkF m 1 #[.val (.ref a), .val (.ref b), .val (.int (Int32.ofNat o)), .val (.int (Int32.ofNat len)), .val .null, .unset] [.ref a])) := c1.trans (by
    refine XS.aloadN X0.here hexec rfl (hb hbytes d0) rfl rfl ?_
    exact Steps.refl _)
  obtain ⟨T3, X3, q3, st3⟩ := X0.oinit hexec hown (wks W (objW "java/lang/String" 1)) (g := (mkF m 1 #[.val (.ref a), .val (.ref b), .val (.int (Int32.ofNat o)), .val (.int (Int32.ofNat len)), .val .null, .unset] [.ref a])) rfl (by rw [hml]; rfl) (rest := []) rfl (hb hbytes d1) (W := 0) (by show 2 * 0 + 0 ≤ _; decide) (Nat.le_of_ble_eq_true rfl) (Nat.le_of_ble_eq_true rfl)
  have hh3 := q3.trans hh0
  have c4 : Steps p.tables e below (s₁.setTop (entryFrame m #[.ref a, .ref b, .int (Int32.ofNat o), .int (Int32.ofNat len), .null] 6)) (T3.setTop (mkF m 27 #[.val (.ref a), .val (.ref b), .val (.int (Int32.ofNat o)), .val (.int (Int32.ofNat len)), .val .null, .unset] [])) := (c2.trans (st3 _ (Steps.refl _))).trans (by
    refine XS.iloadN X3.here hexec rfl (hb hbytes d4) rfl ?_
    refine XS.ifYes X3.here hexec rfl (pc0 := 5) rfl (hb hbytes d5) rfl (i0_ne_t (nz32 (by omega) l0)) (by decide) rfl ?_
    exact Steps.refl _)
  obtain ⟨T5, X5, q5, st5⟩ := X3.sget hexec hown (wk W (.fieldLink "java/lang/String" 38 "java/lang/String" "COMPACT_STRINGS" "Z")) s1 (fun _ _ h => by rw [hh3]; exact h) (g := (mkF m 27 #[.val (.ref a), .val (.ref b), .val (.int (Int32.ofNat o)), .val (.int (Int32.ofNat len)), .val .null, .unset] [])) rfl (hb hbytes d27)
  have hh5 := q5.trans hh3
  have c6 : Steps p.tables e below (s₁.setTop (entryFrame m #[.ref a, .ref b, .int (Int32.ofNat o), .int (Int32.ofNat len), .null] 6)) (T5.setTop (mkF m 30 #[.val (.ref a), .val (.ref b), .val (.int (Int32.ofNat o)), .val (.int (Int32.ofNat len)), .val .null, .unset] [.int z])) := c4.trans (st5 _ (Steps.refl _))
  have c7 : Steps p.tables e below (s₁.setTop (entryFrame m #[.ref a, .ref b, .int (Int32.ofNat o), .int (Int32.ofNat len), .null] 6)) (T5.setTop (mkF m 36 #[.val (.ref a), .val (.ref b), .val (.int (Int32.ofNat o)), .val (.int (Int32.ofNat len)), .val .null, .unset] [.int (Int32.ofNat len), .int (Int32.ofNat o), .ref b])) := c6.trans (by
    refine XS.ifNo X5.here hexec rfl (hb hbytes d30) rfl (i0_eq_f hz) ?_
    refine XS.aloadN X5.here hexec rfl (hb hbytes d33) rfl rfl ?_
    refine XS.iloadN X5.here hexec rfl (hb hbytes d34) rfl ?_
    refine XS.iloadN X5.here hexec rfl (hb hbytes d35) rfl ?_
    exact Steps.refl _)
  obtain ⟨v8, T8, X8, E8, g8⟩ := X5.callS hexec (Cmp3.law l b A o len) hown (wks W (staticW "java/lang/String" 177 Cmp3.yN)) (wk W Cmp3.tab) (W := 0) (Nat.le_of_ble_eq_true rfl) (Nat.le_of_ble_eq_true rfl) (Nat.le_refl _) (by show 0 + len ≤ len; omega) (g := (mkF m 36 #[.val (.ref a), .val (.ref b), .val (.int (Int32.ofNat o)), .val (.int (Int32.ofNat len)), .val .null, .unset] [.int (Int32.ofNat len), .int (Int32.ofNat o), .ref b])) rfl (by rw [hml]; rfl) c7 (argsL := [.ref b, .int (Int32.ofNat o), .int (Int32.ofNat len)]) (rest := []) rfl rfl (by show 2 * 0 + 0 ≤ _; decide) (hb hbytes d36) (⟨rfl, hA.mv X5.warmed.alike hh5, l1, l2, hp⟩)
  obtain ⟨e8, z8⟩ := E8
  obtain ⟨rfl, N, n1, n2, n3, n4, n5, n6⟩ := NewArr.mv _ T5 s _ _ hh5.symm (Vm.Alike.refl _) rfl e8
  rw [hh5] at z8
  have hB1 := hB.keep X8.warmed.alike (n6 _ _ hB.1)
  have hne : s.heap.size ≠ a := (Nat.ne_of_lt (Array.getElem?_eq_some_iff.mp hB.1).1).symm
  have c9 : Steps p.tables e below (s₁.setTop (entryFrame m #[.ref a, .ref b, .int (Int32.ofNat o), .int (Int32.ofNat len), .null] 6)) (T8.setTop (mkF m 39 #[.val (.ref a), .val (.ref b), .val (.int (Int32.ofNat o)), .val (.int (Int32.ofNat len)), .val .null, .unset] [.ref s.heap.size])) := g8
  have c10 : Steps p.tables e below (s₁.setTop (entryFrame m #[.ref a, .ref b, .int (Int32.ofNat o), .int (Int32.ofNat len), .null] 6)) (T8.setTop (mkF m 45 #[.val (.ref a), .val (.ref b), .val (.int (Int32.ofNat o)), .val (.int (Int32.ofNat len)), .val .null, .val (.ref s.heap.size)] [.int (Int32.ofNat N.slots.size), .ref s.heap.size, .ref a])) := by
    have hc : Steps p.tables e below (s₁.setTop (entryFrame m #[.ref a, .ref b, .int (Int32.ofNat o), .int (Int32.ofNat len), .null] 6)) (T8.setTop (mkF m 45 #[.val (.ref a), .val (.ref b), .val (.int (Int32.ofNat o)), .val (.int (Int32.ofNat len)), .val .null, .val (.ref s.heap.size)] [.int (Int32.ofNat len), .ref s.heap.size, .ref a])) := c9.trans (by
      refine XS.astore X8.here hexec rfl (hb hbytes d39) rfl rfl rfl ?_
      refine XS.aloadN X8.here hexec rfl (hb hbytes d41) rfl rfl ?_
      refine XS.aload X8.here hexec rfl (hb hbytes d42) rfl rfl ?_
      refine XS.iloadN X8.here hexec rfl (hb hbytes d44) rfl ?_
      exact Steps.refl _)
    rw [n4]; exact hc
  obtain ⟨v11, T11, X11, E11, g11⟩ := X8.callS hexec (CodL.law l s.heap.size N) hown (wks W (staticW "java/lang/String" 47 CodL.yN)) (wk W CodL.tab) (W := 1) (Nat.le_of_ble_eq_true rfl) (Nat.le_of_ble_eq_true rfl) (Nat.le_refl _) (by show 0 + len + 0 ≤ len; omega) (g := (mkF m 45 #[.val (.ref a), .val (.ref b), .val (.int (Int32.ofNat o)), .val (.int (Int32.ofNat len)), .val .null, .val (.ref s.heap.size)] [.int (Int32.ofNat N.slots.size), .ref s.heap.size, .ref a])) rfl (by rw [hml]; rfl) c10 (argsL := [.ref s.heap.size, .int (Int32.ofNat N.slots.size)]) (rest := [.ref a]) rfl rfl (by show 2 * 0 + (1 + 0) ≤ _; decide) (hb hbytes d45) (⟨rfl, n1⟩)
  obtain ⟨rfl, q11⟩ := E11
  have hB11 := hB1.mv (X8.warmed.alike.symm.trans X11.warmed.alike) q11
  have c12 : Steps p.tables e below (s₁.setTop (entryFrame m #[.ref a, .ref b, .int (Int32.ofNat o), .int (Int32.ofNat len), .null] 6)) (T11.setTop (mkF m 48 #[.val (.ref a), .val (.ref b), .val (.int (Int32.ofNat o)), .val (.int (Int32.ofNat len)), .val .null, .val (.ref s.heap.size)] [.int 0, .ref a])) := g11
  obtain ⟨T13, X13, p13, bl13, sl13, st13⟩ := X11.finit hexec hown (wk W (.fieldLink "java/lang/String" 15 "java/lang/String" "coder" "B")) (Or.inr ⟨_, (wk W (.laysFinal "java/lang/String" "java/lang/String" "coder" "B"))⟩) (Or.inl ⟨rfl, hnm⟩) f2 (Or.inl rfl) hB11 (t := .byte) (by decide +kernel) rfl (g := (mkF m 48 #[.val (.ref a), .val (.ref b), .val (.int (Int32.ofNat o)), .val (.int (Int32.ofNat len)), .val .null, .val (.ref s.heap.size)] [.int 0, .ref a])) rfl (rest := []) rfl (hb hbytes d48)
  have c14 : Steps p.tables e below (s₁.setTop (entryFrame m #[.ref a, .ref b, .int (Int32.ofNat o), .int (Int32.ofNat len), .null] 6)) (T13.setTop (mkF m 54 #[.val (.ref a), .val (.ref b), .val (.int (Int32.ofNat o)), .val (.int (Int32.ofNat len)), .val .null, .val (.ref s.heap.size)] [.ref s.heap.size, .ref a])) := (c12.trans (st13 _ (Steps.refl _))).trans (by
    refine XS.aloadN X13.here hexec rfl (hb hbytes d51) rfl rfl ?_
    refine XS.aload X13.here hexec rfl (hb hbytes d52) rfl rfl ?_
    exact Steps.refl _)
  obtain ⟨T15, X15, p15, bl15, sl15, st15⟩ := X13.finit hexec hown (wk W (.fieldLink "java/lang/String" 9 "java/lang/String" "value" "[B")) (Or.inr ⟨_, (wk W (.laysFinal "java/lang/String" "java/lang/String" "value" "[B"))⟩) (Or.inl ⟨rfl, hnm⟩) f1 (Or.inl rfl) bl13 (t := (.array .byte)) (by decide +kernel) rfl (g := (mkF m 54 #[.val (.ref a), .val (.ref b), .val (.int (Int32.ofNat o)), .val (.int (Int32.ofNat len)), .val .null, .val (.ref s.heap.size)] [.ref s.heap.size, .ref a])) rfl (rest := []) rfl (hb hbytes d54)
  have c16 : Steps p.tables e below (s₁.setTop (entryFrame m #[.ref a, .ref b, .int (Int32.ofNat o), .int (Int32.ofNat len), .null] 6)) (T15.setTop (mkF m 57 #[.val (.ref a), .val (.ref b), .val (.int (Int32.ofNat o)), .val (.int (Int32.ofNat len)), .val .null, .val (.ref s.heap.size)] [])) := c14.trans (st15 _ (Steps.refl _))
  have ap := apart (Or.inr ⟨_, (wk W (.laysFinal "java/lang/String" "java/lang/String" "value" "[B"))⟩) (Or.inr ⟨_, (wk W (.laysFinal "java/lang/String" "java/lang/String" "coder" "B"))⟩) f1 f2 (t₁ := .array .byte) (t₂ := .byte) (by decide +kernel) (by decide +kernel) (by decide)
  have al := X8.warmed.alike.symm.trans X15.warmed.alike
  have n7 : T11.heap[s.heap.size]? = some N := by rw [q11]; exact n1.1
  exact ⟨T15, none, _, _, _, X15, by simp, rfl, by omega, (fun _ => rfl), ⟨rfl, _, N, bl15, ((Same.refl D _).set _ (by simp)).set _ (by simp), sl15, (Cell.slots_setSlot_ne _ ap).trans sl13, n1.keep al (p15.other hne (p13.other hne n7)), n2, by rw [al.findClass]; exact n3, n4, n5, fun y c h1 h2 => p15.other h1 (p13.other h1 (by rw [q11]; exact n6 y c h2)), by rw [p15.2.2, p13.2.2, q11]; exact z8⟩, fun fs hl => c16.trans (X15.returnOut hexec hret (hb hbytes d57) hl)⟩
end New4
namespace New1
def yN : MethodName := ⟨"java/lang/String", "<init>", "([C)V"⟩
abbrev yB : ByteArray := jdk_42_method_3_code
theorem d0 : decode yB 0 = .ok (.aload_n 0, 1) := by decide +kernel
theorem d1 : decode yB 1 = .ok (.aload_n 1, 1) := by decide +kernel
theorem d2 : decode yB 2 = .ok (.iconst 0, 1) := by decide +kernel
theorem d3 : decode yB 3 = .ok (.aload_n 1, 1) := by decide +kernel
theorem d4 : decode yB 4 = .ok (.arraylength, 1) := by decide +kernel
theorem d5 : decode yB 5 = .ok (.aconst_null, 1) := by decide +kernel
theorem d6 : decode yB 6 = .ok (.invokespecial 27, 3) := by decide +kernel
theorem d9 : decode yB 9 = .ok (.return_, 1) := by decide +kernel
def site : List Cond := [New4.tab] ++ initW "java/lang/String" 27 New4.yN
def tab : Cond := tabOf yN yB 2 none site
def P (a : Addr) (D : Cell) (fV fC : Field) (b : Addr) (A : Cell) (z : Int32) (args : Array Value) (s : State) : Prop := args = #[.ref a, .ref b] ∧ Blank "java/lang/String" a D s ∧ Found "java/lang/String" "value" "[B" fV s ∧ Found "java/lang/String" "coder" "B" fC s ∧ Ch b A s ∧ StaticIs s "java/lang/String" "COMPACT_STRINGS" "Z" (.int z) ∧ ¬ z = 0 ∧ 0 < A.slots.size ∧ A.slots.size ≤ 536870912 ∧ ∀ i, i < A.slots.size → ¬ 255 < cv A i
def E (a : Addr) (D : Cell) (fV fC : Field) (A : Cell) (r : Option Value) (s u : State) : Prop := Got a D fV fC A 0 A.slots.size r s u
/-- new String(chars), not empty, no char above 255: a Latin-1 String of their low bytes -/
theorem law (l : Launch) (a : Addr) (D : Cell) (fV fC : Field) (b : Addr) (A : Cell) (z : Int32) : Law l yN 2 1 3 52 yB 2 none site (P a D fV fC b A z) (E a D fV fC A) [⟨a, fC.slot⟩, ⟨a, fV.slot⟩] 1 A.slots.size := by
  refine Law.of_walk (plainFor_of_name (by decide +kernel)) (by decide +kernel) (by decide +kernel) (by decide) (fun _ _ h => by rw [h.1]; rfl) (fun _ U U' hal hh h => ⟨h.1, h.2.1.mv hal hh, h.2.2.1.al hal, h.2.2.2.1.al hal, h.2.2.2.2.1.mv hal hh, h.2.2.2.2.2.1.there hal hh, h.2.2.2.2.2.2⟩) (fun r U U' V V' h1 hal h2 h => Got.mv r U U' V V' h1 hal h2 h) ?_
  intro p e s m args below meth c s₁ X0 hexec hbytes hml hret hlk hnm hown hh0 W hP
  obtain ⟨rfl, hB, f1, f2, hA, s1, hz, l0, l2, hp⟩ := hP
  have c1 : Steps p.tables e below (s₁.setTop (entryFrame m #[.ref a, .ref b] 2)) (s₁.setTop (mkF m 0 #[.val (.ref a), .val (.ref b)] [])) := entry rfl
  have c2 : Steps p.tables e below (s₁.setTop (entryFrame m #[.ref a, .ref b] 2)) (s₁.setTop (mkF m 6 #[.val (.ref a), .val (.ref b)] [.null, .int (Int32.ofNat A.slots.size), .int 0, .ref b, .ref a])) := c1.trans (by
    refine XS.aloadN X0.here hexec rfl (hb hbytes d0) rfl rfl ?_
    refine XS.aloadN X0.here hexec rfl (hb hbytes d1) rfl rfl ?_
    refine iconstV X0.here hexec rfl 0 (hb hbytes d2) (by decide) ?_
    refine XS.aloadN X0.here hexec rfl (hb hbytes d3) rfl rfl ?_
    refine X0.alen hexec (hA.1.mv X0.warmed.alike hh0) rfl rfl (hb hbytes d4) ?_
    refine XS.aconstNull X0.here hexec rfl (hb hbytes d5) ?_
    exact Steps.refl _)
  obtain ⟨v3, T3, X3, E3, g3⟩ := X0.callN hexec (New4.law l a D fV fC b A z 0 A.slots.size) rfl hown (wks W (initW "java/lang/String" 27 New4.yN)) (W New4.tab (by simp only [site, List.mem_cons, List.mem_append, true_or, or_true])) (W := 0) (Nat.le_of_ble_eq_true rfl) (Nat.le_of_ble_eq_true rfl) (Nat.le_refl _) (by show 0 + A.slots.size ≤ A.slots.size; omega) (g := (mkF m 6 #[.val (.ref a), .val (.ref b)] [.null, .int (Int32.ofNat A.slots.size), .int (Int32.ofNat 0), .ref b, .ref a])) rfl (by rw [hml]; rfl) c2 (argsL := [.ref b, .int (Int32.ofNat 0), .int (Int32.ofNat A.slots.size), .null]) (rest := []) rfl rfl (by show 2 * 0 + 0 ≤ _; decide) (hb hbytes d6) (⟨rfl, hB.mv X0.warmed.alike hh0, f1.al X0.warmed.alike, f2.al X0.warmed.alike, hA.mv X0.warmed.alike hh0, s1.there X0.warmed.alike hh0, hz, l0, by omega, l2, fun i hi => by rw [Nat.zero_add]; exact hp i hi⟩)
  have e0 := Got.mv _ s₁ s _ _ hh0.symm (Vm.Alike.refl _) rfl E3
  obtain rfl := e0.1
  have c4 : Steps p.tables e below (s₁.setTop (entryFrame m #[.ref a, .ref b] 2)) (T3.setTop (mkF m 9 #[.val (.ref a), .val (.ref b)] [])) := g3
  exact ⟨T3, none, _, _, _, X3, by simp, rfl, by omega, (fun _ => rfl), e0, fun fs hl => c4.trans (X3.returnOut hexec hret (hb hbytes d9) hl)⟩
theorem pays {l : Launch} {R : Room} {p : Program} {e : Env} {below : List Frame} {s : State} {sargs : Array Value} {len W : Nat} (a : Addr) (D : Cell) (fV fC : Field) (b : Addr) (A : Cell) (z : Int32) (htab : tab.before sargs s = true) (hfr : 4 ≤ R.frames) (hlo : W + 65 ≤ R.locals) :
    Back l R p e below s sargs yN len W (fun A₁ a₁ => A₁.cells + 1 ≤ R.cells ∧ A₁.slots + A.slots.size ≤ R.slots ∧ P a D fV fC b A z a₁ A₁.U) (fun A₁ _ v₁ B₁ => E a D fV fC A v₁ A₁.U B₁.U ∧ B₁.locs = A₁.locs ++ [⟨a, fC.slot⟩, ⟨a, fV.slot⟩] ∧ B₁.cells = A₁.cells + 1 ∧ B₁.slots = A₁.slots + A.slots.size) :=
  (law l a D fV fC b A z).pays htab hfr (by omega)
end New1
/-- the byte, read back as charAt reads it, is the char -/
theorem lo8_mask {x : Int32} (h0 : ¬ x < 0) (h1 : ¬ 255 < x) : lo8 x &&& 255 = x := by
  have t : ∀ k : Fin 256, lo8 (Int32.ofNat k.val) &&& 255 = Int32.ofNat k.val := by decide +kernel
  rw [Int32.lt_iff_toInt_lt] at h0 h1
  have e0 : (0 : Int32).toInt = 0 := rfl
  have e1 : (255 : Int32).toInt = 255 := rfl
  obtain ⟨k, hk⟩ : ∃ k : Nat, x.toInt = k := ⟨x.toInt.toNat, by omega⟩
  have hx : x = Int32.ofNat k := Int32.toInt_inj.mp (by rw [hk, Int32.toInt_ofNat_small (by omega)])
  rw [hx]
  exact t ⟨k, by omega⟩
end StrChars
namespace StrChars.Road
open Jvm Sem ClassFile Op Lib Jvm.Stand Jvm.Free Jvm.Free.XT
open Jvm.Lib.Cold (StaticIs)
abbrev ST : String := "java/lang/String"
/-- every table word that New1's law asks, flat -/
abbrev words : List Jvm.Cond := [.code New1.yN New1.yB 2 none, .initialized ST, .methodLink ST 27 New4.yN, .instanceMethod New4.yN,
  .code New4.yN New4.yB 6 none, .fieldLink ST 38 ST "COMPACT_STRINGS" "Z", .laysFinal ST ST "value" "[B", .fieldLink ST 9 ST "value" "[B", .laysFinal ST ST "coder" "B", .fieldLink ST 15 ST "coder" "B",
  .methodLink ST 1 Lib.objectInit, .instanceMethod Lib.objectInit, .code Lib.objectInit ⟨#[0xb1]⟩ 1 none, .methodLink ST 177 Cmp3.yN, .static Cmp3.yN, .methodLink ST 47 CodL.yN, .static CodL.yN,
  .code Cmp3.yN Cmp3.yB 6 (some (.array .byte)), .initialized U16, .arrayClass .byte, .methodLink U16 115 Cmp5.yN, .static Cmp5.yN, .code Cmp5.yN Cmp5.yB 7 (some .int), .code CodL.yN CodL.yB 2 (some .byte)]
theorem tab_of {a : Array Value} {s : State} (h : ∀ w ∈ words, w.before a s = true) : New1.tab.before a s = true := by
  have h5 : Cmp5.tab.before a s = true := unparts (wk h (.code Cmp5.yN Cmp5.yB 7 (some .int))) (wks h (.initialized Cmp5.yN.cls :: Cmp5.site))
  have hc : CodL.tab.before a s = true := unparts (wk h (.code CodL.yN CodL.yB 2 (some .byte))) (wks h (.initialized CodL.yN.cls :: CodL.site))
  have q5 : ∀ w ∈ Cmp5.tab :: words, w.before a s = true := fun w hw => (List.mem_cons.mp hw).elim (fun e => e ▸ h5) (h w)
  have h3 : Cmp3.tab.before a s = true := unparts (wk q5 (.code Cmp3.yN Cmp3.yB 6 (some (.array .byte)))) (wks q5 (.initialized Cmp3.yN.cls :: Cmp3.site))
  have q3 : ∀ w ∈ Cmp3.tab :: CodL.tab :: words, w.before a s = true := fun w hw => (List.mem_cons.mp hw).elim (fun e => e ▸ h3) fun hw => (List.mem_cons.mp hw).elim (fun e => e ▸ hc) (h w)
  have h4 : New4.tab.before a s = true := unparts (wk q3 (.code New4.yN New4.yB 6 none)) (wks q3 (.initialized New4.yN.cls :: New4.site))
  have q4 : ∀ w ∈ New4.tab :: words, w.before a s = true := fun w hw => (List.mem_cons.mp hw).elim (fun e => e ▸ h4) (h w)
  exact unparts (wk q4 (.code New1.yN New1.yB 2 none)) (wks q4 (.initialized New1.yN.cls :: New1.site))
/-- the words ride from the start Z to the walk's own state -/
theorem moved {Z s : State} {a0 args : Array Value} (hZ : Z.Warmed39 s.vm) (hw : ∀ d ∈ words, d.before a0 Z = true) : ∀ d ∈ words, d.before args s = true := fun d hd => by
  have q := hw d hd
  have t : ∀ d ∈ words, d = .arrayClass .byte ∨ (d.onTables && d.keepsFace) = true := by decide +kernel
  rcases t d hd with rfl | t
  · exact RoadKit.mvA hZ q
  · exact RoadKit.mv hZ q t
/-- WHAT COMES BACK, over the tables of the start Z: h the heap at the call, h' behind it -/
def Q (Z : State) (x : Addr) (A : Cell) (h : Heap) (v : Option Value) (h' : Heap) (L : List Loc) : Prop := v = none ∧ (∀ y ∈ L, y.base = x) ∧ RoadKit.Keep h h' [x] ∧ h'.size = h.size + 1 ∧ RoadKit.Exa Z h' x ST ∧ RoadKit.Fld Z h' x ST "value" "[B" (.ref h.size) ∧ RoadKit.Fld Z h' x ST "coder" "B" (.int 0) ∧
  (∃ V : Cell, RoadKit.Arr Z h' h.size V .byte ∧ V.vm = .none ∧ Z.vm.findClass "[B" = some V.cls ∧ V.slots.size = A.slots.size ∧ ∀ j, j < A.slots.size → V.slots[j]? = some (.int (lo8 (cv A j)))) ∧
  ∀ (O n d : String) (w : Value), RoadKit.Fld Z h x O n d w → RoadKit.slotOf Z O n d ≠ RoadKit.slotOf Z ST "value" "[B" → RoadKit.slotOf Z O n d ≠ RoadKit.slotOf Z ST "coder" "B" → RoadKit.Fld Z h' x O n d w
/-- **new String(chars) AT A CALL, IN THE ROAD'S FORM**: for specialBack behind newO: x the fresh String, b the char[] with the cell A -/
theorem back {p : Program} {l : Launch} {e : Env} {R : Room} {s : State} {args : Array Value} {below : List Frame} {len W : Nat} {Z : State} {a0 : Array Value} {h : Heap} (hZ : Z.Warmed39 s.vm) (hw : ∀ d ∈ words, d.before a0 Z = true) {kI : Nat} (wi : (Jvm.Cond.instantiable ST kI).before a0 Z = true)
    {x b : Addr} {A : Cell} {z : Int32} {v0 c0 : Value} (E : RoadKit.Exa Z h x ST) (V : RoadKit.Fld Z h x ST "value" "[B" v0) (C : RoadKit.Fld Z h x ST "coder" "B" c0) (K : RoadKit.Arr Z h b A .char) (hty : Typed .char A) (S : RoadKit.Sta Z h ST "COMPACT_STRINGS" "Z" (.int z)) (hz : ¬ z = 0)
    (l0 : 0 < A.slots.size) (l2 : A.slots.size ≤ 536870912) (hp : ∀ i, i < A.slots.size → ¬ 255 < cv A i) (hfr : 4 ≤ R.frames) (hlo : W + 65 ≤ R.locals) :
    Back l R p e below s args New1.yN len W (fun P a => a = #[.ref x, .ref b] ∧ P.U.heap = h ∧ P.cells + 1 ≤ R.cells ∧ P.slots + A.slots.size ≤ R.slots)
      (fun P _ v B => ∃ L, Q Z x A h v B.U.heap L ∧ B.locs = P.locs ++ L ∧ B.cells = P.cells + 1 ∧ B.slots = P.slots + A.slots.size) := by
  intro m meth c P g ig mk a X hg hsize hdg hW hn hp'
  obtain ⟨rfl, rfl, r1, r2⟩ := hp'
  have al : Z.vm.Alike P.U.vm := hZ.alike.trans X.warmed.alike
  obtain ⟨D, cfV, kV, iV, fV, hD, gV, stV, knV, obV, asV, slV⟩ := id V
  obtain ⟨D', cfC, kC, iC, fC, hD', gC, stC, -, -, asC, slC⟩ := id C
  cases hD.symm.trans hD'
  obtain ⟨D2, kD, e1, e2, e3, e4, e5⟩ := id E
  cases hD.symm.trans e1
  obtain ⟨c2, k2, i1, i2, i3, -⟩ := Cond.instantiable_spec wi
  cases e2.symm.trans i1
  cases e3.symm.trans i2
  obtain ⟨kU, u1, u2⟩ := al.2.2 _ _ e3
  have hB : Blank ST x D P.U := ⟨hD, ⟨knV, fun q hq => by rw [hq] at obV; cases obV⟩, by rw [al.findClass]; exact e2, kU, u1, by rw [u2]; exact i3, by rw [u2]; exact e5 i3⟩
  have F1 : Found ST "value" "[B" fV P.U := ⟨SBG.found_only al ⟨cfV, kV, iV, gV⟩, stV⟩
  have F2 : Found ST "coder" "B" fC P.U := ⟨SBG.found_only al ⟨cfC, kC, iC, gC⟩, stC⟩
  have hA : Ch b A P.U := ⟨⟨K.1, State.isArrayOf_alike al K.2.1, K.2.2, by omega⟩, hty⟩
  have hS : StaticIs P.U ST "COMPACT_STRINGS" "Z" (.int z) := by
    obtain ⟨cfS, iS, kS, fS, st, cS, t1, t2, t3, t4, t5, t6, t7⟩ := S
    exact StaticIs.there (s := { Z with heap := P.U.heap }) ⟨cfS, iS, kS, fS, st, cS, t1, t2, t3, t4, t5, (fun q => by rw [q] at t6; cases t6), t7⟩ al rfl
  obtain ⟨v, B, X', ⟨⟨hv, E', V', q1, q2, q3, q4, q5, q6, q7, q8, q9, q10, q11⟩, hl, hc, hs⟩, st⟩ := New1.pays x D fV fC b A z (tab_of (moved hZ hw)) hfr hlo m meth c P g ig mk _ X hg hsize hdg hW hn ⟨r1, r2, rfl, hB, F1, F2, hA, hS, hz, l0, l2, hp⟩
  have al' : Z.vm.Alike B.U.vm := hZ.alike.trans X'.warmed.alike
  have hsz : E'.slots.size = D.slots.size := by
    obtain ⟨-, -, -, kB, w1, w2, w3⟩ := q1
    obtain ⟨kB', y1, y2⟩ := al'.2.2 _ _ e3
    rw [q2.2.1] at w1
    cases w1.symm.trans y1
    rw [w3, e5 i3, y2]
  refine ⟨v, B, X', ⟨_, ⟨hv, ?_, ⟨by omega, fun y cy hy hn' => q10 y cy (by simpa using hn') hy, fun y cy hy => ?_⟩, q11, ⟨E', _, q1.1, by rw [q2.2.1]; exact e2, by rw [q2.2.1]; exact e3, by rw [q2.1]; exact obV, fun _ => by rw [hsz]; exact e5 i3⟩,
    ⟨E', cfV, kV, iV, fV, q1.1, gV, stV, by rw [q2.1]; exact knV, by rw [q2.1]; exact obV, by rw [q2.2.1]; exact asV, q3⟩, ⟨E', cfC, kC, iC, fC, q1.1, gC, stC, by rw [q2.1]; exact knV, by rw [q2.1]; exact obV, by rw [q2.2.1]; exact asC, q4⟩,
    ⟨V', ⟨q5.1, State.isArrayOf_alike al'.symm q5.2.1, q5.2.2.1⟩, q6, by rw [← al'.findClass]; exact q7, q8, fun j hj => by have := q9 j hj; rwa [Nat.zero_add] at this⟩, fun O n d w F n1 n2 => ?_⟩, hl, hc, hs⟩, st⟩
  · intro y hy
    simp only [List.mem_cons, List.not_mem_nil, or_false] at hy
    rcases hy with rfl | rfl <;> rfl
  · by_cases q : y = x
    · subst q
      cases hD.symm.trans hy
      exact ⟨E', q1.1, q2.2.1, q2.1, hsz⟩
    · exact ⟨cy, q10 y cy q hy, rfl, rfl, rfl⟩
  · obtain ⟨D3, cf, k, i, f, g1, g2, g3, g4, g5, g6, g7⟩ := F
    cases hD.symm.trans g1
    simp only [RoadKit.slotOf, g2, gV, gC, Option.map_some, Option.getD_some] at n1 n2
    exact ⟨E', cf, k, i, f, q1.1, g2, g3, by rw [q2.1]; exact g4, by rw [q2.1]; exact g5, by rw [q2.2.1]; exact g6, by rw [q2.2.2 f.slot (by simp [n1, n2])]; exact g7⟩
end StrChars.Road
namespace StrChars.Road
open Jvm Sem ClassFile Op Lib Jvm.Stand Jvm.Free Jvm.Free.XT
/-- WHAT COMES BACK, the byte[] as a list of values -/
def QA (Z : State) (x : Addr) (zn : Int32) (cs : List Int32) (h : Heap) (v : Option Value) (h' : Heap) (L : List Loc) : Prop := v = none ∧ (∀ y ∈ L, y.base = x) ∧ RoadKit.Keep h h' [x] ∧ h'.size = h.size + 1 ∧ RoadKit.Exa Z h' x ST ∧ RoadKit.Fld Z h' x ST "value" "[B" (.ref h.size) ∧ RoadKit.Fld Z h' x ST "coder" "B" (.int 0) ∧
  (∃ kb, Z.vm.findClass "[B" = some kb ∧ RoadKit.Arv Z h' h.size kb .byte zn (cs.map fun c => .int (lo8 c)) (.int 0)) ∧
  ∀ (O n d : String) (w : Value), RoadKit.Fld Z h x O n d w → RoadKit.slotOf Z O n d ≠ RoadKit.slotOf Z ST "value" "[B" → RoadKit.slotOf Z O n d ≠ RoadKit.slotOf Z ST "coder" "B" → RoadKit.Fld Z h' x O n d w
/-- **new String(chars) AT A CALL, THE ARRAYS AS LISTS**: the char[] at b holds cs, not empty, no char above 255 -/
theorem backArv {p : Program} {l : Launch} {e : Env} {R : Room} {s : State} {args : Array Value} {below : List Frame} {len W : Nat} {Z : State} {a0 : Array Value} {h : Heap} (hZ : Z.Warmed39 s.vm) (hw : ∀ d ∈ words, d.before a0 Z = true) {kI : Nat} (wi : (Jvm.Cond.instantiable ST kI).before a0 Z = true)
    {x b : Addr} {k : ClassId} {zn z : Int32} {cs : List Int32} {dv v0 c0 : Value} (E : RoadKit.Exa Z h x ST) (V : RoadKit.Fld Z h x ST "value" "[B" v0) (C : RoadKit.Fld Z h x ST "coder" "B" c0) (K : RoadKit.Arv Z h b k .char zn (cs.map Value.int) dv) (S : RoadKit.Sta Z h ST "COMPACT_STRINGS" "Z" (.int z)) (hz : ¬ z = 0)
    (hlen : zn.toNatClampNeg = cs.length) (h0 : 0 < cs.length) (hbig : cs.length ≤ 536870912) (hall : ∀ c ∈ cs, ¬ 255 < c) (hfr : 4 ≤ R.frames) (hlo : W + 65 ≤ R.locals) :
    Back l R p e below s args New1.yN len W (fun P a => a = #[.ref x, .ref b] ∧ P.U.heap = h ∧ P.cells + 1 ≤ R.cells ∧ P.slots + cs.length ≤ R.slots)
      (fun P _ v B => ∃ L, QA Z x zn cs h v B.U.heap L ∧ B.locs = P.locs ++ L ∧ B.cells = P.cells + 1 ∧ B.slots = P.slots + cs.length) := by
  obtain ⟨A, K1, K2, K3, K4, K5, K6⟩ := K
  have e : A.slots.size = cs.length := K3.trans hlen
  have hat : ∀ (i : Nat) (hi : i < cs.length), A.slots[i]? = some (.int cs[i]) := fun i hi => by rw [K5 i (by omega)]; simp [List.getD_eq_getElem?_getD, hi]
  have hcv : ∀ (i : Nat) (hi : i < cs.length), cv A i = cs[i] := fun i hi => by unfold cv; rw [hat i hi]
  have hty : Typed .char A := fun i v hv => by
    have hi : i < A.slots.size := (Array.getElem?_eq_some_iff.mp hv).1
    have q := K5 i hi
    rw [hv] at q
    rw [Option.some.inj q]
    exact K6 i hi
  refine Back.mono (back hZ hw wi E V C K1 hty S hz (by omega) (by omega) (fun i hi => by rw [hcv i (by omega)]; exact hall _ (List.getElem_mem _)) hfr hlo) (fun P a hp => ⟨hp.1, hp.2.1, hp.2.2.1, by rw [e]; exact hp.2.2.2⟩) (fun P a v B hp hq => ?_)
  obtain ⟨L, ⟨q1, q2, q3, q4, q5, q6, q7, ⟨V', v1, v2, v3, v4, v5⟩, q9⟩, hl, hc, hs⟩ := hq
  refine ⟨L, ⟨q1, q2, q3, q4, q5, q6, q7, ⟨V'.cls, v3, V', v1, rfl, by rw [v4, e, hlen], K4, fun i hi => ?_, fun i hi => ?_⟩, q9⟩, hl, hc, by rw [hs, e]⟩
  · have hi' : i < cs.length := by omega
    rw [v5 i (by omega), hcv i hi']; simp [List.getD_eq_getElem?_getD, hi']
  · have hi' : i < cs.length := by omega
    simp only [List.getD_eq_getElem?_getD, List.getElem?_map, List.getElem?_eq_getElem hi', Option.map_some, Option.getD_some]
    exact fits_lo8 _
end StrChars.Road
namespace StrChars.Road
open Jvm Sem ClassFile Op Lib Jvm.Stand Jvm.Free Jvm.Free.XT
/-- WHAT COMES BACK, in the writer's own shape -/
def QV (Z : State) (x : Addr) (N : Int32) (bs : List Int32) (h : Heap) (n0 : Nat) (v : Option Value) (h' : Heap) (L : List Loc) : Prop := v = none ∧ RoadKit.Fr n0 L ∧ RoadKit.Keep h h' [x] ∧ RoadKit.Exa Z h' x ST ∧ RoadKit.Fld Z h' x ST "coder" "B" (.int 0) ∧
  ∃ (t : Addr) (kb : ClassId), n0 ≤ t ∧ h.size ≤ t ∧ ¬ t = x ∧ RoadKit.Fld Z h' x ST "value" "[B" (.ref t) ∧ RoadKit.Arv Z h' t kb .byte N (bs.map Value.int) (.int 0)
/-- **new String(chars) AT A CALL, FOR THE WRITER**: a char[] of n known ints, each 0 to 255 -/
theorem backV {p : Program} {l : Launch} {e : Env} {R : Room} {s : State} {args : Array Value} {below : List Frame} {len W : Nat} {Z : State} {a0 : Array Value} {h : Heap} (hZ : Z.Warmed39 s.vm) (hw : ∀ d ∈ words, d.before a0 Z = true) {kI : Nat} (wi : (Jvm.Cond.instantiable ST kI).before a0 Z = true)
    {x b : Addr} {kC : ClassId} {cs bs : List Int32} {d v0 c0 : Value} {z N : Int32} {n n0 : Nat} (hx0 : n0 ≤ x) (hh0 : n0 ≤ h.size) (E : RoadKit.Exa Z h x ST) (V : RoadKit.Fld Z h x ST "value" "[B" v0) (C : RoadKit.Fld Z h x ST "coder" "B" c0) (K : RoadKit.Arv Z h b kC .char N (cs.map Value.int) d) (S : RoadKit.Sta Z h ST "COMPACT_STRINGS" "Z" (.int z)) (hz : ¬ z = 0)
    (hn : cs.length = n) (hN : N = Int32.ofNat n) (l0 : 0 < n) (l2 : n ≤ 4000) (hp : ∀ c ∈ cs, ¬ c < 0 ∧ ¬ (255 : Int32) < c) (hb : bs = cs.map (fun c => c.toInt8.toInt32)) (hfr : 4 ≤ R.frames) (hlo : W + 65 ≤ R.locals) :
    Back l R p e below s args (⟨"java/lang/String", "<init>", "([C)V"⟩ : MethodName) len W (fun P a => a = #[.ref x, .ref b] ∧ P.U.heap = h ∧ P.cells + 1 ≤ R.cells ∧ P.slots + n ≤ R.slots)
      (fun P _ v B => ∃ L, QV Z x N bs h n0 v B.U.heap L ∧ B.locs = P.locs ++ L ∧ B.cells = P.cells + 1 ∧ B.slots = P.slots + n) := by
  subst hn hN hb
  refine Back.mono (backArv hZ hw wi E V C K S hz (n32 (by omega)) l0 (by omega) (fun c hc => (hp c hc).2) hfr hlo) (fun P a hp => hp) (fun P a v B hp hq => ?_)
  obtain ⟨L, ⟨q1, q2, q3, q4, q5, q6, q7, ⟨kb, v1, v2⟩, q9⟩, hl, hc, hs⟩ := hq
  exact ⟨L, ⟨q1, fun y hy => by rw [q2 y hy]; exact hx0, q3, q5, q7, h.size, kb, hh0, Nat.le_refl _, Nat.ne_of_gt E.lt, q6, by rw [List.map_map]; exact v2⟩, hl, hc, hs⟩
end StrChars.Road
namespace StrChars
open Jvm Sem ClassFile Op Lib Jvm.Stand Jvm.Free.XT Jvm.Free.ALB Jvm.Free.JM Jvm.Free
open Jvm.Lib.Cold (StaticIs)
def hi8 (x : Int32) : Int32 := lo8 (x >>> ((8 : Int32) &&& 31))
/-- what StringUTF16.getChar makes of two bytes -/
def pairCh (u v : Int32) : Int32 := (((u &&& 255) <<< ((0 : Int32) &&& 31)) ||| ((v &&& 255) <<< ((8 : Int32) &&& 31))).toUInt32.toUInt16.toUInt32.toInt32
theorem lo8_and (x : Int32) : (lo8 x &&& 255).toBitVec.toNat = x.toBitVec.toNat % 256 := by
  have h : (lo8 x).toBitVec = (x.toBitVec.signExtend 8).signExtend 32 := by rw [lo8, Int8.toBitVec_toInt32, Int32.toBitVec_toInt8]
  rw [Int32.toBitVec_and, BitVec.toNat_and, h]
  have e : ((x.toBitVec.signExtend 8).signExtend 32).toNat % 256 = x.toBitVec.toNat % 256 := by
    rw [BitVec.toNat_signExtend]
    have hlt := x.toBitVec.isLt
    simp only [BitVec.toNat_setWidth, BitVec.toNat_signExtend]
    split <;> split <;> omega
  rw [← e]
  exact Nat.and_two_pow_sub_one_eq_mod _ 8
theorem pair_says {c : Int32} (h0 : ¬ c < 0) (h1 : ¬ 65535 < c) : pairCh (lo8 c) (hi8 c) = c := by
  rw [Int32.lt_iff_toInt_lt] at h0 h1
  have e0 : (0 : Int32).toInt = 0 := rfl
  have e1 : (65535 : Int32).toInt = 65535 := rfl
  have hc : c.toInt = c.toBitVec.toNat := by
    have := c.toBitVec.isLt
    have e : c.toInt = c.toBitVec.toInt := rfl
    rw [e] at h0 h1
    rw [e]
    rw [BitVec.toInt_eq_toNat_cond] at h0 h1 ⊢
    split at h0 <;> split <;> omega
  have hn : c.toBitVec.toNat < 65536 := by omega
  have a1 := lo8_and c
  have a2 : (hi8 c &&& 255).toBitVec.toNat = c.toBitVec.toNat / 256 := by
    rw [hi8, lo8_and]
    have e : ((8 : Int32) &&& 31) = 8 := by decide
    rw [e, Int32.toBitVec_shiftRight]
    have e2 : ((8 : Int32).toBitVec.smod 32) = 8#32 := by decide
    rw [e2, BitVec.sshiftRight_eq', BitVec.toNat_sshiftRight_of_msb_false (by rw [BitVec.msb_eq_false_iff_two_mul_lt]; omega)]
    show c.toBitVec.toNat >>> 8 % 256 = _
    rw [Nat.shiftRight_eq_div_pow]
    omega
  unfold pairCh
  apply Int32.toBitVec_inj.mp
  apply BitVec.eq_of_toNat_eq
  have f0 : ((0 : Int32) &&& 31) = 0 := by decide
  have f8 : ((8 : Int32) &&& 31) = 8 := by decide
  rw [f0, f8]
  have g : (((lo8 c &&& 255) <<< (0 : Int32)) ||| ((hi8 c &&& 255) <<< (8 : Int32))).toBitVec.toNat = c.toBitVec.toNat := by
    rw [Int32.toBitVec_or, Int32.toBitVec_shiftLeft, Int32.toBitVec_shiftLeft]
    have s0 : ((0 : Int32).toBitVec.smod 32) = 0#32 := by decide
    have s8 : ((8 : Int32).toBitVec.smod 32) = 8#32 := by decide
    rw [s0, s8, BitVec.toNat_or]
    simp only [BitVec.shiftLeft_eq', BitVec.toNat_shiftLeft, a1, a2]
    show (c.toBitVec.toNat % 256) <<< 0 % 2 ^ 32 ||| (c.toBitVec.toNat / 256) <<< 8 % 2 ^ 32 = _
    rw [Nat.shiftLeft_zero, Nat.mod_eq_of_lt (show c.toBitVec.toNat % 256 < 2 ^ 32 by omega), Nat.mod_eq_of_lt (show (c.toBitVec.toNat / 256) <<< 8 < 2 ^ 32 by rw [Nat.shiftLeft_eq]; omega), Nat.or_comm, ← Nat.shiftLeft_add_eq_or_of_lt (by omega), Nat.shiftLeft_eq]
    omega
  show BitVec.toNat (((((lo8 c &&& 255) <<< (0 : Int32)) ||| ((hi8 c &&& 255) <<< (8 : Int32))).toBitVec.setWidth 16).setWidth 32) = _
  rw [BitVec.toNat_setWidth, BitVec.toNat_setWidth, g]
  omega
end StrChars
namespace StrChars
open Jvm Sem ClassFile Op Lib Jvm.Stand Jvm.Free.XT Jvm.Free.ALB Jvm.Free.JM Jvm.Free
open Jvm.Lib.Cold (StaticIs)
/-- the array's cell V codes the n chars f 0 .. f (n - 1) by the coder cd, as the JDK does: coder 1 just where some char is above 255 -/
def Cod (cd : Int32) (n : Nat) (f : Nat → Int32) (V : Cell) : Prop := (cd = 0 ∧ V.slots.size = n ∧ ∀ j, j < n → V.slots[j]? = some (.int (lo8 (f j))) ∧ ¬ 255 < f j) ∨ (cd = 1 ∧ V.slots.size = 2 * n ∧ (∀ j, j < n → V.slots[2 * j]? = some (.int (lo8 (f j))) ∧ V.slots[2 * j + 1]? = some (.int (hi8 (f j)))) ∧ ∃ j, j < n ∧ 255 < f j)
/-- **x is a String of the n chars f 0 .. f (n - 1)**, Latin-1 or UTF-16; its array at t has the cell V -/
def Txt (x t : Addr) (V : Cell) (cd : Int32) (n : Nat) (f : Nat → Int32) (U : State) : Prop := Exact "java/lang/String" x U ∧ Has x "java/lang/String" "value" "[B" (.ref t) U ∧ Has x "java/lang/String" "coder" "B" (.int cd) U ∧ XT.Arr .byte t V U ∧ Cod cd n f V ∧ ∀ j, j < n → ¬ f j < 0 ∧ ¬ 65535 < f j
theorem Txt.mv {x t : Addr} {V : Cell} {cd : Int32} {n : Nat} {f : Nat → Int32} {U U' : State} (h : Txt x t V cd n f U) (hal : U.vm.Alike U'.vm) (hh : U'.heap = U.heap) : Txt x t V cd n f U' := ⟨h.1.mv hal hh, h.2.1.mv hal hh, h.2.2.1.mv hal hh, h.2.2.2.1.mv hal hh, h.2.2.2.2⟩
end StrChars
namespace StrChars.Road
open Jvm Sem ClassFile Op Lib Jvm.Stand Jvm.Free Jvm.Free.XT
open Jvm.Lib.Cold (StaticIs)
theorem consq {a : Array Value} {s : State} {c : Jvm.Cond} {L : List Jvm.Cond} (h0 : c.before a s = true) (h : ∀ w ∈ L, w.before a s = true) : ∀ w ∈ c :: L, w.before a s = true := fun w hw => (List.mem_cons.mp hw).elim (fun e => e ▸ h0) (h w)
/-- the bytes of the chars cs, low before high -/
def wideBytes : List Int32 → List Value
  | [] => []
  | c :: cs => .int (lo8 c) :: .int (hi8 c) :: wideBytes cs
theorem wide_lo (d : Value) : ∀ (cs : List Int32) (j : Nat), j < cs.length → (wideBytes cs).getD (2 * j) d = .int (lo8 (cs.getD j 0))
  | [], j, h => absurd h (Nat.not_lt_zero j)
  | c :: cs, 0, _ => rfl
  | c :: cs, j + 1, h => by
    have q := wide_lo d cs j (by simpa using h)
    rw [show 2 * (j + 1) = 2 * j + 1 + 1 from by omega]
    simpa [wideBytes] using q
theorem wide_hi (d : Value) : ∀ (cs : List Int32) (j : Nat), j < cs.length → (wideBytes cs).getD (2 * j + 1) d = .int (hi8 (cs.getD j 0))
  | [], j, h => absurd h (Nat.not_lt_zero j)
  | c :: cs, 0, _ => rfl
  | c :: cs, j + 1, h => by
    have q := wide_hi d cs j (by simpa using h)
    rw [show 2 * (j + 1) + 1 = 2 * j + 1 + 1 + 1 from by omega]
    simpa [wideBytes] using q
theorem low_at (d : Value) (cs : List Int32) (j : Nat) (h : j < cs.length) : (cs.map fun c => Value.int (lo8 c)).getD j d = .int (lo8 (cs.getD j 0)) := by
  simp [List.getD_eq_getElem?_getD, h]
/-- an array of N2 bytes vs codes the chars cs by the coder cd -/
def CodA (cs : List Int32) (cd N2 : Int32) (vs : List Value) : Prop := (cd = 0 ∧ N2 = Int32.ofNat cs.length ∧ vs = (cs.map fun c => Value.int (lo8 c)) ∧ ∀ c ∈ cs, ¬ 255 < c) ∨ (cd = 1 ∧ N2 = Int32.ofNat (2 * cs.length) ∧ vs = wideBytes cs ∧ ∃ c ∈ cs, 255 < c)
theorem CodA.cod {cs : List Int32} {cd N2 : Int32} {vs : List Value} {V : Cell} (h : CodA cs cd N2 vs) (hn : 2 * cs.length < 2 ^ 31) (hs : V.slots.size = N2.toNatClampNeg) (hv : RoadKit.Has V vs (.int 0)) : Cod cd cs.length (fun j => cs.getD j 0) V := by
  rcases h with ⟨rfl, rfl, rfl, h⟩ | ⟨rfl, rfl, rfl, c, hc, hw⟩
  · rw [n32 (by omega)] at hs
    exact Or.inl ⟨rfl, hs, fun j hj => ⟨by rw [hv j (by omega), low_at _ _ _ hj], by
      have e : cs.getD j 0 = cs[j] := by simp [List.getD_eq_getElem?_getD, hj]
      show ¬ 255 < cs.getD j 0
      rw [e]; exact h _ (List.getElem_mem _)⟩⟩
  · rw [n32 (by omega)] at hs
    obtain ⟨j, hj, rfl⟩ := List.getElem_of_mem hc
    exact Or.inr ⟨rfl, hs, fun j hj => ⟨by rw [hv _ (by omega), wide_lo _ _ _ hj], by rw [hv _ (by omega), wide_hi _ _ _ hj]⟩, j, hj, by
      have e : cs.getD j 0 = cs[j] := by simp [List.getD_eq_getElem?_getD, hj]
      show 255 < cs.getD j 0
      rw [e]; exact hw⟩
/-- an object of exactly java/lang/String, its two fields found: as the laws ask it -/
theorem strObj {Z U : State} {a0 : Array Value} {kI : Nat} (wi : (Jvm.Cond.instantiable ST kI).before a0 Z = true) (al : Z.vm.Alike U.vm) {x : Addr} {v0 c0 : Value} (E : RoadKit.Exa Z U.heap x ST) (V : RoadKit.Fld Z U.heap x ST "value" "[B" v0) (C : RoadKit.Fld Z U.heap x ST "coder" "B" c0) :
    ∃ (D : Cell) (fV fC : Field), Blank ST x D U ∧ Found ST "value" "[B" fV U ∧ Found ST "coder" "B" fC U ∧ D.slots[fV.slot]? = some v0 ∧ D.slots[fC.slot]? = some c0 ∧ RoadKit.slotOf Z ST "value" "[B" = fV.slot ∧ RoadKit.slotOf Z ST "coder" "B" = fC.slot := by
  obtain ⟨D, cfV, kV, iV, fV, hD, gV, stV, knV, obV, asV, slV⟩ := V
  obtain ⟨D', cfC, kC, iC, fC, hD', gC, stC, -, -, asC, slC⟩ := C
  cases hD.symm.trans hD'
  obtain ⟨D2, kD, e1, e2, e3, e4, e5⟩ := E
  cases hD.symm.trans e1
  obtain ⟨c2, k2, i1, i2, i3, -⟩ := Cond.instantiable_spec wi
  cases e2.symm.trans i1
  cases e3.symm.trans i2
  obtain ⟨kU, u1, u2⟩ := al.2.2 _ _ e3
  exact ⟨D, fV, fC, ⟨hD, ⟨knV, fun q hq => by rw [hq] at obV; cases obV⟩, by rw [al.findClass]; exact e2, kU, u1, by rw [u2]; exact i3, by rw [u2]; exact e5 i3⟩, ⟨SBG.found_only al ⟨cfV, kV, iV, gV⟩, stV⟩, ⟨SBG.found_only al ⟨cfC, kC, iC, gC⟩, stC⟩, slV, slC, by simp [RoadKit.slotOf, gV], by simp [RoadKit.slotOf, gC]⟩
theorem sta_is {Z U : State} (al : Z.vm.Alike U.vm) {C n d : String} {v : Value} (S : RoadKit.Sta Z U.heap C n d v) : StaticIs U C n d v := by
  obtain ⟨cfS, iS, kS, fS, st, cS, t1, t2, t3, t4, t5, t6, t7⟩ := S
  exact StaticIs.there (s := { Z with heap := U.heap }) ⟨cfS, iS, kS, fS, st, cS, t1, t2, t3, t4, t5, (fun q => by rw [q] at t6; cases t6), t7⟩ al rfl
end StrChars.Road
namespace StrChars
open Jvm Sem ClassFile Op Lib Jvm.Stand Jvm.Free.XT Jvm.Free.ALB Jvm.Free.JM Jvm.Free
open Jvm.Lib.Cold (StaticIs)
namespace Emp
def yN : MethodName := ⟨"java/lang/String", "isEmpty", "()Z"⟩
abbrev yB : ByteArray := jdk_42_method_55_code
theorem d0 : decode yB 0 = .ok (.aload_n 0, 1) := by decide +kernel
theorem d1 : decode yB 1 = .ok (.getfield 9, 3) := by decide +kernel
theorem d4 : decode yB 4 = .ok (.arraylength, 1) := by decide +kernel
theorem d5 : decode yB 5 = .ok (.ifCond (.ne) 7, 3) := by decide +kernel
theorem d8 : decode yB 8 = .ok (.iconst 1, 1) := by decide +kernel
theorem d9 : decode yB 9 = .ok (.goto 4, 3) := by decide +kernel
theorem d12 : decode yB 12 = .ok (.iconst 0, 1) := by decide +kernel
theorem d13 : decode yB 13 = .ok (.ireturn, 1) := by decide +kernel
def site : List Cond := [.fieldLink "java/lang/String" 9 "java/lang/String" "value" "[B"]
def tab : Cond := tabOf yN yB 1 (some .boolean) site
def P (x t : Addr) (V : Cell) (cd : Int32) (n : Nat) (f : Nat → Int32) (args : Array Value) (s : State) : Prop := args = #[.ref x] ∧ Txt x t V cd n f s
def E (n : Nat) (r : Option Value) (s u : State) : Prop := XT.PureE (some (.int (if n = 0 then 1 else 0))) r s u
/-- isEmpty() of a String of n chars -/
theorem law (l : Launch) (x t : Addr) (V : Cell) (cd : Int32) (n : Nat) (f : Nat → Int32) : Law l yN 1 0 0 0 yB 1 (some .boolean) site (P x t V cd n f) (E n) [] 0 0 := by
  refine Law.of_walk (plainFor_of_name (by decide +kernel)) (by decide +kernel) (by decide +kernel) (by decide) (fun _ _ h => by rw [h.1]; rfl) (fun _ U U' hal hh h => ⟨h.1, h.2.mv hal hh⟩) (fun r U U' V V' h1 hal h2 h => XT.PureE.mv r U U' V V' h1 hal h2 h) ?_
  intro p e s m args below meth c s₁ X0 hexec hbytes hml hret hlk hnm hown hh0 W hP
  obtain ⟨rfl, hx⟩ := hP
  have v31 := hx.2.2.2.1.2.2.2
  have c1 : Steps p.tables e below (s₁.setTop (entryFrame m #[.ref x] 1)) (s₁.setTop (mkF m 1 #[.val (.ref x)] [.ref x])) := Steps.trans (entry rfl) (by
    show Steps p.tables e below (s₁.setTop (mkF m 0 #[.val (.ref x)] [])) _
    refine XS.aloadN X0.here hexec rfl (hb hbytes d0) rfl rfl ?_
    exact Steps.refl _)
  obtain ⟨T2, X2, q2, st2⟩ := X0.hget hexec hown (wk W (.fieldLink "java/lang/String" 9 "java/lang/String" "value" "[B")) (hx.mv X0.warmed.alike hh0).2.1 (g := (mkF m 1 #[.val (.ref x)] [.ref x])) rfl (rest := []) rfl (hb hbytes d1)
  have hh2 := q2.trans hh0
  have hx2 := hx.mv X2.warmed.alike hh2
  have c3 : Steps p.tables e below (s₁.setTop (entryFrame m #[.ref x] 1)) (T2.setTop (mkF m 5 #[.val (.ref x)] [.int (Int32.ofNat V.slots.size)])) := (c1.trans (st2 _ (Steps.refl _))).trans (by
    refine X2.alen hexec hx2.2.2.2.1 rfl rfl (hb hbytes d4) ?_
    exact Steps.refl _)
  have hz : V.slots.size = 0 ↔ n = 0 := by
    rcases hx.2.2.2.2.1 with ⟨-, q, -⟩ | ⟨-, q, -⟩ <;> omega
  by_cases h0 : n = 0
  · have c4 : Steps p.tables e below (s₁.setTop (entryFrame m #[.ref x] 1)) (T2.setTop (mkF m 13 #[.val (.ref x)] [.int 1])) := c3.trans (by
      refine XS.ifNo X2.here hexec rfl (hb hbytes d5) rfl (i0_ne_f (by rw [hz.mpr h0]; rfl)) ?_
      refine iconstV X2.here hexec rfl 1 (hb hbytes d8) (by decide) ?_
      refine XS.goto X2.here hexec rfl (pc0 := 9) rfl (hb hbytes d9) (by decide) rfl ?_
      exact Steps.refl _)
    exact ⟨T2, some (.int 1), _, _, _, X2, rfl, rfl, rfl, (fun h => by cases h), ⟨by rw [if_pos h0], hh2⟩, fun fs hl => c4.trans (X2.ireturnOut hexec hret rfl (Or.inr (Or.inl rfl)) (hb hbytes d13) hl)⟩
  · have c4 : Steps p.tables e below (s₁.setTop (entryFrame m #[.ref x] 1)) (T2.setTop (mkF m 13 #[.val (.ref x)] [.int 0])) := c3.trans (by
      refine XS.ifYes X2.here hexec rfl (pc0 := 5) rfl (hb hbytes d5) rfl (i0_ne_t (nz32 v31 (by omega))) (by decide) rfl ?_
      refine iconstV X2.here hexec rfl 0 (hb hbytes d12) (by decide) ?_
      exact Steps.refl _)
    exact ⟨T2, some (.int 0), _, _, _, X2, rfl, rfl, rfl, (fun h => by cases h), ⟨by rw [if_neg h0], hh2⟩, fun fs hl => c4.trans (X2.ireturnOut hexec hret rfl (Or.inr (Or.inl rfl)) (hb hbytes d13) hl)⟩
theorem pays {l : Launch} {R : Room} {p : Program} {e : Env} {below : List Frame} {s : State} {sargs : Array Value} {len W : Nat} (x t : Addr) (V : Cell) (cd : Int32) (n : Nat) (f : Nat → Int32) (htab : tab.before sargs s = true) (hfr : 1 ≤ R.frames) (hlo : W + 12 ≤ R.locals) :
    Back l R p e below s sargs yN len W (fun A₁ a₁ => A₁.cells + 0 ≤ R.cells ∧ A₁.slots + 0 ≤ R.slots ∧ P x t V cd n f a₁ A₁.U) (fun A₁ _ v₁ B₁ => E n v₁ A₁.U B₁.U ∧ B₁.locs = A₁.locs ++ [] ∧ B₁.cells = A₁.cells + 0 ∧ B₁.slots = A₁.slots + 0) :=
  (law l x t V cd n f).pays htab hfr (by omega)
end Emp
/-- what place i of a byte[]'s cell holds -/
def yv (A : Cell) (i : Nat) : Int32 := match A.slots[i]? with | some (.int x) => x | _ => 0
theorem yv_get {a : Addr} {A : Cell} {U : State} (h : XT.Arr .byte a A U) (ht : Typed .byte A) {i : Nat} (hi : i < A.slots.size) : A.slots[i]? = some (.int (yv A i)) := by
  have e := Array.getElem?_eq_getElem hi
  have f := ht i _ e
  unfold yv; rw [e]
  generalize A.slots[i] = v at f
  cases v <;> simp [fits] at f ⊢
/-- the two arrays are equal, place for place -/
def EqC (A B : Cell) : Prop := A.slots.size = B.slots.size ∧ ∀ i, i < A.slots.size → yv A i = yv B i
/-- a boolean that says whether p -/
def Says01 (q : Prop) (r : Option Value) (s u : State) : Prop := ∃ v : Int32, r = some (.int v) ∧ u.heap = s.heap ∧ ((v = 1 ∧ q) ∨ (v = 0 ∧ ¬ q))
theorem Says01.mv {q : Prop} : ∀ r (U U' V V' : State), U'.heap = U.heap → V.vm.Alike V'.vm → V'.heap = V.heap → Says01 q r U V → Says01 q r U' V' :=
  fun r U U' V V' h1 _ h2 ⟨v, a, b, c⟩ => ⟨v, a, by rw [h1, h2]; exact b, c⟩
namespace LEq
def yN : MethodName := ⟨"java/lang/StringLatin1", "equals", "([B[B)Z"⟩
abbrev yB : ByteArray := jdk_43_method_13_code
theorem d0 : decode yB 0 = .ok (.aload_n 0, 1) := by decide +kernel
theorem d1 : decode yB 1 = .ok (.arraylength, 1) := by decide +kernel
theorem d2 : decode yB 2 = .ok (.aload_n 1, 1) := by decide +kernel
theorem d3 : decode yB 3 = .ok (.arraylength, 1) := by decide +kernel
theorem d4 : decode yB 4 = .ok (.if_icmp (.ne) 30, 3) := by decide +kernel
theorem d7 : decode yB 7 = .ok (.iconst 0, 1) := by decide +kernel
theorem d8 : decode yB 8 = .ok (.istore_n 2, 1) := by decide +kernel
theorem d9 : decode yB 9 = .ok (.iload_n 2, 1) := by decide +kernel
theorem d10 : decode yB 10 = .ok (.aload_n 0, 1) := by decide +kernel
theorem d11 : decode yB 11 = .ok (.arraylength, 1) := by decide +kernel
theorem d12 : decode yB 12 = .ok (.if_icmp (.ge) 20, 3) := by decide +kernel
theorem d15 : decode yB 15 = .ok (.aload_n 0, 1) := by decide +kernel
theorem d16 : decode yB 16 = .ok (.iload_n 2, 1) := by decide +kernel
theorem d17 : decode yB 17 = .ok (.baload, 1) := by decide +kernel
theorem d18 : decode yB 18 = .ok (.aload_n 1, 1) := by decide +kernel
theorem d19 : decode yB 19 = .ok (.iload_n 2, 1) := by decide +kernel
theorem d20 : decode yB 20 = .ok (.baload, 1) := by decide +kernel
theorem d21 : decode yB 21 = .ok (.if_icmp (.eq) 5, 3) := by decide +kernel
theorem d24 : decode yB 24 = .ok (.iconst 0, 1) := by decide +kernel
theorem d25 : decode yB 25 = .ok (.ireturn, 1) := by decide +kernel
theorem d26 : decode yB 26 = .ok (.iinc 2 1, 3) := by decide +kernel
theorem d29 : decode yB 29 = .ok (.goto (-20), 3) := by decide +kernel
theorem d32 : decode yB 32 = .ok (.iconst 1, 1) := by decide +kernel
theorem d33 : decode yB 33 = .ok (.ireturn, 1) := by decide +kernel
theorem d34 : decode yB 34 = .ok (.iconst 0, 1) := by decide +kernel
theorem d35 : decode yB 35 = .ok (.ireturn, 1) := by decide +kernel
def site : List Cond := []
def tab : Cond := tabOf yN yB 3 (some .boolean) site
def P (a : Addr) (A : Cell) (b : Addr) (B : Cell) (args : Array Value) (s : State) : Prop := args = #[.ref a, .ref b] ∧ XT.Arr .byte a A s ∧ Typed .byte A ∧ XT.Arr .byte b B s ∧ Typed .byte B
/-- whether two byte[] are equal, place for place -/
theorem law (l : Launch) (a : Addr) (A : Cell) (b : Addr) (B : Cell) : Law l yN 2 2 0 0 yB 3 (some .boolean) site (P a A b B) (Says01 (EqC A B)) [] 0 0 := by
  refine Law.of_walk (plainFor_of_name (by decide +kernel)) (by decide +kernel) (by decide +kernel) (by decide) (fun _ _ h => by rw [h.1]; rfl) (fun _ U U' hal hh h => ⟨h.1, h.2.1.mv hal hh, h.2.2.1, h.2.2.2.1.mv hal hh, h.2.2.2.2⟩) (fun r U U' V V' h1 hal h2 h => Says01.mv r U U' V V' h1 hal h2 h) ?_
  intro p e s m args below meth c s₁ X0 hexec hbytes hml hret hlk hnm hown hh0 W hP
  obtain ⟨rfl, hA, tA, hB, tB⟩ := hP
  have a31 := hA.2.2.2
  have b31 := hB.2.2.2
  have hA0 := hA.mv X0.warmed.alike hh0
  have hB0 := hB.mv X0.warmed.alike hh0
  have c1 : Steps p.tables e below (s₁.setTop (entryFrame m #[.ref a, .ref b] 3)) (s₁.setTop (mkF m 0 #[.val (.ref a), .val (.ref b), .unset] [])) := entry rfl
  have c2 : Steps p.tables e below (s₁.setTop (entryFrame m #[.ref a, .ref b] 3)) (s₁.setTop (mkF m 4 #[.val (.ref a), .val (.ref b), .unset] [.int (Int32.ofNat B.slots.size), .int (Int32.ofNat A.slots.size)])) := c1.trans (by
    refine XS.aloadN X0.here hexec rfl (hb hbytes d0) rfl rfl ?_
    refine X0.alen hexec hA0 rfl rfl (hb hbytes d1) ?_
    refine XS.aloadN X0.here hexec rfl (hb hbytes d2) rfl rfl ?_
    refine X0.alen hexec hB0 rfl rfl (hb hbytes d3) ?_
    exact Steps.refl _)
  by_cases hs : A.slots.size = B.slots.size
  · have c3 : Steps p.tables e below (s₁.setTop (entryFrame m #[.ref a, .ref b] 3)) (s₁.setTop (mkF m 9 #[.val (.ref a), .val (.ref b), .val (.int 0)] [])) := c2.trans (by
      refine XS.icmpNo X0.here hexec rfl (hb hbytes d4) rfl (ii_ne_f (by rw [hs])) ?_
      refine iconstV X0.here hexec rfl 0 (hb hbytes d7) (by decide) ?_
      refine XS.istoreN X0.here hexec rfl (hb hbytes d8) rfl rfl ?_
      exact Steps.refl _)
    have loop : ∀ (r i : Nat), i + r = A.slots.size → (∀ j, j < i → yv A j = yv B j) → Steps p.tables e below (s₁.setTop (entryFrame m #[.ref a, .ref b] 3)) (s₁.setTop (mkF m 9 #[.val (.ref a), .val (.ref b), .val (.int (Int32.ofNat i))] [])) → ∃ (pc : Nat) (Ls : Array Slot) (v : Int32), (pc = 25 ∨ pc = 33) ∧ ((v = 1 ∧ EqC A B) ∨ (v = 0 ∧ ¬ EqC A B)) ∧ Steps p.tables e below (s₁.setTop (entryFrame m #[.ref a, .ref b] 3)) (s₁.setTop (mkF m pc Ls [.int v])) := by
      intro r
      induction r with
      | zero =>
        intro i hi he cl
        exact ⟨33, _, 1, Or.inr rfl, Or.inl ⟨rfl, hs, fun j hj => he j (by omega)⟩, cl.trans (by
          refine XS.iloadN X0.here hexec rfl (hb hbytes d9) rfl ?_
          refine XS.aloadN X0.here hexec rfl (hb hbytes d10) rfl rfl ?_
          refine X0.alen hexec hA0 rfl rfl (hb hbytes d11) ?_
          refine XS.icmpYes X0.here hexec rfl (pc0 := 12) rfl (hb hbytes d12) rfl (ii_ge_t (nlt32 (by omega) (by omega))) (by decide) rfl ?_
          refine iconstV X0.here hexec rfl 1 (hb hbytes d32) (by decide) ?_
          exact Steps.refl _)⟩
      | succ r ih =>
        intro i hi he cl
        have c4 : Steps p.tables e below (s₁.setTop (entryFrame m #[.ref a, .ref b] 3)) (s₁.setTop (mkF m 21 #[.val (.ref a), .val (.ref b), .val (.int (Int32.ofNat i))] [.int (yv B i), .int (yv A i)])) := cl.trans (by
          refine XS.iloadN X0.here hexec rfl (hb hbytes d9) rfl ?_
          refine XS.aloadN X0.here hexec rfl (hb hbytes d10) rfl rfl ?_
          refine X0.alen hexec hA0 rfl rfl (hb hbytes d11) ?_
          refine XS.icmpNo X0.here hexec rfl (hb hbytes d12) rfl (ii_ge_f (lt32 (by omega) (by omega))) ?_
          refine XS.aloadN X0.here hexec rfl (hb hbytes d15) rfl rfl ?_
          refine XS.iloadN X0.here hexec rfl (hb hbytes d16) rfl ?_
          refine X0.aget hexec hA0 rfl (yv_get hA tA (i := i) (by omega)) rfl rfl (hb hbytes d17) ?_
          refine XS.aloadN X0.here hexec rfl (hb hbytes d18) rfl rfl ?_
          refine XS.iloadN X0.here hexec rfl (hb hbytes d19) rfl ?_
          refine X0.aget hexec hB0 rfl (yv_get hB tB (i := i) (by omega)) rfl rfl (hb hbytes d20) ?_
          exact Steps.refl _)
        by_cases hv : yv A i = yv B i
        · have c5 : Steps p.tables e below (s₁.setTop (entryFrame m #[.ref a, .ref b] 3)) (s₁.setTop (mkF m 9 #[.val (.ref a), .val (.ref b), .val (.int (Int32.ofNat i + 1))] [])) := c4.trans (by
            refine XS.icmpYes X0.here hexec rfl (pc0 := 21) rfl (hb hbytes d21) rfl (ii_eq_t hv) (by decide) rfl ?_
            refine iincV X0.here hexec rfl 1 (hb hbytes d26) (by decide) rfl rfl ?_
            refine XS.goto X0.here hexec rfl (pc0 := 29) rfl (hb hbytes d29) (by decide) rfl ?_
            exact Steps.refl _)
          rw [succ32] at c5
          exact ih (i + 1) (by omega) (fun j hj => by
            by_cases e : j = i
            · rw [e]; exact hv
            · exact he j (by omega)) c5
        · exact ⟨25, _, 0, Or.inl rfl, Or.inr ⟨rfl, fun q => hv (q.2 i (by omega))⟩, c4.trans (by
            refine XS.icmpNo X0.here hexec rfl (hb hbytes d21) rfl (ii_eq_f hv) ?_
            refine iconstV X0.here hexec rfl 0 (hb hbytes d24) (by decide) ?_
            exact Steps.refl _)⟩
    obtain ⟨pc, Ls, v, hpc, hv, cz⟩ := loop A.slots.size 0 (by omega) (fun j hj => absurd hj (Nat.not_lt_zero j)) c3
    have nv : narrow .boolean (.int v) = .int v := by rcases hv with ⟨rfl, -⟩ | ⟨rfl, -⟩ <;> rfl
    rcases hpc with rfl | rfl
    · exact ⟨s₁, some (.int v), _, _, _, X0, rfl, rfl, rfl, (fun h => by cases h), ⟨v, rfl, hh0, hv⟩, fun fs hl => cz.trans (X0.ireturnOut hexec hret nv (Or.inr (Or.inl rfl)) (hb hbytes d25) hl)⟩
    · exact ⟨s₁, some (.int v), _, _, _, X0, rfl, rfl, rfl, (fun h => by cases h), ⟨v, rfl, hh0, hv⟩, fun fs hl => cz.trans (X0.ireturnOut hexec hret nv (Or.inr (Or.inl rfl)) (hb hbytes d33) hl)⟩
  · have c3 : Steps p.tables e below (s₁.setTop (entryFrame m #[.ref a, .ref b] 3)) (s₁.setTop (mkF m 35 #[.val (.ref a), .val (.ref b), .unset] [.int 0])) := c2.trans (by
      refine XS.icmpYes X0.here hexec rfl (pc0 := 4) rfl (hb hbytes d4) rfl (ii_ne_t (ne32 a31 b31 hs)) (by decide) rfl ?_
      refine iconstV X0.here hexec rfl 0 (hb hbytes d34) (by decide) ?_
      exact Steps.refl _)
    exact ⟨s₁, some (.int 0), _, _, _, X0, rfl, rfl, rfl, (fun h => by cases h), ⟨0, rfl, hh0, Or.inr ⟨rfl, fun q => hs q.1⟩⟩, fun fs hl => c3.trans (X0.ireturnOut hexec hret rfl (Or.inr (Or.inl rfl)) (hb hbytes d35) hl)⟩
end LEq
theorem Cod.ty {cd : Int32} {n : Nat} {f : Nat → Int32} {V : Cell} (h : Cod cd n f V) : Typed .byte V := fun i v hv => by
  have hi : i < V.slots.size := (Array.getElem?_eq_some_iff.mp hv).1
  rcases h with ⟨-, k1, k2⟩ | ⟨-, k1, k2, -⟩
  · rw [(k2 i (by omega)).1] at hv; cases hv; exact fits_lo8 _
  · rcases Nat.mod_two_eq_zero_or_one i with e | e
    · obtain ⟨j, rfl⟩ : ∃ j, i = 2 * j := ⟨i / 2, by omega⟩
      rw [(k2 j (by omega)).1] at hv; cases hv; exact fits_lo8 _
    · obtain ⟨j, rfl⟩ : ∃ j, i = 2 * j + 1 := ⟨i / 2, by omega⟩
      rw [(k2 j (by omega)).2] at hv; cases hv; exact fits_lo8 _
/-- the same text -/
def SameT (n : Nat) (f : Nat → Int32) (k : Nat) (g : Nat → Int32) : Prop := n = k ∧ ∀ j, j < n → f j = g j
theorem lo8_inj {x y : Int32} (h0 : ¬ x < 0) (h1 : ¬ 255 < x) (k0 : ¬ y < 0) (k1 : ¬ 255 < y) (h : lo8 x = lo8 y) : x = y := by
  rw [← lo8_mask h0 h1, ← lo8_mask k0 k1, h]
/-- arrays coded by one coder are equal just where the texts are -/
theorem Cod.eqv {cd : Int32} {n k : Nat} {f g : Nat → Int32} {V V' : Cell} (h : Cod cd n f V) (h' : Cod cd k g V') (hf : ∀ j, j < n → ¬ f j < 0 ∧ ¬ 65535 < f j) (hg : ∀ j, j < k → ¬ g j < 0 ∧ ¬ 65535 < g j) : EqC V V' ↔ SameT n f k g := by
  have yvv : ∀ {W : Cell} {i : Nat} {x : Int32}, W.slots[i]? = some (.int x) → yv W i = x := fun q => by unfold yv; rw [q]
  rcases h with ⟨rfl, k1, k2⟩ | ⟨rfl, k1, k2, -⟩
  · rcases h' with ⟨-, m1, m2⟩ | ⟨e, -⟩
    · constructor
      · rintro ⟨e1, e2⟩
        refine ⟨by omega, fun j hj => ?_⟩
        have q := e2 j (by omega)
        rw [yvv (k2 j hj).1, yvv (m2 j (by omega)).1] at q
        exact lo8_inj (hf j hj).1 (k2 j hj).2 (hg j (by omega)).1 (m2 j (by omega)).2 q
      · rintro ⟨rfl, e2⟩
        refine ⟨by omega, fun j hj => ?_⟩
        rw [yvv (k2 j (by omega)).1, yvv (m2 j (by omega)).1, e2 j (by omega)]
    · exact absurd e (by decide)
  · rcases h' with ⟨e, -⟩ | ⟨-, m1, m2, -⟩
    · exact absurd e (by decide)
    · constructor
      · rintro ⟨e1, e2⟩
        refine ⟨by omega, fun j hj => ?_⟩
        have q1 := e2 (2 * j) (by omega)
        have q2 := e2 (2 * j + 1) (by omega)
        rw [yvv (k2 j hj).1, yvv (m2 j (by omega)).1] at q1
        rw [yvv (k2 j hj).2, yvv (m2 j (by omega)).2] at q2
        rw [← pair_says (hf j hj).1 (hf j hj).2, ← pair_says (hg j (by omega)).1 (hg j (by omega)).2, q1, q2]
      · rintro ⟨rfl, e2⟩
        refine ⟨by omega, fun i hi => ?_⟩
        rcases Nat.mod_two_eq_zero_or_one i with e | e
        · obtain ⟨j, rfl⟩ : ∃ j, i = 2 * j := ⟨i / 2, by omega⟩
          rw [yvv (k2 j (by omega)).1, yvv (m2 j (by omega)).1, e2 j (by omega)]
        · obtain ⟨j, rfl⟩ : ∃ j, i = 2 * j + 1 := ⟨i / 2, by omega⟩
          rw [yvv (k2 j (by omega)).2, yvv (m2 j (by omega)).2, e2 j (by omega)]
/-- two codings differ: so do the texts -/
theorem Cod.dif {cd cd' : Int32} {n k : Nat} {f g : Nat → Int32} {V V' : Cell} (h : Cod cd n f V) (h' : Cod cd' k g V') (hne : ¬ cd = cd') : ¬ SameT n f k g := by
  rintro ⟨rfl, e⟩
  rcases h with ⟨rfl, -, k2⟩ | ⟨rfl, -, -, j, hj, hw⟩
  · rcases h' with ⟨rfl, -⟩ | ⟨-, -, -, j, hj, hw⟩
    · exact hne rfl
    · exact (k2 j hj).2 (by rw [e j hj]; exact hw)
  · rcases h' with ⟨-, -, m2⟩ | ⟨rfl, -⟩
    · exact (m2 j hj).2 (by rw [← e j hj]; exact hw)
    · exact hne rfl
/-- an object of exactly C is an instance of C -/
theorem cinst {p : Program} {l : Launch} {e : Env} {R : Room} {s : State} {m : MethodId} {args : Array Value} {below : List Frame} {meth : Method} {c : Code} {T : State} {locs : List Loc} {cells slots : Nat} (X : Stand p l e R s m args below meth c T locs cells slots) (hexec : p.tables.exec = Jvm.exec) {own C : String} {index : Nat} (hown : s.vm.findClass own = some m.cls) (hlink : (Cond.classLink own index C).before args s = true) {a : Addr} (hE : Exact C a T)
    {g : JFrame} (hg : g.method = m) {rest : List Value} (hstack : g.stack = .ref a :: rest) (hdg : decode c.code g.pc = .ok (.instanceof index, 3)) :
    ∃ T', Stand p l e R s m args below meth c T' locs cells slots ∧ T'.heap = T.heap ∧ ∀ target, Steps p.tables e below (T'.setTop { g with pc := g.pc + 3, stack := .int 1 :: rest }) target → Steps p.tables e below (T.setTop g) target := by
  obtain ⟨cB, h1, D, h2, h3, h4⟩ := hE
  have h1' : s.vm.findClass C = some cB := by rw [← X.warmed.alike.findClass]; exact h1
  obtain ⟨vm', X', st⟩ := X.instanceofYes hexec hown hlink h2 h4 h1' (by rw [h3]; exact Jvm.Free.SB.assignable_self _ _) hg hstack hdg
  exact ⟨_, X', rfl, st⟩
theorem cself {p : Program} {l : Launch} {e : Env} {R : Room} {s : State} {m : MethodId} {args : Array Value} {below : List Frame} {meth : Method} {c : Code} {T : State} {locs : List Loc} {cells slots : Nat} (X : Stand p l e R s m args below meth c T locs cells slots) (hexec : p.tables.exec = Jvm.exec) {own C : String} {index : Nat} (hown : s.vm.findClass own = some m.cls) (hlink : (Cond.classLink own index C).before args s = true) {a : Addr} (hE : Exact C a T)
    {g : JFrame} (hg : g.method = m) {rest : List Value} (hstack : g.stack = .ref a :: rest) (hdg : decode c.code g.pc = .ok (.checkcast index, 3)) :
    ∃ T', Stand p l e R s m args below meth c T' locs cells slots ∧ T'.heap = T.heap ∧ ∀ target, Steps p.tables e below (T'.setTop { g with pc := g.pc + 3, stack := .ref a :: rest }) target → Steps p.tables e below (T.setTop g) target := by
  obtain ⟨cB, h1, D, h2, h3, h4⟩ := hE
  have h1' : s.vm.findClass C = some cB := by rw [← X.warmed.alike.findClass]; exact h1
  obtain ⟨vm', X', st⟩ := X.checkcastYes hexec hown hlink h2 h4 h1' (by rw [h3]; exact Jvm.Free.SB.assignable_self _ _) hg hstack hdg
  exact ⟨_, X', rfl, fun t h => st t (by rw [← hstack] at h; exact h)⟩
namespace SEq
def yN : MethodName := ⟨"java/lang/String", "equals", "(Ljava/lang/Object;)Z"⟩
abbrev yB : ByteArray := jdk_42_method_66_code
theorem d0 : decode yB 0 = .ok (.aload_n 0, 1) := by decide +kernel
theorem d1 : decode yB 1 = .ok (.aload_n 1, 1) := by decide +kernel
theorem d2 : decode yB 2 = .ok (.if_acmp (.ne) 5, 3) := by decide +kernel
theorem d5 : decode yB 5 = .ok (.iconst 1, 1) := by decide +kernel
theorem d6 : decode yB 6 = .ok (.ireturn, 1) := by decide +kernel
theorem d7 : decode yB 7 = .ok (.aload_n 1, 1) := by decide +kernel
theorem d8 : decode yB 8 = .ok (.instanceof 10, 3) := by decide +kernel
theorem d11 : decode yB 11 = .ok (.ifCond (.eq) 43, 3) := by decide +kernel
theorem d14 : decode yB 14 = .ok (.aload_n 1, 1) := by decide +kernel
theorem d15 : decode yB 15 = .ok (.checkcast 10, 3) := by decide +kernel
theorem d18 : decode yB 18 = .ok (.astore_n 2, 1) := by decide +kernel
theorem d19 : decode yB 19 = .ok (.getstatic 38, 3) := by decide +kernel
theorem d22 : decode yB 22 = .ok (.ifCond (.eq) 14, 3) := by decide +kernel
theorem d25 : decode yB 25 = .ok (.aload_n 0, 1) := by decide +kernel
theorem d26 : decode yB 26 = .ok (.getfield 15, 3) := by decide +kernel
theorem d29 : decode yB 29 = .ok (.aload_n 2, 1) := by decide +kernel
theorem d30 : decode yB 30 = .ok (.getfield 15, 3) := by decide +kernel
theorem d33 : decode yB 33 = .ok (.if_icmp (.ne) 21, 3) := by decide +kernel
theorem d36 : decode yB 36 = .ok (.aload_n 0, 1) := by decide +kernel
theorem d37 : decode yB 37 = .ok (.getfield 9, 3) := by decide +kernel
theorem d40 : decode yB 40 = .ok (.aload_n 2, 1) := by decide +kernel
theorem d41 : decode yB 41 = .ok (.getfield 9, 3) := by decide +kernel
theorem d44 : decode yB 44 = .ok (.invokestatic 541, 3) := by decide +kernel
theorem d47 : decode yB 47 = .ok (.ifCond (.eq) 7, 3) := by decide +kernel
theorem d50 : decode yB 50 = .ok (.iconst 1, 1) := by decide +kernel
theorem d51 : decode yB 51 = .ok (.goto 4, 3) := by decide +kernel
theorem d54 : decode yB 54 = .ok (.iconst 0, 1) := by decide +kernel
theorem d55 : decode yB 55 = .ok (.ireturn, 1) := by decide +kernel
def site : List Cond := [.classLink "java/lang/String" 10 "java/lang/String", .fieldLink "java/lang/String" 38 "java/lang/String" "COMPACT_STRINGS" "Z", .fieldLink "java/lang/String" 15 "java/lang/String" "coder" "B", .fieldLink "java/lang/String" 9 "java/lang/String" "value" "[B", LEq.tab] ++ staticW "java/lang/String" 541 LEq.yN
def tab : Cond := tabOf yN yB 3 (some .boolean) site
def P (x t : Addr) (V : Cell) (cd : Int32) (n : Nat) (f : Nat → Int32) (y t' : Addr) (V' : Cell) (cd' : Int32) (k : Nat) (g : Nat → Int32) (z : Int32) (args : Array Value) (s : State) : Prop := args = #[.ref x, .ref y] ∧ Txt x t V cd n f s ∧ Txt y t' V' cd' k g s ∧ StaticIs s "java/lang/String" "COMPACT_STRINGS" "Z" (.int z) ∧ ¬ z = 0
/-- equals(Object) of two Strings: whether the texts are the same -/
theorem law (l : Launch) (x t : Addr) (V : Cell) (cd : Int32) (n : Nat) (f : Nat → Int32) (y t' : Addr) (V' : Cell) (cd' : Int32) (k : Nat) (g : Nat → Int32) (z : Int32) : Law l yN 2 1 1 14 yB 3 (some .boolean) site (P x t V cd n f y t' V' cd' k g z) (Says01 (SameT n f k g)) [] 0 0 := by
  refine Law.of_walk (plainFor_of_name (by decide +kernel)) (by decide +kernel) (by decide +kernel) (by decide) (fun _ _ h => by rw [h.1]; rfl) (fun _ U U' hal hh h => ⟨h.1, h.2.1.mv hal hh, h.2.2.1.mv hal hh, h.2.2.2.1.there hal hh, h.2.2.2.2⟩) (fun r U U' V V' h1 hal h2 h => Says01.mv r U U' V V' h1 hal h2 h) ?_
  intro p e s m args below meth c s₁ X0 hexec hbytes hml hret hlk hnm hown hh0 W hP
  obtain ⟨rfl, hx, hy, s1, hz⟩ := hP
  have c1 : Steps p.tables e below (s₁.setTop (entryFrame m #[.ref x, .ref y] 3)) (s₁.setTop (mkF m 2 #[.val (.ref x), .val (.ref y), .unset] [.ref y, .ref x])) := Steps.trans (entry rfl) (by
    show Steps p.tables e below (s₁.setTop (mkF m 0 #[.val (.ref x), .val (.ref y), .unset] [])) _
    refine XS.aloadN X0.here hexec rfl (hb hbytes d0) rfl rfl ?_
    refine XS.aloadN X0.here hexec rfl (hb hbytes d1) rfl rfl ?_
    exact Steps.refl _)
  by_cases hxy : x = y
  · have c2 : Steps p.tables e below (s₁.setTop (entryFrame m #[.ref x, .ref y] 3)) (s₁.setTop (mkF m 6 #[.val (.ref x), .val (.ref y), .unset] [.int 1])) := c1.trans (by
      refine acmpNo X0.here hexec rfl (hb hbytes d2) rfl rfl rfl (by simp [acmp, hxy]) ?_
      refine iconstV X0.here hexec rfl 1 (hb hbytes d5) (by decide) ?_
      exact Steps.refl _)
    subst hxy
    have ec : cd = cd' := by
      obtain ⟨D, fd, a1, a2, a3⟩ := hx.2.2.1
      obtain ⟨D', fd', b1, b2, b3⟩ := hy.2.2.1
      cases a1.symm.trans b1
      obtain ⟨q1, q2, q3, q4⟩ := a2.1
      obtain ⟨r1, r2, r3, r4⟩ := b2.1
      cases q4.symm.trans r4
      cases a3.symm.trans b3; rfl
    have et : t = t' := by
      obtain ⟨D, fd, a1, a2, a3⟩ := hx.2.1
      obtain ⟨D', fd', b1, b2, b3⟩ := hy.2.1
      cases a1.symm.trans b1
      obtain ⟨q1, q2, q3, q4⟩ := a2.1
      obtain ⟨r1, r2, r3, r4⟩ := b2.1
      cases q4.symm.trans r4
      cases a3.symm.trans b3; rfl
    subst ec et
    have ev : V = V' := by cases hx.2.2.2.1.1.symm.trans hy.2.2.2.1.1; rfl
    subst ev
    have hs : SameT n f k g := (Cod.eqv hx.2.2.2.2.1 hy.2.2.2.2.1 hx.2.2.2.2.2 hy.2.2.2.2.2).mp ⟨rfl, fun _ _ => rfl⟩
    exact ⟨s₁, some (.int 1), _, _, _, X0, rfl, rfl, rfl, (fun h => by cases h), ⟨1, rfl, hh0, Or.inl ⟨rfl, hs⟩⟩, fun fs hl => c2.trans (X0.ireturnOut hexec hret rfl (Or.inr (Or.inl rfl)) (hb hbytes d6) hl)⟩
  · have c2 : Steps p.tables e below (s₁.setTop (entryFrame m #[.ref x, .ref y] 3)) (s₁.setTop (mkF m 8 #[.val (.ref x), .val (.ref y), .unset] [.ref y])) := c1.trans (by
      refine acmpYes X0.here hexec rfl (pc0 := 2) rfl (hb hbytes d2) rfl rfl rfl (by simp [acmp, hxy]) (by decide) rfl ?_
      refine XS.aloadN X0.here hexec rfl (hb hbytes d7) rfl rfl ?_
      exact Steps.refl _)
    obtain ⟨T3, X3, q3, st3⟩ := cinst X0 hexec hown (wk W (.classLink "java/lang/String" 10 "java/lang/String")) (hy.mv X0.warmed.alike hh0).1 (g := (mkF m 8 #[.val (.ref x), .val (.ref y), .unset] [.ref y])) rfl (rest := []) rfl (hb hbytes d8)
    have hh3 := q3.trans hh0
    have c4 : Steps p.tables e below (s₁.setTop (entryFrame m #[.ref x, .ref y] 3)) (T3.setTop (mkF m 15 #[.val (.ref x), .val (.ref y), .unset] [.ref y])) := (c2.trans (st3 _ (Steps.refl _))).trans (by
      refine XS.ifNo X3.here hexec rfl (hb hbytes d11) rfl (i0_eq_f (by decide)) ?_
      refine XS.aloadN X3.here hexec rfl (hb hbytes d14) rfl rfl ?_
      exact Steps.refl _)
    obtain ⟨T5, X5, q5, st5⟩ := cself X3 hexec hown (wk W (.classLink "java/lang/String" 10 "java/lang/String")) (hy.mv X3.warmed.alike hh3).1 (g := (mkF m 15 #[.val (.ref x), .val (.ref y), .unset] [.ref y])) rfl (rest := []) rfl (hb hbytes d15)
    have hh5 := q5.trans hh3
    have c6 : Steps p.tables e below (s₁.setTop (entryFrame m #[.ref x, .ref y] 3)) (T5.setTop (mkF m 19 #[.val (.ref x), .val (.ref y), .val (.ref y)] [])) := (c4.trans (st5 _ (Steps.refl _))).trans (by
      refine XS.astoreN X5.here hexec rfl (hb hbytes d18) rfl rfl rfl ?_
      exact Steps.refl _)
    obtain ⟨T7, X7, q7, st7⟩ := X5.sget hexec hown (wk W (.fieldLink "java/lang/String" 38 "java/lang/String" "COMPACT_STRINGS" "Z")) s1 (fun _ _ h => by rw [hh5]; exact h) (g := (mkF m 19 #[.val (.ref x), .val (.ref y), .val (.ref y)] [])) rfl (hb hbytes d19)
    have hh7 := q7.trans hh5
    have c8 : Steps p.tables e below (s₁.setTop (entryFrame m #[.ref x, .ref y] 3)) (T7.setTop (mkF m 26 #[.val (.ref x), .val (.ref y), .val (.ref y)] [.ref x])) := (c6.trans (st7 _ (Steps.refl _))).trans (by
      refine XS.ifNo X7.here hexec rfl (hb hbytes d22) rfl (i0_eq_f hz) ?_
      refine XS.aloadN X7.here hexec rfl (hb hbytes d25) rfl rfl ?_
      exact Steps.refl _)
    obtain ⟨T9, X9, q9, st9⟩ := X7.hget hexec hown (wk W (.fieldLink "java/lang/String" 15 "java/lang/String" "coder" "B")) (hx.mv X7.warmed.alike hh7).2.2.1 (g := (mkF m 26 #[.val (.ref x), .val (.ref y), .val (.ref y)] [.ref x])) rfl (rest := []) rfl (hb hbytes d26)
    have hh9 := q9.trans hh7
    have c10 : Steps p.tables e below (s₁.setTop (entryFrame m #[.ref x, .ref y] 3)) (T9.setTop (mkF m 30 #[.val (.ref x), .val (.ref y), .val (.ref y)] [.ref y, .int cd])) := (c8.trans (st9 _ (Steps.refl _))).trans (by
      refine XS.aloadN X9.here hexec rfl (hb hbytes d29) rfl rfl ?_
      exact Steps.refl _)
    obtain ⟨T11, X11, q11, st11⟩ := X9.hget hexec hown (wk W (.fieldLink "java/lang/String" 15 "java/lang/String" "coder" "B")) (hy.mv X9.warmed.alike hh9).2.2.1 (g := (mkF m 30 #[.val (.ref x), .val (.ref y), .val (.ref y)] [.ref y, .int cd])) rfl (rest := [.int cd]) rfl (hb hbytes d30)
    have hh11 := q11.trans hh9
    have c12 : Steps p.tables e below (s₁.setTop (entryFrame m #[.ref x, .ref y] 3)) (T11.setTop (mkF m 33 #[.val (.ref x), .val (.ref y), .val (.ref y)] [.int cd', .int cd])) := c10.trans (st11 _ (Steps.refl _))
    by_cases hcd : cd = cd'
    · subst hcd
      have c13 : Steps p.tables e below (s₁.setTop (entryFrame m #[.ref x, .ref y] 3)) (T11.setTop (mkF m 37 #[.val (.ref x), .val (.ref y), .val (.ref y)] [.ref x])) := c12.trans (by
        refine XS.icmpNo X11.here hexec rfl (hb hbytes d33) rfl (ii_ne_f rfl) ?_
        refine XS.aloadN X11.here hexec rfl (hb hbytes d36) rfl rfl ?_
        exact Steps.refl _)
      obtain ⟨T14, X14, q14, st14⟩ := X11.hget hexec hown (wk W (.fieldLink "java/lang/String" 9 "java/lang/String" "value" "[B")) (hx.mv X11.warmed.alike hh11).2.1 (g := (mkF m 37 #[.val (.ref x), .val (.ref y), .val (.ref y)] [.ref x])) rfl (rest := []) rfl (hb hbytes d37)
      have hh14 := q14.trans hh11
      have c15 : Steps p.tables e below (s₁.setTop (entryFrame m #[.ref x, .ref y] 3)) (T14.setTop (mkF m 41 #[.val (.ref x), .val (.ref y), .val (.ref y)] [.ref y, .ref t])) := (c13.trans (st14 _ (Steps.refl _))).trans (by
        refine XS.aloadN X14.here hexec rfl (hb hbytes d40) rfl rfl ?_
        exact Steps.refl _)
      obtain ⟨T16, X16, q16, st16⟩ := X14.hget hexec hown (wk W (.fieldLink "java/lang/String" 9 "java/lang/String" "value" "[B")) (hy.mv X14.warmed.alike hh14).2.1 (g := (mkF m 41 #[.val (.ref x), .val (.ref y), .val (.ref y)] [.ref y, .ref t])) rfl (rest := [.ref t]) rfl (hb hbytes d41)
      have hh16 := q16.trans hh14
      have c17 : Steps p.tables e below (s₁.setTop (entryFrame m #[.ref x, .ref y] 3)) (T16.setTop (mkF m 44 #[.val (.ref x), .val (.ref y), .val (.ref y)] [.ref t', .ref t])) := c15.trans (st16 _ (Steps.refl _))
      obtain ⟨v18, T18, X18, E18, g18⟩ := X16.callS hexec (LEq.law l t V t' V') hown (wks W (staticW "java/lang/String" 541 LEq.yN)) (wk W LEq.tab) (W := 0) (Nat.le_of_ble_eq_true rfl) (Nat.le_of_ble_eq_true rfl) (Nat.le_refl _) (Nat.le_refl _) (g := (mkF m 44 #[.val (.ref x), .val (.ref y), .val (.ref y)] [.ref t', .ref t])) rfl (by rw [hml]; rfl) c17 (argsL := [.ref t, .ref t']) (rest := []) rfl rfl (by show 2 * 0 + 0 ≤ _; decide) (hb hbytes d44) (⟨rfl, hx.2.2.2.1.mv X16.warmed.alike hh16, hx.2.2.2.2.1.ty, hy.2.2.2.1.mv X16.warmed.alike hh16, hy.2.2.2.2.1.ty⟩)
      obtain ⟨v, rfl, q18, hv⟩ := E18
      have iff := Cod.eqv hx.2.2.2.2.1 hy.2.2.2.2.1 hx.2.2.2.2.2 hy.2.2.2.2.2
      rcases hv with ⟨rfl, he⟩ | ⟨rfl, he⟩
      · have c19 : Steps p.tables e below (s₁.setTop (entryFrame m #[.ref x, .ref y] 3)) (T18.setTop (mkF m 55 #[.val (.ref x), .val (.ref y), .val (.ref y)] [.int 1])) := Steps.trans g18 (by
          refine XS.ifNo X18.here hexec rfl (hb hbytes d47) rfl (i0_eq_f (by decide)) ?_
          refine iconstV X18.here hexec rfl 1 (hb hbytes d50) (by decide) ?_
          refine XS.goto X18.here hexec rfl (pc0 := 51) rfl (hb hbytes d51) (by decide) rfl ?_
          exact Steps.refl _)
        exact ⟨T18, some (.int 1), _, _, _, X18, rfl, rfl, rfl, (fun h => by cases h), ⟨1, rfl, q18.trans hh16, Or.inl ⟨rfl, iff.mp he⟩⟩, fun fs hl => c19.trans (X18.ireturnOut hexec hret rfl (Or.inr (Or.inl rfl)) (hb hbytes d55) hl)⟩
      · have c19 : Steps p.tables e below (s₁.setTop (entryFrame m #[.ref x, .ref y] 3)) (T18.setTop (mkF m 55 #[.val (.ref x), .val (.ref y), .val (.ref y)] [.int 0])) := Steps.trans g18 (by
          refine XS.ifYes X18.here hexec rfl (pc0 := 47) rfl (hb hbytes d47) rfl (i0_eq_t rfl) (by decide) rfl ?_
          refine iconstV X18.here hexec rfl 0 (hb hbytes d54) (by decide) ?_
          exact Steps.refl _)
        exact ⟨T18, some (.int 0), _, _, _, X18, rfl, rfl, rfl, (fun h => by cases h), ⟨0, rfl, q18.trans hh16, Or.inr ⟨rfl, fun q => he (iff.mpr q)⟩⟩, fun fs hl => c19.trans (X18.ireturnOut hexec hret rfl (Or.inr (Or.inl rfl)) (hb hbytes d55) hl)⟩
    · have c13 : Steps p.tables e below (s₁.setTop (entryFrame m #[.ref x, .ref y] 3)) (T11.setTop (mkF m 55 #[.val (.ref x), .val (.ref y), .val (.ref y)] [.int 0])) := c12.trans (by
        refine XS.icmpYes X11.here hexec rfl (pc0 := 33) rfl (hb hbytes d33) rfl (ii_ne_t hcd) (by decide) rfl ?_
        refine iconstV X11.here hexec rfl 0 (hb hbytes d54) (by decide) ?_
        exact Steps.refl _)
      exact ⟨T11, some (.int 0), _, _, _, X11, rfl, rfl, rfl, (fun h => by cases h), ⟨0, rfl, hh11, Or.inr ⟨rfl, Cod.dif hx.2.2.2.2.1 hy.2.2.2.2.1 hcd⟩⟩, fun fs hl => c13.trans (X11.ireturnOut hexec hret rfl (Or.inr (Or.inl rfl)) (hb hbytes d55) hl)⟩
theorem pays {l : Launch} {R : Room} {p : Program} {e : Env} {below : List Frame} {s : State} {sargs : Array Value} {len W : Nat} (x t : Addr) (V : Cell) (cd : Int32) (n : Nat) (f : Nat → Int32) (y t' : Addr) (V' : Cell) (cd' : Int32) (k : Nat) (g : Nat → Int32) (z : Int32) (htab : tab.before sargs s = true) (hfr : 2 ≤ R.frames) (hlo : W + 28 ≤ R.locals) :
    Back l R p e below s sargs yN len W (fun A₁ a₁ => A₁.cells + 0 ≤ R.cells ∧ A₁.slots + 0 ≤ R.slots ∧ P x t V cd n f y t' V' cd' k g z a₁ A₁.U) (fun A₁ _ v₁ B₁ => Says01 (SameT n f k g) v₁ A₁.U B₁.U ∧ B₁.locs = A₁.locs ++ [] ∧ B₁.cells = A₁.cells + 0 ∧ B₁.slots = A₁.slots + 0) :=
  (law l x t V cd n f y t' V' cd' k g z).pays htab hfr (by omega)
end SEq
end StrChars
namespace StrChars.Road
open Jvm Sem ClassFile Op Lib Jvm.Stand Jvm.Free Jvm.Free.XT
open Jvm.Lib.Cold (StaticIs)
/-- the words of String.isEmpty() -/
abbrev wordsEmp : List Jvm.Cond := [.code Emp.yN Emp.yB 1 (some .boolean), .initialized ST, .fieldLink ST 9 ST "value" "[B"]
theorem tabEmp_of {a : Array Value} {s : State} (h : ∀ w ∈ wordsEmp, w.before a s = true) : Emp.tab.before a s = true := unparts (wk h (.code Emp.yN Emp.yB 1 (some .boolean))) (wks h (.initialized Emp.yN.cls :: Emp.site))
theorem movedEmp {Z s : State} {a0 args : Array Value} (hZ : Z.Warmed39 s.vm) (hw : ∀ d ∈ wordsEmp, d.before a0 Z = true) : ∀ d ∈ wordsEmp, d.before args s = true := fun d hd => by
  have t : ∀ d ∈ wordsEmp, (d.onTables && d.keepsFace) = true := by decide +kernel
  exact RoadKit.mv hZ (hw d hd) (t d hd)
/-- the words of String.equals(Object) -/
abbrev wordsEq : List Jvm.Cond := [.code SEq.yN SEq.yB 3 (some .boolean), .initialized ST, .classLink ST 10 ST, .fieldLink ST 38 ST "COMPACT_STRINGS" "Z", .fieldLink ST 15 ST "coder" "B", .fieldLink ST 9 ST "value" "[B", .methodLink ST 541 LEq.yN, .static LEq.yN, .code LEq.yN LEq.yB 3 (some .boolean), .initialized "java/lang/StringLatin1"]
theorem tabEq_of {a : Array Value} {s : State} (h : ∀ w ∈ wordsEq, w.before a s = true) : SEq.tab.before a s = true := by
  have hl : LEq.tab.before a s = true := unparts (wk h (.code LEq.yN LEq.yB 3 (some .boolean))) (wks h (.initialized LEq.yN.cls :: LEq.site))
  have q := consq hl h
  exact unparts (wk q (.code SEq.yN SEq.yB 3 (some .boolean))) (wks q (.initialized SEq.yN.cls :: SEq.site))
theorem movedEq {Z s : State} {a0 args : Array Value} (hZ : Z.Warmed39 s.vm) (hw : ∀ d ∈ wordsEq, d.before a0 Z = true) : ∀ d ∈ wordsEq, d.before args s = true := fun d hd => by
  have t : ∀ d ∈ wordsEq, (d.onTables && d.keepsFace) = true := by decide +kernel
  exact RoadKit.mv hZ (hw d hd) (t d hd)
/-- the road's facts of a String, as the laws ask it -/
theorem txt_of {Z U : State} {a0 : Array Value} {kI : Nat} (wi : (Jvm.Cond.instantiable ST kI).before a0 Z = true) (al : Z.vm.Alike U.vm) {x t : Addr} {kb : ClassId} {cs : List Int32} {cd N2 : Int32} {vs : List Value} (E : RoadKit.Exa Z U.heap x ST) (V : RoadKit.Fld Z U.heap x ST "value" "[B" (.ref t)) (C : RoadKit.Fld Z U.heap x ST "coder" "B" (.int cd)) (K : RoadKit.Arv Z U.heap t kb .byte N2 vs (.int 0)) (hc : CodA cs cd N2 vs) (hb : ∀ c ∈ cs, ¬ c < 0 ∧ ¬ (65535 : Int32) < c) (l2 : cs.length ≤ 4000) :
    ∃ A, Txt x t A cd cs.length (fun j => cs.getD j 0) U := by
  obtain ⟨A, K1, K2, K3, K4, K5, K6⟩ := K
  have hcod := hc.cod (by omega) K3 K5
  obtain ⟨D, fV, fC, hB, F1, F2, g1, g2, -, -⟩ := strObj wi al E V C
  exact ⟨A, ⟨_, hB.2.2.1, D, hB.1, rfl, by cases q : D.vm <;> first | rfl | exact absurd q (hB.2.1.2 _)⟩, Has.of hB F1 g1, Has.of hB F2 g2, ⟨K1.1, State.isArrayOf_alike al K1.2.1, K1.2.2, by rcases hcod with ⟨-, q, -⟩ | ⟨-, q, -⟩ <;> omega⟩, hcod, fun j hj => by
    have e : cs.getD j 0 = cs[j] := by simp [List.getD_eq_getElem?_getD, hj]
    show ¬ cs.getD j 0 < 0 ∧ ¬ 65535 < cs.getD j 0
    rw [e]; exact hb _ (List.getElem_mem _)⟩
theorem same_list (cs ds : List Int32) : SameT cs.length (fun j => cs.getD j 0) ds.length (fun j => ds.getD j 0) ↔ cs = ds := by
  constructor
  · rintro ⟨e, q⟩
    refine List.ext_getElem e fun j h1 h2 => ?_
    have := q j h1
    simpa [List.getD_eq_getElem?_getD, h1, h2] using this
  · rintro rfl
    exact ⟨rfl, fun _ _ => rfl⟩
/-- **isEmpty() OF SUCH A STRING** -/
theorem empW {p : Program} {l : Launch} {e : Env} {R : Room} {s : State} {args : Array Value} {below : List Frame} {len W : Nat} {Z : State} {a0 : Array Value} {h : Heap} (hZ : Z.Warmed39 s.vm) (hw : ∀ d ∈ wordsEmp, d.before a0 Z = true) {kI : Nat} (wi : (Jvm.Cond.instantiable ST kI).before a0 Z = true)
    {x t : Addr} {kb : ClassId} {cs : List Int32} {cd N2 : Int32} {vs : List Value} (E : RoadKit.Exa Z h x ST) (V : RoadKit.Fld Z h x ST "value" "[B" (.ref t)) (C : RoadKit.Fld Z h x ST "coder" "B" (.int cd)) (K : RoadKit.Arv Z h t kb .byte N2 vs (.int 0)) (hc : CodA cs cd N2 vs) (hb : ∀ c ∈ cs, ¬ c < 0 ∧ ¬ (65535 : Int32) < c) (l2 : cs.length ≤ 4000) (hfr : 1 ≤ R.frames) (hlo : W + 12 ≤ R.locals) :
    Back l R p e below s args (⟨"java/lang/String", "isEmpty", "()Z"⟩ : MethodName) len W (fun P a => a = #[.ref x] ∧ P.U.heap = h ∧ P.cells + 0 ≤ R.cells ∧ P.slots + 0 ≤ R.slots)
      (fun P _ v B => ∃ L, (v = some (.int (if cs.length = 0 then 1 else 0)) ∧ L = [] ∧ B.U.heap = h) ∧ B.locs = P.locs ++ L ∧ B.cells = P.cells + 0 ∧ B.slots = P.slots + 0) := by
  intro m meth c P g ig mk a X hg hsize hdg hW hn hp'
  obtain ⟨rfl, rfl, r1, r2⟩ := hp'
  have al : Z.vm.Alike P.U.vm := hZ.alike.trans X.warmed.alike
  obtain ⟨A, hx⟩ := txt_of wi al E V C K hc hb l2
  obtain ⟨v, B, X', ⟨⟨hv, hh⟩, hl, hk, hs⟩, st⟩ := Emp.pays x t A cd cs.length (fun j => cs.getD j 0) (tabEmp_of (movedEmp hZ hw)) hfr hlo m meth c P g ig mk _ X hg hsize hdg hW hn ⟨r1, r2, rfl, hx⟩
  exact ⟨v, B, X', ⟨[], ⟨hv, rfl, hh⟩, hl, hk, hs⟩, st⟩
/-- **equals(Object) OF TWO SUCH STRINGS**: 1 just where the chars are the same -/
theorem eqW {p : Program} {l : Launch} {e : Env} {R : Room} {s : State} {args : Array Value} {below : List Frame} {len W : Nat} {Z : State} {a0 : Array Value} {h : Heap} (hZ : Z.Warmed39 s.vm) (hw : ∀ d ∈ wordsEq, d.before a0 Z = true) {kI : Nat} (wi : (Jvm.Cond.instantiable ST kI).before a0 Z = true)
    {x t : Addr} {kb : ClassId} {cs : List Int32} {cd N2 : Int32} {vs : List Value} (E : RoadKit.Exa Z h x ST) (V : RoadKit.Fld Z h x ST "value" "[B" (.ref t)) (C : RoadKit.Fld Z h x ST "coder" "B" (.int cd)) (K : RoadKit.Arv Z h t kb .byte N2 vs (.int 0)) (hc : CodA cs cd N2 vs) (hb : ∀ c ∈ cs, ¬ c < 0 ∧ ¬ (65535 : Int32) < c) (l2 : cs.length ≤ 4000)
    {y t' : Addr} {kb' : ClassId} {ds : List Int32} {cd' N2' : Int32} {vs' : List Value} (E' : RoadKit.Exa Z h y ST) (V' : RoadKit.Fld Z h y ST "value" "[B" (.ref t')) (C' : RoadKit.Fld Z h y ST "coder" "B" (.int cd')) (K' : RoadKit.Arv Z h t' kb' .byte N2' vs' (.int 0)) (hc' : CodA ds cd' N2' vs') (hb' : ∀ c ∈ ds, ¬ c < 0 ∧ ¬ (65535 : Int32) < c) (l2' : ds.length ≤ 4000)
    {z : Int32} (S : RoadKit.Sta Z h ST "COMPACT_STRINGS" "Z" (.int z)) (hz : ¬ z = 0) (hfr : 2 ≤ R.frames) (hlo : W + 28 ≤ R.locals) :
    Back l R p e below s args (⟨"java/lang/String", "equals", "(Ljava/lang/Object;)Z"⟩ : MethodName) len W (fun P a => a = #[.ref x, .ref y] ∧ P.U.heap = h ∧ P.cells + 0 ≤ R.cells ∧ P.slots + 0 ≤ R.slots)
      (fun P _ v B => ∃ L, (((v = some (.int 1) ∧ cs = ds) ∨ (v = some (.int 0) ∧ ¬ cs = ds)) ∧ L = [] ∧ B.U.heap = h) ∧ B.locs = P.locs ++ L ∧ B.cells = P.cells + 0 ∧ B.slots = P.slots + 0) := by
  intro m meth c P g ig mk a X hg hsize hdg hW hn hp'
  obtain ⟨rfl, rfl, r1, r2⟩ := hp'
  have al : Z.vm.Alike P.U.vm := hZ.alike.trans X.warmed.alike
  obtain ⟨A, hx⟩ := txt_of wi al E V C K hc hb l2
  obtain ⟨A', hy⟩ := txt_of wi al E' V' C' K' hc' hb' l2'
  obtain ⟨v, B, X', ⟨⟨w, hv, hh, hq⟩, hl, hk, hs⟩, st⟩ := SEq.pays x t A cd cs.length (fun j => cs.getD j 0) y t' A' cd' ds.length (fun j => ds.getD j 0) z (tabEq_of (movedEq hZ hw)) hfr hlo m meth c P g ig mk _ X hg hsize hdg hW hn ⟨r1, r2, rfl, hx, hy, sta_is al S, hz⟩
  refine ⟨v, B, X', ⟨[], ⟨?_, rfl, hh⟩, hl, hk, hs⟩, st⟩
  rcases hq with ⟨rfl, q⟩ | ⟨rfl, q⟩
  · exact Or.inl ⟨hv, (same_list cs ds).mp q⟩
  · exact Or.inr ⟨hv, fun e => q ((same_list cs ds).mpr e)⟩
end StrChars.Road
namespace StrChars.Road
open Jvm Sem ClassFile Op Lib Jvm.Stand Jvm.Free Jvm.Free.XT
open Jvm.Lib.Cold (StaticIs)
/-- what backV says of its String, as the contracts of this text ask it: cs's low bytes, coder 0 -/
theorem codOf {cs : List Int32} {n : Nat} (hn : cs.length = n) (hb : ∀ c ∈ cs, ¬ 255 < c) : CodA cs 0 (Int32.ofNat n) ((cs.map lo8).map Value.int) := Or.inl ⟨rfl, by rw [hn], by simp [List.map_map, Function.comp_def], hb⟩
end StrChars.Road
end Jvm.Pilot.@@N@@

namespace Jvm.Pilot.@@N@@
open Jvm Jvm.ClassFile Sem Op Lib Jvm.Free Jvm.Stand Jvm.LawKit Jvm.RoadKit Bundle Jvm.Pilot.@@N@@.Jvm.D
/-- from this state and frame the body comes to its end, with what G says -/
def Go (p : Program) (e : Env) (below : List Frame) (G : Outcome → State → Prop) (T : State) (f : JFrame) : Prop :=
  ∃ s₂ o, Steps p.tables e below (T.setTop f) s₂ ∧ s₂.status = .running ∧ Ended s₂ below o ∧ G o s₂
theorem Go.by {p : Program} {e : Env} {below : List Frame} {G : Outcome → State → Prop} {T T' : State} {f f' : JFrame} (k : ∀ t, Steps p.tables e below (T'.setTop f') t → Steps p.tables e below (T.setTop f) t) (g : Go p e below G T' f') : Go p e below G T f := by
  obtain ⟨s₂, o, h1, h2⟩ := g; exact ⟨s₂, o, k _ h1, h2⟩
theorem Old.le {Z : State} {n0 : Nat} {h : Heap} (O : Old Z n0 h) : n0 ≤ h.size := O.1 ▸ O.2.1

theorem ord_fld {args : Array Value} {s : State} {t : Term} {C n d : String} {k : Int32} {a : Addr} (h : (Cond.eq (Term.field t C n d) (Term.int k)).value args s none s [] = some true) (ht : t.eval args s none [] s = some (.ref a)) : Fld s s.heap a C n d (.int k) := by
  obtain ⟨x, y, hx, hy, -, kin⟩ := cmp_v (Or.inl h)
  obtain rfl : y = .int k := (Option.some.inj ((Term.int_eval k).symm.trans hy)).symm
  obtain ⟨z, rfl⟩ := kin
  have e : z = k := by simpa [Cond.value, hx, hy] using h
  subst e
  exact Fld.start (by rw [← fld_at ht]; exact hx)

theorem own_nsroot {Z : State} {a0 : Array Value} {O K : String} {n : Nat} (w : (Cond.noSuperclass O).before a0 Z = true) (wk : (Cond.instantiable K n).before a0 Z = true) (hn : O ≠ K) : NS Z O K := by
  obtain ⟨c, k, h1, h2, h3, -, -⟩ := Cond.noSuperclass_spec w
  obtain ⟨t, kt, g1, -⟩ := Cond.instantiable_spec wk
  have ne := ids_ne h1 g1 hn
  refine ⟨c, t, h1, g1, fun fuel => ?_⟩
  cases fuel with
  | zero => rfl
  | succ f => simp [Vm.isSubclassAux, ne, h2, h3]
theorem own_nsno {Z : State} {a0 : Array Value} {C S K : String} {m : Nat} (w : (Cond.superclass C S).before a0 Z = true) (wk : (Cond.instantiable K m).before a0 Z = true) (n : NS Z C K) (hn : C ≠ K) : ∃ c t, Z.vm.findClass C = some c ∧ Z.vm.findClass K = some t ∧ Z.vm.assignable c t = false := by
  obtain ⟨c, t, h0, g0, n3⟩ := n
  obtain ⟨p, k, kp, h1, h2, h3, h4, h5, -, h7⟩ := Cond.superclass_spec h0 w
  obtain ⟨t', kt, g1, g2, g3, g4, -⟩ := Cond.instantiable_spec wk
  cases g0.symm.trans g1
  simp only [Bool.or_eq_false_iff] at g4
  have ne := ids_ne h0 g0 hn
  refine ⟨c, t, h0, g0, ?_⟩
  show Z.vm.assignableAux (255 + 1) c t = false
  simp [Vm.assignableAux, ne, h2, g2, h5, g3, g4.1, Vm.isSubclass, n3]

theorem own_cache {args : Array Value} {s : State} {wc : Addr} {cl : Cell} (ec : IntBox.cacheT.eval args s none [] s = some (.ref wc)) (A : Arr s s.heap wc cl (.object "java/lang/Integer")) (hsz : cl.slots.size = 256)
    (hall : (Cond.all IntBox.cacheT (.and (.exactly (.elem IntBox.cacheT (.index 0)) "java/lang/Integer") (.eq (.field (.elem IntBox.cacheT (.index 0)) "java/lang/Integer" "value" "I") (.sub (.index 0) (.int 128))))).before args s = true) :
    ∀ w : Int32, ¬ w < -128 → ¬ 127 < w → ∃ b : Addr, ¬ ((w + 128) < 0 ∨ cl.slots.size ≤ (w + 128).toNatClampNeg) ∧ cl.slots[(w + 128).toNatClampNeg]? = some (.ref b) ∧ Exa s s.heap b "java/lang/Integer" := by
  intro w h1 h2
  obtain ⟨hb, hlt⟩ := IntBox.place_ok w h1 h2
  have hat : s.arrayAt? wc = some cl := IntBox.arrayAt_of A.1 A.2.1 A.2.2
  have hj := Cond.all_elim (c := .and (.exactly (.elem IntBox.cacheT (.index 0)) "java/lang/Integer") (.eq (.field (.elem IntBox.cacheT (.index 0)) "java/lang/Integer" "value" "I") (.sub (.index 0) (.int 128)))) ec hat (by simpa [Cond.before, Cond.holds] using hall) _ (by rw [hsz]; exact hlt)
  have hv : (Cond.and (.exactly (.elem IntBox.cacheT (.index 0)) "java/lang/Integer") (.eq (.field (.elem IntBox.cacheT (.index 0)) "java/lang/Integer" "value" "I") (.sub (.index 0) (.int 128)))).holds args s none s [(w + 128).toNatClampNeg] = true := by simpa [Cond.holds] using hj
  rw [Cond.holds_and, Bool.and_eq_true] at hv
  obtain ⟨b, c', cell, k, e1, e2, e3, e4, e5, rfl, e7⟩ := Cond.exactly_spec hv.1
  have g2 := elem_in e1 (show IntBox.cacheT.eval args s none [(w + 128).toNatClampNeg] s = some (.ref wc) from ec) (show (Term.index 0).eval args s none [(w + 128).toNatClampNeg] s = some (.int (w + 128).toNatClampNeg.toInt32) from rfl) A.1
  obtain ⟨-, hback⟩ := IntBox.place_nonneg _ hlt
  rw [hback] at g2
  exact ⟨b, by rw [hsz]; exact hb, g2.2, ⟨cell, k, e3, e2, e4, e5, e7⟩⟩

def Qpure (r : Option Value) (h0 : Heap) (n0 : Nat) (v : Option Value) (h : Heap) (L : List Loc) : Prop := v = r ∧ Fr n0 L ∧ h = h0

theorem own_up (cs : List Int32) (h : ∀ c ∈ cs, ¬ c < 0 ∧ ¬ (255 : Int32) < c) : ∀ c ∈ cs, ¬ c < 0 ∧ ¬ (65535 : Int32) < c := fun c hc => ⟨(h c hc).1, fun q => (h c hc).2 (by rw [Int32.lt_iff_toInt_lt] at q ⊢; have e1 : (65535 : Int32).toInt = 65535 := rfl; have e2 : (255 : Int32).toInt = 255 := rfl; omega)⟩
theorem own_small (x : Int32) (h : ¬ x < 0 ∧ ¬ (255 : Int32) < x) : ∃ k : Fin 256, x = Int32.ofNat k.val := by
  obtain ⟨h1, h2⟩ := h
  rw [Int32.lt_iff_toInt_lt] at h1 h2
  have e0 : (0 : Int32).toInt = 0 := rfl
  have e2 : (255 : Int32).toInt = 255 := rfl
  refine ⟨⟨x.toInt.toNat, by omega⟩, Int32.toInt_inj.mp ?_⟩
  rw [Int32.toInt_ofNat_of_lt (by show x.toInt.toNat < 2 ^ 31; omega)]
  show x.toInt = (x.toInt.toNat : Int)
  omega
theorem own_nar (x : Int32) (h : ¬ x < 0 ∧ ¬ (255 : Int32) < x) : nar .char x = x := by
  obtain ⟨k, rfl⟩ := own_small x h
  exact (by decide +kernel : ∀ k : Fin 256, nar .char (Int32.ofNat k.val) = Int32.ofNat k.val) k
theorem own_and255 (x : Int32) : ¬ (x &&& (255 : Int32)) < 0 ∧ ¬ (255 : Int32) < (x &&& (255 : Int32)) := by
  have e := Jvm.Kit.i32_mask x 255 (k := 8) (by decide) (by decide)
  have e0 : (0 : Int32).toInt = 0 := rfl
  have e2 : (255 : Int32).toInt = 255 := rfl
  rw [Int32.lt_iff_toInt_lt, Int32.lt_iff_toInt_lt, e]; omega
theorem own_i2c (x : Int32) (h : ¬ x < 0 ∧ ¬ (255 : Int32) < x) : nar .char (x.toUInt32.toUInt16.toUInt32.toInt32) = x := by
  obtain ⟨k, rfl⟩ := own_small x h
  exact (by decide +kernel : ∀ k : Fin 256, nar .char ((Int32.ofNat k.val).toUInt32.toUInt16.toUInt32.toInt32) = Int32.ofNat k.val) k
theorem own_i2c0 (x : Int32) (h : ¬ x < 0 ∧ ¬ (255 : Int32) < x) : x.toUInt32.toUInt16.toUInt32.toInt32 = x := by
  obtain ⟨k, rfl⟩ := own_small x h
  exact (by decide +kernel : ∀ k : Fin 256, ((Int32.ofNat k.val).toUInt32.toUInt16.toUInt32.toInt32) = Int32.ofNat k.val) k

def Sf (Z : State)  (wc : Addr)  (cl : Cell)  (zc : Int32) : Prop := Sta Z Z.heap "java/lang/Integer$IntegerCache" "high" "I" (.int 127) ∧ Sta Z Z.heap "java/lang/Integer$IntegerCache" "cache" "[Ljava/lang/Integer;" (.ref wc) ∧ Arr Z Z.heap wc cl (.object "java/lang/Integer") ∧ (∀ w : Int32, ¬ w < -128 → ¬ 127 < w → ∃ b : Addr, ¬ ((w + 128) < 0 ∨ cl.slots.size ≤ (w + 128).toNatClampNeg) ∧ cl.slots[(w + 128).toNatClampNeg]? = some (.ref b) ∧ Exa Z Z.heap b "java/lang/Integer") ∧ Sta Z Z.heap "java/lang/String" "COMPACT_STRINGS" "Z" (.int zc) ∧ ¬ zc = 0 ∧ True
theorem own_97 (v : Int32) : ¬ (97 + (v &&& (1 : Int32))) < 0 ∧ ¬ (255 : Int32) < (97 + (v &&& (1 : Int32))) := by
  have e := Jvm.Kit.i32_mask v 1 (k := 1) (by decide) (by decide)
  have h : (v &&& (1 : Int32)) = 0 ∨ (v &&& (1 : Int32)) = 1 := by
    rcases (show (v &&& (1 : Int32)).toInt = 0 ∨ (v &&& (1 : Int32)).toInt = 1 by omega) with q | q
    · exact Or.inl (Int32.toInt_inj.mp q)
    · exact Or.inr (Int32.toInt_inj.mp q)
  rcases h with h | h <;> rw [h] <;> decide
theorem own_p16 (v : Int32) : ¬ (v &&& (65535 : Int32)) < 0 ∧ ¬ (65535 : Int32) < (v &&& (65535 : Int32)) := by
  have e := Jvm.Kit.i32_mask v 65535 (k := 16) (by decide) (by decide)
  have e0 : (0 : Int32).toInt = 0 := rfl
  have e2 : (65535 : Int32).toInt = 65535 := rfl
  rw [Int32.lt_iff_toInt_lt, Int32.lt_iff_toInt_lt, e]; omega
theorem own_sh (x : Int32) : ∃ k : Fin 16, (1 : Int32) <<< ((x &&& (15 : Int32)) &&& 31) = Int32.ofNat (2 ^ k.val) := by
  have e := Jvm.Kit.i32_mask x 15 (k := 4) (by decide) (by decide)
  obtain ⟨k, hk⟩ : ∃ k : Fin 16, (x &&& (15 : Int32)) = Int32.ofNat k.val := by
    refine ⟨⟨(x &&& (15 : Int32)).toInt.toNat, by omega⟩, Int32.toInt_inj.mp ?_⟩
    rw [Int32.toInt_ofNat_of_lt (by show (x &&& (15 : Int32)).toInt.toNat < 2 ^ 31; omega)]
    show (x &&& (15 : Int32)).toInt = ((x &&& (15 : Int32)).toInt.toNat : Int)
    omega
  refine ⟨k, ?_⟩
  rw [hk]
  exact (by decide +kernel : ∀ k : Fin 16, (1 : Int32) <<< (Int32.ofNat k.val &&& 31) = Int32.ofNat (2 ^ k.val)) k
theorem own_x16 (v x : Int32) : ¬ ((v &&& (65535 : Int32)) ^^^ ((1 : Int32) <<< ((x &&& (15 : Int32)) &&& 31))) < 0 ∧ ¬ (65535 : Int32) < ((v &&& (65535 : Int32)) ^^^ ((1 : Int32) <<< ((x &&& (15 : Int32)) &&& 31))) := by
  obtain ⟨k, hk⟩ := own_sh x
  have h1 : (((1 : Int32) <<< ((x &&& (15 : Int32)) &&& 31)) &&& (65535 : Int32)) = ((1 : Int32) <<< ((x &&& (15 : Int32)) &&& 31)) := by
    rw [hk]
    exact (by decide +kernel : ∀ k : Fin 16, (Int32.ofNat (2 ^ k.val) &&& (65535 : Int32)) = Int32.ofNat (2 ^ k.val)) k
  have h2 : ((v &&& (65535 : Int32)) ^^^ ((1 : Int32) <<< ((x &&& (15 : Int32)) &&& 31))) = ((v ^^^ ((1 : Int32) <<< ((x &&& (15 : Int32)) &&& 31))) &&& (65535 : Int32)) := by
    generalize ((1 : Int32) <<< ((x &&& (15 : Int32)) &&& 31)) = y at h1
    conv => lhs; rw [← h1]
    apply Int32.toBitVec_inj.mp
    simp only [Int32.toBitVec_xor, Int32.toBitVec_and]
    ext i hi
    simp only [BitVec.getElem_xor, BitVec.getElem_and]
    generalize v.toBitVec[i] = p; generalize y.toBitVec[i] = q; generalize (65535 : Int32).toBitVec[i] = r
    cases p <;> cases q <;> cases r <;> rfl
  rw [h2]; exact own_p16 _
def eqs (c1 : List Int32) (p1 : Int32) (c2 : List Int32) (p2 : Int32) : Int32 := if c1 = c2 ∧ p1 = p2 then 1 else 0
def Qch (h0 : Heap) (n0 : Nat) (v : Option Value) (h : Heap) (L : List Loc) : Prop := ∃ z : Int32, v = some (.int z) ∧ (¬ z < 0 ∧ ¬ (255 : Int32) < z) ∧ Fr n0 L ∧ h = h0
def Qni (Z : State) (a : Addr) (h0 : Heap) (n0 : Nat) (v : Option Value) (h : Heap) (L : List Loc) : Prop := v = none ∧ Fr n0 L ∧ Keep h0 h [a]
def Qv (Z : State) (h0 : Heap) (n0 : Nat) (v : Option Value) (h : Heap) (L : List Loc) : Prop := ∃ b : Addr, v = some (.ref b) ∧ Fr n0 L ∧ Keep h0 h [] ∧ Exa Z h b "java/lang/Integer"
def Qe (Z : State) (a hs : Addr) (p1 : Int32) (h0 : Heap) (n0 : Nat) (v : Option Value) (h : Heap) (L : List Loc) : Prop := v = none ∧ Fr n0 L ∧ Keep h0 h [a] ∧ Fld Z h a "com/example/honest_replica/honestreplica/model/Endpoint" "host" "Ljava/lang/String;" (.ref hs) ∧ Fld Z h a "com/example/honest_replica/honestreplica/model/Endpoint" "port" "I" (.int p1)
def Q1 (n0 : Nat) (v : Option Value) (h : Heap) (L : List Loc) : Prop := v = some (.int 1) ∧ Fr n0 L
theorem d_ch_0 : decode method_2_code 0 = .ok (.iload_n 0, 1) := by decide +kernel
theorem d_ch_1 : decode method_2_code 1 = .ok (.sipush 511, 3) := by decide +kernel
theorem d_ch_4 : decode method_2_code 4 = .ok (.iand, 1) := by decide +kernel
theorem d_ch_5 : decode method_2_code 5 = .ok (.istore_n 1, 1) := by decide +kernel
theorem d_ch_6 : decode method_2_code 6 = .ok (.iload_n 1, 1) := by decide +kernel
theorem d_ch_7 : decode method_2_code 7 = .ok (.sipush 256, 3) := by decide +kernel
theorem d_ch_10 : decode method_2_code 10 = .ok (.iand, 1) := by decide +kernel
theorem d_ch_11 : decode method_2_code 11 = .ok (.ifCond .eq 10, 3) := by decide +kernel
theorem d_ch_14 : decode method_2_code 14 = .ok (.iload_n 1, 1) := by decide +kernel
theorem d_ch_15 : decode method_2_code 15 = .ok (.sipush 255, 3) := by decide +kernel
theorem d_ch_18 : decode method_2_code 18 = .ok (.iand, 1) := by decide +kernel
theorem d_ch_19 : decode method_2_code 19 = .ok (.i2c, 1) := by decide +kernel
theorem d_ch_20 : decode method_2_code 20 = .ok (.ireturn, 1) := by decide +kernel
theorem d_ch_21 : decode method_2_code 21 = .ok (.bipush 97, 2) := by decide +kernel
theorem d_ch_23 : decode method_2_code 23 = .ok (.iload_n 1, 1) := by decide +kernel
theorem d_ch_24 : decode method_2_code 24 = .ok (.iconst 1, 1) := by decide +kernel
theorem d_ch_25 : decode method_2_code 25 = .ok (.iand, 1) := by decide +kernel
theorem d_ch_26 : decode method_2_code 26 = .ok (.iadd, 1) := by decide +kernel
theorem d_ch_27 : decode method_2_code 27 = .ok (.i2c, 1) := by decide +kernel
theorem d_ch_28 : decode method_2_code 28 = .ok (.ireturn, 1) := by decide +kernel
theorem pn_ch : plainFor (⟨"com/example/honest_replica/honestreplica/model/EndpointEqualsPinLaw", "ch", "(I)C"⟩ : MethodName) = true := plainFor_of_name (by first | (simp [plainName, overriddenIn]; done) | decide +kernel)
theorem ef_ch (m : MethodId) (x0 : Int32) : entryFrame m #[(.int x0)] 2 = mkF m 0 #[.val (.int x0), .unset] [] := by first | (simp [entryFrame, mkF, argsToLocals, Value.category]; done) | rfl
set_option maxRecDepth 65536 in
set_option maxHeartbeats 40000000 in
theorem rm_ch (l : Launch) (Z : State) (a0 : Array Value) (hw : ∀ d ∈ tables_1, d.before a0 Z = true) (ws : List Jvm.Cond) (p1 : Int32) (h0 : Heap) (n0 : Nat) (O : Old Z n0 h0)  :
    MetFree l (⟨"com/example/honest_replica/honestreplica/model/EndpointEqualsPinLaw", "ch", "(I)C"⟩ : MethodName) (head1 (Jvm.Cond.code (⟨"com/example/honest_replica/honestreplica/model/EndpointEqualsPinLaw", "ch", "(I)C"⟩ : MethodName) method_2_code 2 (some .char) :: ws) ({ frames := 0, cells := 0, slots := 0, locals := 0 } : Room)) (fun as_ U => as_ = #[(.int p1)] ∧ Z.Warmed39 U.vm ∧ U.heap = h0) (fun _ _ _ _ _ => True) (fun _ U o U' => ∃ v L, o = .returned v ∧ Qch h0 n0 v U'.heap L ∧ FrameEnd U o U' L ({ frames := 0, cells := 0, slots := 0, locals := 0 } : Room).cells ({ frames := 0, cells := 0, slots := 0, locals := 0 } : Room).slots) := by
  refine MetFree.of_bodySF pn_ch hisR ?_
  intro p e s m args below meth c s₁ Bd hml0 hP hK
  obtain ⟨rfl, hZ, hh⟩ := hP
  have hx := Bd.exec
  have hby := Bd.bytes
  have hml : c.maxLocals = 2 := hml0
  have hown : s.vm.findClass "com/example/honest_replica/honestreplica/model/EndpointEqualsPinLaw" = some m.cls := findClass_of_methodNamed Bd.named
  have hnm := (name_of_methodNamed Bd.named Bd.method).1
  have X0 : Stand p l e ({ frames := 0, cells := 0, slots := 0, locals := 0 } : Room) s m #[(.int p1)] below meth c s₁ [] 0 0 := Stand.of_body Bd
  have e0 : s₁.heap = h0 := by rw [← hh, Bd.state]; rfl
  have N := Fr.nil n0
  have K : Keep h0 h0 [] := Keep.refl _ _
  refine Go.by (T' := s₁) (f' := (mkF m 0 #[.val (.int p1), .unset] [])) (fun _ k => castTop (ef_ch m p1) k) ?_
  refine Go.by (T' := s₁) (f' := (mkF m 1 #[.val (.int p1), .unset] [(.int p1)])) (fun _ k => XS.iloadN X0.here hx rfl (hb hby d_ch_0) rfl k) ?_
  refine Go.by (T' := s₁) (f' := (mkF m 4 #[.val (.int p1), .unset] [(.int (511 : Int32)), (.int p1)])) (fun _ k => XS.sipush X0.here hx rfl (hb hby d_ch_1) k) ?_
  refine Go.by (T' := s₁) (f' := (mkF m 5 #[.val (.int p1), .unset] [(.int (p1 &&& (511 : Int32)))])) (fun _ k => XS.iand X0.here hx rfl (hb hby d_ch_4) rfl k) ?_
  refine Go.by (T' := s₁) (f' := (mkF m 6 #[.val (.int p1), .val (.int (p1 &&& (511 : Int32)))] [])) (fun _ k => XS.istoreN X0.here hx rfl (hb hby d_ch_5) rfl (l' := #[.val (.int p1), .val (.int (p1 &&& (511 : Int32)))]) rfl k) ?_
  refine Go.by (T' := s₁) (f' := (mkF m 7 #[.val (.int p1), .val (.int (p1 &&& (511 : Int32)))] [(.int (p1 &&& (511 : Int32)))])) (fun _ k => XS.iloadN X0.here hx rfl (hb hby d_ch_6) rfl k) ?_
  refine Go.by (T' := s₁) (f' := (mkF m 10 #[.val (.int p1), .val (.int (p1 &&& (511 : Int32)))] [(.int (256 : Int32)), (.int (p1 &&& (511 : Int32)))])) (fun _ k => XS.sipush X0.here hx rfl (hb hby d_ch_7) k) ?_
  refine Go.by (T' := s₁) (f' := (mkF m 11 #[.val (.int p1), .val (.int (p1 &&& (511 : Int32)))] [(.int ((p1 &&& (511 : Int32)) &&& (256 : Int32)))])) (fun _ k => XS.iand X0.here hx rfl (hb hby d_ch_10) rfl k) ?_
  by_cases hc11_1 : ((p1 &&& (511 : Int32)) &&& (256 : Int32)) = (0 : Int32)
  · skip
    refine Go.by (T' := s₁) (f' := (mkF m 21 #[.val (.int p1), .val (.int (p1 &&& (511 : Int32)))] [])) (fun _ k => XS.ifYes X0.here hx rfl (pc0 := 11) (pc' := 21) rfl (hb hby d_ch_11) rfl ((if0 _ _).trans (teq hc11_1).1) (by decide) (by decide) k) ?_
    refine Go.by (T' := s₁) (f' := (mkF m 23 #[.val (.int p1), .val (.int (p1 &&& (511 : Int32)))] [(.int (97 : Int32))])) (fun _ k => XS.bipush X0.here hx rfl (hb hby d_ch_21) k) ?_
    refine Go.by (T' := s₁) (f' := (mkF m 24 #[.val (.int p1), .val (.int (p1 &&& (511 : Int32)))] [(.int (p1 &&& (511 : Int32))), (.int (97 : Int32))])) (fun _ k => XS.iloadN X0.here hx rfl (hb hby d_ch_23) rfl k) ?_
    refine Go.by (T' := s₁) (f' := (mkF m 25 #[.val (.int p1), .val (.int (p1 &&& (511 : Int32)))] [(.int (1 : Int32)), (.int (p1 &&& (511 : Int32))), (.int (97 : Int32))])) (fun _ k => XS.iconst X0.here hx rfl (hb hby d_ch_24) k) ?_
    refine Go.by (T' := s₁) (f' := (mkF m 26 #[.val (.int p1), .val (.int (p1 &&& (511 : Int32)))] [(.int ((p1 &&& (511 : Int32)) &&& (1 : Int32))), (.int (97 : Int32))])) (fun _ k => XS.iand X0.here hx rfl (hb hby d_ch_25) rfl k) ?_
    refine Go.by (T' := s₁) (f' := (mkF m 27 #[.val (.int p1), .val (.int (p1 &&& (511 : Int32)))] [(.int ((97 : Int32) + ((p1 &&& (511 : Int32)) &&& (1 : Int32))))])) (fun _ k => XS.iadd X0.here hx rfl (hb hby d_ch_26) rfl k) ?_
    refine Go.by (T' := s₁) (f' := (mkF m 28 #[.val (.int p1), .val (.int (p1 &&& (511 : Int32)))] [(.int (((97 : Int32) + ((p1 &&& (511 : Int32)) &&& (1 : Int32))).toUInt32.toUInt16.toUInt32.toInt32))])) (fun _ k => XS.i2c X0.here hx rfl (hb hby d_ch_27) rfl k) ?_
    obtain ⟨fs, hr, hrun, hended, hW, hsame⟩ := X0.leave (v := some (.int (nar .char (((97 : Int32) + ((p1 &&& (511 : Int32)) &&& (1 : Int32))).toUInt32.toUInt16.toUInt32.toInt32)))) (fun h => by rw [Bd.returns] at h; cases h)
    refine ⟨_, _, retN X0 hx (t := .char) Bd.returns (by simp) (hb hby d_ch_28) hr, hrun, hended, _, _, rfl, ?_, ⟨_, rfl⟩, hW, hsame.mono (by decide) (by decide)⟩
    show Qch h0 n0 (some (.int (nar .char (((97 : Int32) + ((p1 &&& (511 : Int32)) &&& (1 : Int32))).toUInt32.toUInt16.toUInt32.toInt32)))) s₁.heap _
    rw [e0]
    exact ⟨_, rfl, by rw [own_i2c _ (own_97 _)]; exact own_97 _, N, rfl⟩
  · skip
    refine Go.by (T' := s₁) (f' := (mkF m 14 #[.val (.int p1), .val (.int (p1 &&& (511 : Int32)))] [])) (fun _ k => XS.ifNo X0.here hx rfl (hb hby d_ch_11) rfl ((if0 _ _).trans (feq hc11_1).1) k) ?_
    refine Go.by (T' := s₁) (f' := (mkF m 15 #[.val (.int p1), .val (.int (p1 &&& (511 : Int32)))] [(.int (p1 &&& (511 : Int32)))])) (fun _ k => XS.iloadN X0.here hx rfl (hb hby d_ch_14) rfl k) ?_
    refine Go.by (T' := s₁) (f' := (mkF m 18 #[.val (.int p1), .val (.int (p1 &&& (511 : Int32)))] [(.int (255 : Int32)), (.int (p1 &&& (511 : Int32)))])) (fun _ k => XS.sipush X0.here hx rfl (hb hby d_ch_15) k) ?_
    refine Go.by (T' := s₁) (f' := (mkF m 19 #[.val (.int p1), .val (.int (p1 &&& (511 : Int32)))] [(.int ((p1 &&& (511 : Int32)) &&& (255 : Int32)))])) (fun _ k => XS.iand X0.here hx rfl (hb hby d_ch_18) rfl k) ?_
    refine Go.by (T' := s₁) (f' := (mkF m 20 #[.val (.int p1), .val (.int (p1 &&& (511 : Int32)))] [(.int (((p1 &&& (511 : Int32)) &&& (255 : Int32)).toUInt32.toUInt16.toUInt32.toInt32))])) (fun _ k => XS.i2c X0.here hx rfl (hb hby d_ch_19) rfl k) ?_
    obtain ⟨fs, hr, hrun, hended, hW, hsame⟩ := X0.leave (v := some (.int (nar .char (((p1 &&& (511 : Int32)) &&& (255 : Int32)).toUInt32.toUInt16.toUInt32.toInt32)))) (fun h => by rw [Bd.returns] at h; cases h)
    refine ⟨_, _, retN X0 hx (t := .char) Bd.returns (by simp) (hb hby d_ch_20) hr, hrun, hended, _, _, rfl, ?_, ⟨_, rfl⟩, hW, hsame.mono (by decide) (by decide)⟩
    show Qch h0 n0 (some (.int (nar .char (((p1 &&& (511 : Int32)) &&& (255 : Int32)).toUInt32.toUInt16.toUInt32.toInt32)))) s₁.heap _
    rw [e0]
    exact ⟨_, rfl, by rw [own_i2c _ (own_and255 _)]; exact own_and255 _, N, rfl⟩

theorem d_rm_ni_0 : decode jdk_18_method_1_code 0 = .ok (.aload_n 0, 1) := by decide +kernel
theorem d_rm_ni_1 : decode jdk_18_method_1_code 1 = .ok (.invokespecial 1, 3) := by decide +kernel
theorem d_rm_ni_4 : decode jdk_18_method_1_code 4 = .ok (.return_, 1) := by decide +kernel
theorem pn_rm_ni : plainFor (⟨"java/lang/Number", "<init>", "()V"⟩ : MethodName) = true := plainFor_of_name (by first | (simp [plainName, overriddenIn]; done) | decide +kernel)
theorem ef_rm_ni (m : MethodId) (x0 : Addr) : entryFrame m #[(.ref x0)] 1 = mkF m 0 #[.val (.ref x0)] [] := by first | (simp [entryFrame, mkF, argsToLocals, Value.category]; done) | rfl
set_option maxRecDepth 65536 in
set_option maxHeartbeats 40000000 in
theorem rm_ni (l : Launch) (Z : State) (a0 : Array Value) (hw : ∀ d ∈ tables_1, d.before a0 Z = true) (ws : List Jvm.Cond) (a : Addr) (h0 : Heap) (n0 : Nat) (O : Old Z n0 h0)  :
    MetFree l (⟨"java/lang/Number", "<init>", "()V"⟩ : MethodName) (head1 (Jvm.Cond.code (⟨"java/lang/Number", "<init>", "()V"⟩ : MethodName) jdk_18_method_1_code 1 none :: ws) ({ frames := 1, cells := 0, slots := 0, locals := 12 } : Room)) (fun as_ U => as_ = #[(.ref a)] ∧ Z.Warmed39 U.vm ∧ U.heap = h0) (fun _ _ _ _ _ => True) (fun _ U o U' => ∃ v L, o = .returned v ∧ Qpure none h0 n0 v U'.heap L ∧ FrameEnd U o U' L ({ frames := 1, cells := 0, slots := 0, locals := 12 } : Room).cells ({ frames := 1, cells := 0, slots := 0, locals := 12 } : Room).slots) := by
  refine MetFree.of_bodySF pn_rm_ni hisR ?_
  intro p e s m args below meth c s₁ Bd hml0 hP hK
  obtain ⟨rfl, hZ, hh⟩ := hP
  have hx := Bd.exec
  have hby := Bd.bytes
  have hml : c.maxLocals = 1 := hml0
  have hown : s.vm.findClass "java/lang/Number" = some m.cls := findClass_of_methodNamed Bd.named
  have hnm := (name_of_methodNamed Bd.named Bd.method).1
  have X0 : Stand p l e ({ frames := 1, cells := 0, slots := 0, locals := 12 } : Room) s m #[(.ref a)] below meth c s₁ [] 0 0 := Stand.of_body Bd
  have e0 : s₁.heap = h0 := by rw [← hh, Bd.state]; rfl
  have N := Fr.nil n0
  have K : Keep h0 h0 [] := Keep.refl _ _
  refine Go.by (T' := s₁) (f' := (mkF m 0 #[.val (.ref a)] [])) (fun _ k => castTop (ef_rm_ni m a) k) ?_
  refine Go.by (T' := s₁) (f' := (mkF m 1 #[.val (.ref a)] [(.ref a)])) (fun _ k => XS.aloadN X0.here hx rfl (hb hby d_rm_ni_0) rfl rfl k) ?_
  obtain ⟨T1, X1, e1, st1⟩ := initO X0 hx hZ hown (hw _ (List.mem_of_getElem? (i := 89) rfl)) (hw _ (List.mem_of_getElem? (i := 17) rfl)) (hw _ (List.mem_of_getElem? (i := 18) rfl)) e0 (g := (mkF m 1 #[.val (.ref a)] [(.ref a)])) rfl (by rw [hml]; rfl) rfl (hb hby d_rm_ni_1) (by decide) (W := 0) (by show 2 * 0 + _ ≤ _; exact Nat.le_of_eq rfl) (by decide)
  refine Go.by (T' := T1) (f' := (mkF m 4 #[.val (.ref a)] [])) (st1) ?_
  obtain ⟨fs, hr, hrun, hended, hW, hsame⟩ := X1.leave (v := none) (fun _ => rfl)
  refine ⟨_, _, X1.returnOut hx Bd.returns (hb hby d_rm_ni_4) hr, hrun, hended, _, _, rfl, ?_, ⟨_, rfl⟩, hW, hsame.mono (by decide) (by decide)⟩
  show Qpure none h0 n0 (none) T1.heap _
  rw [e1]
  exact ⟨rfl, N, rfl⟩

theorem d_ii_0 : decode jdk_33_method_23_code 0 = .ok (.aload_n 0, 1) := by decide +kernel
theorem d_ii_1 : decode jdk_33_method_23_code 1 = .ok (.invokespecial 202, 3) := by decide +kernel
theorem d_ii_4 : decode jdk_33_method_23_code 4 = .ok (.aload_n 0, 1) := by decide +kernel
theorem d_ii_5 : decode jdk_33_method_23_code 5 = .ok (.iload_n 1, 1) := by decide +kernel
theorem d_ii_6 : decode jdk_33_method_23_code 6 = .ok (.putfield 205, 3) := by decide +kernel
theorem d_ii_9 : decode jdk_33_method_23_code 9 = .ok (.return_, 1) := by decide +kernel
theorem pn_ii : plainFor (⟨"java/lang/Integer", "<init>", "(I)V"⟩ : MethodName) = true := plainFor_of_name (by first | (simp [plainName, overriddenIn]; done) | decide +kernel)
theorem pd_ii_0 : parseMethodDescriptor "()V" = some ⟨[], none⟩ := by decide +kernel
theorem ef_ii (m : MethodId) (x0 : Addr) (x1 : Int32) : entryFrame m #[(.ref x0), (.int x1)] 2 = mkF m 0 #[.val (.ref x0), .val (.int x1)] [] := by first | (simp [entryFrame, mkF, argsToLocals, Value.category]; done) | rfl
set_option maxRecDepth 65536 in
set_option maxHeartbeats 40000000 in
theorem rm_ii (l : Launch) (Z : State) (a0 : Array Value) (hw : ∀ d ∈ tables_1, d.before a0 Z = true) (ws : List Jvm.Cond) (a : Addr) (p1 : Int32) (h0 : Heap) (n0 : Nat) (O : Old Z n0 h0) (E_a : Exa Z h0 a "java/lang/Integer") (F_v : Fld Z h0 a "java/lang/Integer" "value" "I" (.int 0)) (g_a : n0 ≤ a) :
    MetFree l (⟨"java/lang/Integer", "<init>", "(I)V"⟩ : MethodName) (head1 (Jvm.Cond.code (⟨"java/lang/Integer", "<init>", "(I)V"⟩ : MethodName) jdk_33_method_23_code 2 none :: ws) ({ frames := 2, cells := 0, slots := 0, locals := 24 } : Room)) (fun as_ U => as_ = #[(.ref a), (.int p1)] ∧ Z.Warmed39 U.vm ∧ U.heap = h0) (fun _ _ _ _ _ => True) (fun _ U o U' => ∃ v L, o = .returned v ∧ Qni Z a h0 n0 v U'.heap L ∧ FrameEnd U o U' L ({ frames := 2, cells := 0, slots := 0, locals := 24 } : Room).cells ({ frames := 2, cells := 0, slots := 0, locals := 24 } : Room).slots) := by
  refine MetFree.of_bodySF pn_ii hisR ?_
  intro p e s m args below meth c s₁ Bd hml0 hP hK
  obtain ⟨rfl, hZ, hh⟩ := hP
  have hx := Bd.exec
  have hby := Bd.bytes
  have hml : c.maxLocals = 2 := hml0
  have hown : s.vm.findClass "java/lang/Integer" = some m.cls := findClass_of_methodNamed Bd.named
  have hnm := (name_of_methodNamed Bd.named Bd.method).1
  have X0 : Stand p l e ({ frames := 2, cells := 0, slots := 0, locals := 24 } : Room) s m #[(.ref a), (.int p1)] below meth c s₁ [] 0 0 := Stand.of_body Bd
  have e0 : s₁.heap = h0 := by rw [← hh, Bd.state]; rfl
  have N := Fr.nil n0
  have K : Keep h0 h0 [a] := Keep.refl _ _
  refine Go.by (T' := s₁) (f' := (mkF m 0 #[.val (.ref a), .val (.int p1)] [])) (fun _ k => castTop (ef_ii m a p1) k) ?_
  refine Go.by (T' := s₁) (f' := (mkF m 1 #[.val (.ref a), .val (.int p1)] [(.ref a)])) (fun _ k => XS.aloadN X0.here hx rfl (hb hby d_ii_0) rfl rfl k) ?_
  obtain ⟨v1, _, ⟨T1, L1, k1, n1⟩, -, X1, ⟨Lc1, hQ1, l1, y1, z1⟩, st1⟩ := X0.specialBack hx (y := (⟨"java/lang/Number", "<init>", "()V"⟩ : MethodName)) rfl hown (mvT hZ (hw _ (List.mem_of_getElem? (i := 83) rfl))) (mvT hZ (hw _ (List.mem_of_getElem? (i := 84) rfl))) (mvT hZ (hw _ (List.mem_of_getElem? (i := 88) rfl))) (by decide) (backOf (W := 0) (rm_ni l Z a0 hw [] a h0 n0 O) hZ (hw _ (List.mem_of_getElem? (i := 88) rfl)) (hw _ (List.mem_of_getElem? (i := 87) rfl)) (by decide) (by decide)) (g := (mkF m 1 #[.val (.ref a), .val (.int p1)] [(.ref a)])) rfl (by rw [hml]; rfl) (Steps.refl _) (a := a) (argsL := []) (rest := []) (lenOf pd_ii_0 rfl) rfl (by show 2 * 0 + _ ≤ _; exact Nat.le_of_eq rfl) (hb hby d_ii_1) (fun _ _ => ⟨rfl, e0, (by decide : 0 + 0 ≤ _), (by decide : 0 + 0 ≤ _)⟩)
  dsimp only [Pt.U, Pt.locs, Pt.cells, Pt.slots] at X1 l1 y1 z1 st1 hQ1
  subst l1 y1 z1
  obtain ⟨rfl, Nq1, e1⟩ := hQ1
  replace N := Fr.app N Nq1
  refine Go.by (T' := T1) (f' := (mkF m 4 #[.val (.ref a), .val (.int p1)] [])) (fun _ k => st1.trans k) ?_
  refine Go.by (T' := T1) (f' := (mkF m 5 #[.val (.ref a), .val (.int p1)] [(.ref a)])) (fun _ k => XS.aloadN X1.here hx rfl (hb hby d_ii_4) rfl rfl k) ?_
  refine Go.by (T' := T1) (f' := (mkF m 6 #[.val (.ref a), .val (.int p1)] [(.int p1), (.ref a)])) (fun _ k => XS.iloadN X1.here hx rfl (hb hby d_ii_5) rfl k) ?_
  obtain ⟨T2, h2, X2, e2, W2, st2⟩ := putF X1 hx hZ hown (host := "") (Or.inl (hw _ (List.mem_of_getElem? (i := 90) rfl))) Via.refl e1 F_v E_a (Or.inr ⟨(hw _ (List.mem_of_getElem? (i := 91) rfl)), rfl, hnm⟩) (hw _ (List.mem_of_getElem? (i := 78) rfl)) (ty := .int) (by decide) rfl rfl (g := (mkF m 6 #[.val (.ref a), .val (.int p1)] [(.int p1), (.ref a)])) rfl rfl (hb hby d_ii_6)
  replace E_a := E_a.wr W2
  replace F_v := F_v.same W2
  replace O := O.wr W2 g_a
  replace K := K.wr W2 (Or.inl (by simp))
  replace N := Fr.snoc X2 N g_a
  refine Go.by (T' := T2) (f' := (mkF m 9 #[.val (.ref a), .val (.int p1)] [])) (st2) ?_
  obtain ⟨fs, hr, hrun, hended, hW, hsame⟩ := X2.leave (v := none) (fun _ => rfl)
  refine ⟨_, _, X2.returnOut hx Bd.returns (hb hby d_ii_9) hr, hrun, hended, _, _, rfl, ?_, ⟨_, rfl⟩, hW, hsame.mono (by decide) (by decide)⟩
  show Qni Z a h0 n0 (none) T2.heap _
  rw [e2]
  exact ⟨rfl, N, K⟩

theorem d_vo_0 : decode jdk_33_method_22_code 0 = .ok (.iload_n 0, 1) := by decide +kernel
theorem d_vo_1 : decode jdk_33_method_22_code 1 = .ok (.bipush (-128), 2) := by decide +kernel
theorem d_vo_3 : decode jdk_33_method_22_code 3 = .ok (.if_icmp .lt 20, 3) := by decide +kernel
theorem d_vo_6 : decode jdk_33_method_22_code 6 = .ok (.iload_n 0, 1) := by decide +kernel
theorem d_vo_7 : decode jdk_33_method_22_code 7 = .ok (.getstatic 191, 3) := by decide +kernel
theorem d_vo_10 : decode jdk_33_method_22_code 10 = .ok (.if_icmp .gt 13, 3) := by decide +kernel
theorem d_vo_13 : decode jdk_33_method_22_code 13 = .ok (.getstatic 195, 3) := by decide +kernel
theorem d_vo_16 : decode jdk_33_method_22_code 16 = .ok (.iload_n 0, 1) := by decide +kernel
theorem d_vo_17 : decode jdk_33_method_22_code 17 = .ok (.sipush 128, 3) := by decide +kernel
theorem d_vo_20 : decode jdk_33_method_22_code 20 = .ok (.iadd, 1) := by decide +kernel
theorem d_vo_21 : decode jdk_33_method_22_code 21 = .ok (.aaload, 1) := by decide +kernel
theorem d_vo_22 : decode jdk_33_method_22_code 22 = .ok (.areturn, 1) := by decide +kernel
theorem d_vo_23 : decode jdk_33_method_22_code 23 = .ok (.new 1, 3) := by decide +kernel
theorem d_vo_26 : decode jdk_33_method_22_code 26 = .ok (.dup, 1) := by decide +kernel
theorem d_vo_27 : decode jdk_33_method_22_code 27 = .ok (.iload_n 0, 1) := by decide +kernel
theorem d_vo_28 : decode jdk_33_method_22_code 28 = .ok (.invokespecial 199, 3) := by decide +kernel
theorem d_vo_31 : decode jdk_33_method_22_code 31 = .ok (.areturn, 1) := by decide +kernel
theorem pn_vo : plainFor (⟨"java/lang/Integer", "valueOf", "(I)Ljava/lang/Integer;"⟩ : MethodName) = true := plainFor_of_name (by first | (simp [plainName, overriddenIn]; done) | decide +kernel)
theorem pd_vo_0 : parseMethodDescriptor "(I)V" = some ⟨[.int], none⟩ := by decide +kernel
theorem ef_vo (m : MethodId) (x0 : Int32) : entryFrame m #[(.int x0)] 1 = mkF m 0 #[.val (.int x0)] [] := by first | (simp [entryFrame, mkF, argsToLocals, Value.category]; done) | rfl
set_option maxRecDepth 65536 in
set_option maxHeartbeats 40000000 in
theorem rm_vo (l : Launch) (Z : State) (a0 : Array Value) (hw : ∀ d ∈ tables_1, d.before a0 Z = true) (ws : List Jvm.Cond) (p1 : Int32)  (wc : Addr)  (cl : Cell)  (zc : Int32) (hS : Sf Z wc cl zc) (h0 : Heap) (n0 : Nat) (O : Old Z n0 h0)  :
    MetFree l (⟨"java/lang/Integer", "valueOf", "(I)Ljava/lang/Integer;"⟩ : MethodName) (head1 (Jvm.Cond.code (⟨"java/lang/Integer", "valueOf", "(I)Ljava/lang/Integer;"⟩ : MethodName) jdk_33_method_22_code 1 (some (.object "java/lang/Integer")) :: ws) ({ frames := 3, cells := 1, slots := 1, locals := 38 } : Room)) (fun as_ U => as_ = #[(.int p1)] ∧ Z.Warmed39 U.vm ∧ U.heap = h0) (fun _ _ _ _ _ => True) (fun _ U o U' => ∃ v L, o = .returned v ∧ Qv Z h0 n0 v U'.heap L ∧ FrameEnd U o U' L ({ frames := 3, cells := 1, slots := 1, locals := 38 } : Room).cells ({ frames := 3, cells := 1, slots := 1, locals := 38 } : Room).slots) := by
  refine MetFree.of_bodySF pn_vo hisR ?_
  intro p e s m args below meth c s₁ Bd hml0 hP hK
  obtain ⟨rfl, hZ, hh⟩ := hP
  have hx := Bd.exec
  have hby := Bd.bytes
  have hml : c.maxLocals = 1 := hml0
  have hown : s.vm.findClass "java/lang/Integer" = some m.cls := findClass_of_methodNamed Bd.named
  have hnm := (name_of_methodNamed Bd.named Bd.method).1
  have X0 : Stand p l e ({ frames := 3, cells := 1, slots := 1, locals := 38 } : Room) s m #[(.int p1)] below meth c s₁ [] 0 0 := Stand.of_body Bd
  have e0 : s₁.heap = h0 := by rw [← hh, Bd.state]; rfl
  have N := Fr.nil n0
  have K : Keep h0 h0 [] := Keep.refl _ _
  refine Go.by (T' := s₁) (f' := (mkF m 0 #[.val (.int p1)] [])) (fun _ k => castTop (ef_vo m p1) k) ?_
  refine Go.by (T' := s₁) (f' := (mkF m 1 #[.val (.int p1)] [(.int p1)])) (fun _ k => XS.iloadN X0.here hx rfl (hb hby d_vo_0) rfl k) ?_
  refine Go.by (T' := s₁) (f' := (mkF m 3 #[.val (.int p1)] [(.int (-128 : Int32)), (.int p1)])) (fun _ k => XS.bipush X0.here hx rfl (hb hby d_vo_1) k) ?_
  by_cases hc3_1 : p1 < (-128 : Int32)
  · skip
    refine Go.by (T' := s₁) (f' := (mkF m 23 #[.val (.int p1)] [])) (fun _ k => XS.icmpYes X0.here hx rfl (pc0 := 3) (pc' := 23) rfl (hb hby d_vo_3) rfl (tlt hc3_1).1 (by decide) (by decide) k) ?_
    obtain ⟨T2, h2, X2, e2, E2, A2, D2, -, st2⟩ := newO X0 hx hZ hown (hw _ (List.mem_of_getElem? (i := 77) rfl)) (hw _ (List.mem_of_getElem? (i := 78) rfl)) (hw _ (List.mem_of_getElem? (i := 73) rfl)) e0 (g := (mkF m 23 #[.val (.int p1)] [])) rfl (hb hby d_vo_23) (by decide) (by decide)
    obtain ⟨b2, g2⟩ : ∃ z, z = h0.size := ⟨_, rfl⟩
    rw [← g2] at A2 D2 st2
    have g_b2 : n0 ≤ b2 := Nat.le_trans (Old.le O) (Nat.le_of_eq g2.symm)
    have sz_b2 : h0.size ≤ b2 := Nat.le_trans K.1 (Nat.le_of_eq g2.symm)
    replace O := O.ext E2
    replace K := K.ext E2
    have E_b2 := A2
    have F_value_b2 : Fld Z h2 b2 "java/lang/Integer" "value" "I" (.int (0 : Int32)) := D2 (Or.inr (hw _ (List.mem_of_getElem? (i := 91) rfl))) (ty := .int) (by decide)
    refine Go.by (T' := T2) (f' := (mkF m 26 #[.val (.int p1)] [(.ref b2)])) (st2) ?_
    refine Go.by (T' := T2) (f' := (mkF m 27 #[.val (.int p1)] [(.ref b2), (.ref b2)])) (fun _ k => XS.dup X2.here hx rfl (hb hby d_vo_26) rfl rfl k) ?_
    refine Go.by (T' := T2) (f' := (mkF m 28 #[.val (.int p1)] [(.int p1), (.ref b2), (.ref b2)])) (fun _ k => XS.iloadN X2.here hx rfl (hb hby d_vo_27) rfl k) ?_
    obtain ⟨v3, _, ⟨T3, L3, k3, n3⟩, -, X3, ⟨Lc3, hQ3, l3, y3, z3⟩, st3⟩ := X2.specialBack hx (y := (⟨"java/lang/Integer", "<init>", "(I)V"⟩ : MethodName)) rfl hown (mvT hZ (hw _ (List.mem_of_getElem? (i := 79) rfl))) (mvT hZ (hw _ (List.mem_of_getElem? (i := 80) rfl))) (mvT hZ (hw _ (List.mem_of_getElem? (i := 82) rfl))) (by decide) (backOf (W := 1) (rm_ii l Z a0 hw [] b2 p1 h2 n0 O E_b2 F_value_b2 g_b2) hZ (hw _ (List.mem_of_getElem? (i := 82) rfl)) (hw _ (List.mem_of_getElem? (i := 73) rfl)) (by decide) (by decide)) (g := (mkF m 28 #[.val (.int p1)] [(.int p1), (.ref b2), (.ref b2)])) rfl (by rw [hml]; rfl) (Steps.refl _) (a := b2) (argsL := [(.int p1)]) (rest := [(.ref b2)]) (lenOf pd_vo_0 rfl) rfl (by show 2 * 0 + _ ≤ _; exact Nat.le_of_eq rfl) (hb hby d_vo_28) (fun _ _ => ⟨rfl, e2, (by decide : 1 + 0 ≤ _), (by decide : 1 + 0 ≤ _)⟩)
    dsimp only [Pt.U, Pt.locs, Pt.cells, Pt.slots] at X3 l3 y3 z3 st3 hQ3
    subst l3 y3 z3
    obtain ⟨rfl, Nq3, K3⟩ := hQ3
    replace N := Fr.app N Nq3
    replace E_b2 := E_b2.keep K3
    replace O := O.keep K3 (allS g_b2 all0)
    replace K := K.trans K3 (allS (Or.inr sz_b2) all0)
    refine Go.by (T' := T3) (f' := (mkF m 31 #[.val (.int p1)] [(.ref b2)])) (fun _ k => st3.trans k) ?_
    obtain ⟨fs, hr, hrun, hended, hW, hsame⟩ := X3.leave (v := some (.ref b2)) (fun h => by rw [Bd.returns] at h; cases h)
    refine ⟨_, _, retOut X3 hx Bd.returns rfl (Or.inr (Or.inr (Or.inr (Or.inr ⟨rfl, rfl, rfl⟩)))) (hb hby d_vo_31) hr, hrun, hended, _, _, rfl, ?_, ⟨_, rfl⟩, hW, hsame.mono (by decide) (by decide)⟩
    show Qv Z h0 n0 (some (.ref b2)) T3.heap _
    exact ⟨_, rfl, N, K, E_b2⟩
  · skip
    refine Go.by (T' := s₁) (f' := (mkF m 6 #[.val (.int p1)] [])) (fun _ k => XS.icmpNo X0.here hx rfl (hb hby d_vo_3) rfl (flt hc3_1).1 k) ?_
    refine Go.by (T' := s₁) (f' := (mkF m 7 #[.val (.int p1)] [(.int p1)])) (fun _ k => XS.iloadN X0.here hx rfl (hb hby d_vo_6) rfl k) ?_
    obtain ⟨T4, X4, e4, st4⟩ := getS2 X0 hx hZ hown (host := "") (Or.inl (hw _ (List.mem_of_getElem? (i := 75) rfl))) Via.refl e0 (Sta.ext O.2 hS.1) (g := (mkF m 7 #[.val (.int p1)] [(.int p1)])) rfl (hb hby d_vo_7)
    refine Go.by (T' := T4) (f' := (mkF m 10 #[.val (.int p1)] [(.int (127 : Int32)), (.int p1)])) (st4) ?_
    by_cases hc10_5 : (127 : Int32) < p1
    · skip
      refine Go.by (T' := T4) (f' := (mkF m 23 #[.val (.int p1)] [])) (fun _ k => XS.icmpYes X4.here hx rfl (pc0 := 10) (pc' := 23) rfl (hb hby d_vo_10) rfl (tlt hc10_5).2.2.1 (by decide) (by decide) k) ?_
      obtain ⟨T6, h6, X6, e6, E6, A6, D6, -, st6⟩ := newO X4 hx hZ hown (hw _ (List.mem_of_getElem? (i := 77) rfl)) (hw _ (List.mem_of_getElem? (i := 78) rfl)) (hw _ (List.mem_of_getElem? (i := 73) rfl)) e4 (g := (mkF m 23 #[.val (.int p1)] [])) rfl (hb hby d_vo_23) (by decide) (by decide)
      obtain ⟨b6, g6⟩ : ∃ z, z = h0.size := ⟨_, rfl⟩
      rw [← g6] at A6 D6 st6
      have g_b6 : n0 ≤ b6 := Nat.le_trans (Old.le O) (Nat.le_of_eq g6.symm)
      have sz_b6 : h0.size ≤ b6 := Nat.le_trans K.1 (Nat.le_of_eq g6.symm)
      replace O := O.ext E6
      replace K := K.ext E6
      have E_b6 := A6
      have F_value_b6 : Fld Z h6 b6 "java/lang/Integer" "value" "I" (.int (0 : Int32)) := D6 (Or.inr (hw _ (List.mem_of_getElem? (i := 91) rfl))) (ty := .int) (by decide)
      refine Go.by (T' := T6) (f' := (mkF m 26 #[.val (.int p1)] [(.ref b6)])) (st6) ?_
      refine Go.by (T' := T6) (f' := (mkF m 27 #[.val (.int p1)] [(.ref b6), (.ref b6)])) (fun _ k => XS.dup X6.here hx rfl (hb hby d_vo_26) rfl rfl k) ?_
      refine Go.by (T' := T6) (f' := (mkF m 28 #[.val (.int p1)] [(.int p1), (.ref b6), (.ref b6)])) (fun _ k => XS.iloadN X6.here hx rfl (hb hby d_vo_27) rfl k) ?_
      obtain ⟨v7, _, ⟨T7, L7, k7, n7⟩, -, X7, ⟨Lc7, hQ7, l7, y7, z7⟩, st7⟩ := X6.specialBack hx (y := (⟨"java/lang/Integer", "<init>", "(I)V"⟩ : MethodName)) rfl hown (mvT hZ (hw _ (List.mem_of_getElem? (i := 79) rfl))) (mvT hZ (hw _ (List.mem_of_getElem? (i := 80) rfl))) (mvT hZ (hw _ (List.mem_of_getElem? (i := 82) rfl))) (by decide) (backOf (W := 1) (rm_ii l Z a0 hw [] b6 p1 h6 n0 O E_b6 F_value_b6 g_b6) hZ (hw _ (List.mem_of_getElem? (i := 82) rfl)) (hw _ (List.mem_of_getElem? (i := 73) rfl)) (by decide) (by decide)) (g := (mkF m 28 #[.val (.int p1)] [(.int p1), (.ref b6), (.ref b6)])) rfl (by rw [hml]; rfl) (Steps.refl _) (a := b6) (argsL := [(.int p1)]) (rest := [(.ref b6)]) (lenOf pd_vo_0 rfl) rfl (by show 2 * 0 + _ ≤ _; exact Nat.le_of_eq rfl) (hb hby d_vo_28) (fun _ _ => ⟨rfl, e6, (by decide : 1 + 0 ≤ _), (by decide : 1 + 0 ≤ _)⟩)
      dsimp only [Pt.U, Pt.locs, Pt.cells, Pt.slots] at X7 l7 y7 z7 st7 hQ7
      subst l7 y7 z7
      obtain ⟨rfl, Nq7, K7⟩ := hQ7
      replace N := Fr.app N Nq7
      replace E_b6 := E_b6.keep K7
      replace O := O.keep K7 (allS g_b6 all0)
      replace K := K.trans K7 (allS (Or.inr sz_b6) all0)
      refine Go.by (T' := T7) (f' := (mkF m 31 #[.val (.int p1)] [(.ref b6)])) (fun _ k => st7.trans k) ?_
      obtain ⟨fs, hr, hrun, hended, hW, hsame⟩ := X7.leave (v := some (.ref b6)) (fun h => by rw [Bd.returns] at h; cases h)
      refine ⟨_, _, retOut X7 hx Bd.returns rfl (Or.inr (Or.inr (Or.inr (Or.inr ⟨rfl, rfl, rfl⟩)))) (hb hby d_vo_31) hr, hrun, hended, _, _, rfl, ?_, ⟨_, rfl⟩, hW, hsame.mono (by decide) (by decide)⟩
      show Qv Z h0 n0 (some (.ref b6)) T7.heap _
      exact ⟨_, rfl, N, K, E_b6⟩
    · skip
      refine Go.by (T' := T4) (f' := (mkF m 13 #[.val (.int p1)] [])) (fun _ k => XS.icmpNo X4.here hx rfl (hb hby d_vo_10) rfl (flt hc10_5).2.2.1 k) ?_
      obtain ⟨T8, X8, e8, st8⟩ := getS2 X4 hx hZ hown (host := "") (Or.inl (hw _ (List.mem_of_getElem? (i := 94) rfl))) Via.refl e4 (Sta.ext O.2 hS.2.1) (g := (mkF m 13 #[.val (.int p1)] [])) rfl (hb hby d_vo_13)
      refine Go.by (T' := T8) (f' := (mkF m 16 #[.val (.int p1)] [(.ref wc)])) (st8) ?_
      refine Go.by (T' := T8) (f' := (mkF m 17 #[.val (.int p1)] [(.int p1), (.ref wc)])) (fun _ k => XS.iloadN X8.here hx rfl (hb hby d_vo_16) rfl k) ?_
      refine Go.by (T' := T8) (f' := (mkF m 20 #[.val (.int p1)] [(.int (128 : Int32)), (.int p1), (.ref wc)])) (fun _ k => XS.sipush X8.here hx rfl (hb hby d_vo_17) k) ?_
      refine Go.by (T' := T8) (f' := (mkF m 21 #[.val (.int p1)] [(.int (p1 + (128 : Int32))), (.ref wc)])) (fun _ k => XS.iadd X8.here hx rfl (hb hby d_vo_20) rfl k) ?_
      obtain ⟨bx, hin, hat, Ex⟩ := hS.2.2.2.1 p1 hc3_1 hc10_5
      have Ac := (Arr.ext O.2 hS.2.2.1)
      refine Go.by (T' := T8) (f' := (mkF m 22 #[.val (.int p1)] [(.ref bx)])) (X8.aaload hx (j := (p1 + (128 : Int32))) (v := (.ref bx)) (by rw [e8]; exact Ac.1) (State.isArrayOf_alike hZ.alike Ac.2.1) rfl Ac.2.2 hin hat (g := (mkF m 21 #[.val (.int p1)] [(.int (p1 + (128 : Int32))), (.ref wc)])) rfl rfl (hb hby d_vo_21)) ?_
      replace Ex := Ex.ext O.2
      obtain ⟨fs, hr, hrun, hended, hW, hsame⟩ := X8.leave (v := some (.ref bx)) (fun h => by rw [Bd.returns] at h; cases h)
      refine ⟨_, _, retOut X8 hx Bd.returns rfl (Or.inr (Or.inr (Or.inr (Or.inr ⟨rfl, rfl, rfl⟩)))) (hb hby d_vo_22) hr, hrun, hended, _, _, rfl, ?_, ⟨_, rfl⟩, hW, hsame.mono (by decide) (by decide)⟩
      show Qv Z h0 n0 (some (.ref bx)) T8.heap _
      rw [e8]
      exact ⟨_, rfl, N, K, Ex⟩

theorem d_e_0 : decode prog_33_method_1_code 0 = .ok (.aload_n 0, 1) := by decide +kernel
theorem d_e_1 : decode prog_33_method_1_code 1 = .ok (.invokespecial 1, 3) := by decide +kernel
theorem d_e_4 : decode prog_33_method_1_code 4 = .ok (.aload_n 1, 1) := by decide +kernel
theorem d_e_5 : decode prog_33_method_1_code 5 = .ok (.invokevirtual 7, 3) := by decide +kernel
theorem d_e_8 : decode prog_33_method_1_code 8 = .ok (.ifCond .eq 13, 3) := by decide +kernel
theorem d_e_21 : decode prog_33_method_1_code 21 = .ok (.iload_n 2, 1) := by decide +kernel
theorem d_e_22 : decode prog_33_method_1_code 22 = .ok (.ifCond .lt 9, 3) := by decide +kernel
theorem d_e_25 : decode prog_33_method_1_code 25 = .ok (.iload_n 2, 1) := by decide +kernel
theorem d_e_26 : decode prog_33_method_1_code 26 = .ok (.ldc 22, 2) := by decide +kernel
theorem d_e_28 : decode prog_33_method_1_code 28 = .ok (.if_icmp .le 11, 3) := by decide +kernel
theorem d_e_39 : decode prog_33_method_1_code 39 = .ok (.aload_n 0, 1) := by decide +kernel
theorem d_e_40 : decode prog_33_method_1_code 40 = .ok (.aload_n 1, 1) := by decide +kernel
theorem d_e_41 : decode prog_33_method_1_code 41 = .ok (.putfield 31, 3) := by decide +kernel
theorem d_e_44 : decode prog_33_method_1_code 44 = .ok (.aload_n 0, 1) := by decide +kernel
theorem d_e_45 : decode prog_33_method_1_code 45 = .ok (.iload_n 2, 1) := by decide +kernel
theorem d_e_46 : decode prog_33_method_1_code 46 = .ok (.putfield 35, 3) := by decide +kernel
theorem d_e_49 : decode prog_33_method_1_code 49 = .ok (.return_, 1) := by decide +kernel
theorem pn_e : plainFor (⟨"com/example/honest_replica/honestreplica/model/Endpoint", "<init>", "(Ljava/lang/String;I)V"⟩ : MethodName) = true := plainFor_of_name (by first | (simp [plainName, overriddenIn]; done) | decide +kernel)
theorem pd_e_0 : parseMethodDescriptor "()Z" = some ⟨[], some .boolean⟩ := by decide +kernel
theorem ef_e (m : MethodId) (x0 : Addr) (x1 : Addr) (x2 : Int32) : entryFrame m #[(.ref x0), (.ref x1), (.int x2)] 3 = mkF m 0 #[.val (.ref x0), .val (.ref x1), .val (.int x2)] [] := by first | (simp [entryFrame, mkF, argsToLocals, Value.category]; done) | rfl
set_option maxRecDepth 65536 in
set_option maxHeartbeats 40000000 in
theorem rm_e (l : Launch) (Z : State) (a0 : Array Value) (hw : ∀ d ∈ tables_1, d.before a0 Z = true) (ws : List Jvm.Cond) (a hs : Addr) (p1 : Int32) (t1 : Addr) (kb1 : ClassId) (N1 : Int32) (vs1 : List Value) (cs1 : List Int32) (hne : ¬ cs1.length = 0) (hp : ¬ p1 < 0 ∧ ¬ (65535 : Int32) < p1) (net : t1 ≠ a) (h0 : Heap) (n0 : Nat) (O : Old Z n0 h0) (E_a : Exa Z h0 a "com/example/honest_replica/honestreplica/model/Endpoint") (F_h : Fld Z h0 a "com/example/honest_replica/honestreplica/model/Endpoint" "host" "Ljava/lang/String;" .null) (F_p : Fld Z h0 a "com/example/honest_replica/honestreplica/model/Endpoint" "port" "I" (.int 0)) (g_a : n0 ≤ a) (Es1 : Exa Z h0 hs "java/lang/String") (Fv1 : Fld Z h0 hs "java/lang/String" "value" "[B" (.ref t1)) (Fc1 : Fld Z h0 hs "java/lang/String" "coder" "B" (.int (0 : Int32))) (Vt1 : Arv Z h0 t1 kb1 .byte N1 vs1 (.int (0 : Int32))) (hcd1 : StrChars.Road.CodA cs1 0 N1 vs1) (hbd1 : ∀ c ∈ cs1, ¬ c < 0 ∧ ¬ (65535 : Int32) < c) (hlen1 : cs1.length ≤ 4000) :
    MetFree l (⟨"com/example/honest_replica/honestreplica/model/Endpoint", "<init>", "(Ljava/lang/String;I)V"⟩ : MethodName) (head1 (Jvm.Cond.code (⟨"com/example/honest_replica/honestreplica/model/Endpoint", "<init>", "(Ljava/lang/String;I)V"⟩ : MethodName) prog_33_method_1_code 3 none :: ws) ({ frames := 1, cells := 0, slots := 0, locals := 12 } : Room)) (fun as_ U => as_ = #[(.ref a), (.ref hs), (.int p1)] ∧ Z.Warmed39 U.vm ∧ U.heap = h0) (fun _ _ _ _ _ => True) (fun _ U o U' => ∃ v L, o = .returned v ∧ Qe Z a hs p1 h0 n0 v U'.heap L ∧ FrameEnd U o U' L ({ frames := 1, cells := 0, slots := 0, locals := 12 } : Room).cells ({ frames := 1, cells := 0, slots := 0, locals := 12 } : Room).slots) := by
  refine MetFree.of_bodySF pn_e hisR ?_
  intro p e s m args below meth c s₁ Bd hml0 hP hK
  obtain ⟨rfl, hZ, hh⟩ := hP
  have hx := Bd.exec
  have hby := Bd.bytes
  have hml : c.maxLocals = 3 := hml0
  have hown : s.vm.findClass "com/example/honest_replica/honestreplica/model/Endpoint" = some m.cls := findClass_of_methodNamed Bd.named
  have hnm := (name_of_methodNamed Bd.named Bd.method).1
  have X0 : Stand p l e ({ frames := 1, cells := 0, slots := 0, locals := 12 } : Room) s m #[(.ref a), (.ref hs), (.int p1)] below meth c s₁ [] 0 0 := Stand.of_body Bd
  have e0 : s₁.heap = h0 := by rw [← hh, Bd.state]; rfl
  have N := Fr.nil n0
  have K : Keep h0 h0 [a] := Keep.refl _ _
  refine Go.by (T' := s₁) (f' := (mkF m 0 #[.val (.ref a), .val (.ref hs), .val (.int p1)] [])) (fun _ k => castTop (ef_e m a hs p1) k) ?_
  have hemp : ∀ d ∈ StrChars.Road.wordsEmp, d.before a0 Z = true := fun d hd => hw d ((by decide +kernel : ∀ d ∈ StrChars.Road.wordsEmp, d ∈ tables_1) d hd)
  have ne_t1_a : t1 ≠ a := net
  refine Go.by (T' := s₁) (f' := (mkF m 1 #[.val (.ref a), .val (.ref hs), .val (.int p1)] [(.ref a)])) (fun _ k => XS.aloadN X0.here hx rfl (hb hby d_e_0) rfl rfl k) ?_
  obtain ⟨T1, X1, e1, st1⟩ := initO X0 hx hZ hown (hw _ (List.mem_of_getElem? (i := 41) rfl)) (hw _ (List.mem_of_getElem? (i := 17) rfl)) (hw _ (List.mem_of_getElem? (i := 18) rfl)) e0 (g := (mkF m 1 #[.val (.ref a), .val (.ref hs), .val (.int p1)] [(.ref a)])) rfl (by rw [hml]; rfl) rfl (hb hby d_e_1) (by decide) (W := 0) (by show 2 * 0 + _ ≤ _; exact Nat.le_of_eq rfl) (by decide)
  refine Go.by (T' := T1) (f' := (mkF m 4 #[.val (.ref a), .val (.ref hs), .val (.int p1)] [])) (st1) ?_
  refine Go.by (T' := T1) (f' := (mkF m 5 #[.val (.ref a), .val (.ref hs), .val (.int p1)] [(.ref hs)])) (fun _ k => XS.aloadN X1.here hx rfl (hb hby d_e_4) rfl rfl k) ?_
  obtain ⟨cq2, kq2, q2a, q2b, q2c⟩ := isOf hZ e1 Es1
  obtain ⟨v2, _, ⟨T2, L2, k2, n2⟩, -, X2, ⟨Lc2, hQ2, l2, y2, z2⟩, st2⟩ := X1.virtualBack hx (y := (⟨"java/lang/String", "isEmpty", "()Z"⟩ : MethodName)) (z := (⟨"java/lang/String", "isEmpty", "()Z"⟩ : MethodName)) hown (mvT hZ (hw _ (List.mem_of_getElem? (i := 42) rfl))) (mvT hZ (hw _ (List.mem_of_getElem? (i := 43) rfl))) (notFace_of_selects (args := #[]) (mvT hZ (hw _ (List.mem_of_getElem? (i := 45) rfl)))) (mvT hZ (hw _ (List.mem_of_getElem? (i := 45) rfl))) (mvT hZ (hw _ (List.mem_of_getElem? (i := 44) rfl))) (by decide) (StrChars.Road.empW (W := 0) hZ hemp (kI := 4) (hw _ (List.mem_of_getElem? (i := 7) rfl)) Es1 Fv1 Fc1 Vt1 hcd1 hbd1 hlen1 (by decide) (by decide)) q2a q2c (g := (mkF m 5 #[.val (.ref a), .val (.ref hs), .val (.int p1)] [(.ref hs)])) rfl (by rw [hml]; rfl) (Steps.refl _) (argsL := []) (rest := []) (lenOf pd_e_0 rfl) rfl (by show 2 * 0 + _ ≤ _; exact Nat.le_of_eq rfl) (hb hby d_e_5) (fun _ _ => ⟨rfl, e1, (by decide : 0 + 0 ≤ _), (by decide : 0 + 0 ≤ _)⟩)
  dsimp only [Pt.U, Pt.locs, Pt.cells, Pt.slots] at X2 l2 y2 z2 st2 hQ2
  subst l2 y2 z2
  obtain ⟨hv2, rfl, e2⟩ := hQ2
  rw [if_neg hne] at hv2
  subst hv2
  replace N := Fr.app N (Fr.nil n0)
  refine Go.by (T' := T2) (f' := (mkF m 8 #[.val (.ref a), .val (.ref hs), .val (.int p1)] [(.int (0 : Int32))])) (fun _ k => st2.trans k) ?_
  refine Go.by (T' := T2) (f' := (mkF m 21 #[.val (.ref a), .val (.ref hs), .val (.int p1)] [])) (fun _ k => XS.ifYes X2.here hx rfl (pc0 := 8) (pc' := 21) rfl (hb hby d_e_8) rfl ((if0 _ _).trans (teq (by decide : (0 : Int32) = (0 : Int32))).1) (by decide) (by decide) k) ?_
  refine Go.by (T' := T2) (f' := (mkF m 22 #[.val (.ref a), .val (.ref hs), .val (.int p1)] [(.int p1)])) (fun _ k => XS.iloadN X2.here hx rfl (hb hby d_e_21) rfl k) ?_
  refine Go.by (T' := T2) (f' := (mkF m 25 #[.val (.ref a), .val (.ref hs), .val (.int p1)] [])) (fun _ k => XS.ifNo X2.here hx rfl (hb hby d_e_22) rfl ((if0 _ _).trans (flt hp.1).1) k) ?_
  refine Go.by (T' := T2) (f' := (mkF m 26 #[.val (.ref a), .val (.ref hs), .val (.int p1)] [(.int p1)])) (fun _ k => XS.iloadN X2.here hx rfl (hb hby d_e_25) rfl k) ?_
  refine Go.by (T' := T2) (f' := (mkF m 28 #[.val (.ref a), .val (.ref hs), .val (.int p1)] [(.int (65535 : Int32)), (.int p1)])) (X2.ldcInt hx hown (mvT hZ (hw _ (List.mem_of_getElem? (i := 47) rfl))) (g := (mkF m 26 #[.val (.ref a), .val (.ref hs), .val (.int p1)] [(.int p1)])) rfl (hb hby d_e_26)) ?_
  refine Go.by (T' := T2) (f' := (mkF m 39 #[.val (.ref a), .val (.ref hs), .val (.int p1)] [])) (fun _ k => XS.icmpYes X2.here hx rfl (pc0 := 28) (pc' := 39) rfl (hb hby d_e_28) rfl (flt hp.2).2.2.2 (by decide) (by decide) k) ?_
  refine Go.by (T' := T2) (f' := (mkF m 40 #[.val (.ref a), .val (.ref hs), .val (.int p1)] [(.ref a)])) (fun _ k => XS.aloadN X2.here hx rfl (hb hby d_e_39) rfl rfl k) ?_
  refine Go.by (T' := T2) (f' := (mkF m 41 #[.val (.ref a), .val (.ref hs), .val (.int p1)] [(.ref hs), (.ref a)])) (fun _ k => XS.aloadN X2.here hx rfl (hb hby d_e_40) rfl rfl k) ?_
  obtain ⟨T6, h6, X6, e6, W6, st6⟩ := putF X2 hx hZ hown (host := "") (Or.inl (hw _ (List.mem_of_getElem? (i := 48) rfl))) Via.refl e2 F_h E_a (Or.inr ⟨(hw _ (List.mem_of_getElem? (i := 49) rfl)), rfl, hnm⟩) (hw _ (List.mem_of_getElem? (i := 36) rfl)) (ty := (.object "java/lang/String")) (by decide) rfl rfl (g := (mkF m 41 #[.val (.ref a), .val (.ref hs), .val (.int p1)] [(.ref hs), (.ref a)])) rfl rfl (hb hby d_e_41)
  replace E_a := E_a.wr W6
  replace F_p := F_p.other W6 (Or.inr (slot_ne (Or.inr (hw _ (List.mem_of_getElem? (i := 51) rfl))) (Or.inr (hw _ (List.mem_of_getElem? (i := 49) rfl))) (by decide) (t := .int) (t' := (.object "java/lang/String")) (by decide) (by decide)))
  replace Es1 := Es1.wr W6
  replace Fv1 := Fv1.other W6 (Or.inl (ne_exa Es1 E_a (by decide)))
  replace Fc1 := Fc1.other W6 (Or.inl (ne_exa Es1 E_a (by decide)))
  replace Vt1 := Vt1.other W6 ne_t1_a
  replace F_h := F_h.same W6
  replace O := O.wr W6 g_a
  replace K := K.wr W6 (Or.inl (by simp))
  replace N := Fr.snoc X6 N g_a
  refine Go.by (T' := T6) (f' := (mkF m 44 #[.val (.ref a), .val (.ref hs), .val (.int p1)] [])) (st6) ?_
  refine Go.by (T' := T6) (f' := (mkF m 45 #[.val (.ref a), .val (.ref hs), .val (.int p1)] [(.ref a)])) (fun _ k => XS.aloadN X6.here hx rfl (hb hby d_e_44) rfl rfl k) ?_
  refine Go.by (T' := T6) (f' := (mkF m 46 #[.val (.ref a), .val (.ref hs), .val (.int p1)] [(.int p1), (.ref a)])) (fun _ k => XS.iloadN X6.here hx rfl (hb hby d_e_45) rfl k) ?_
  obtain ⟨T7, h7, X7, e7, W7, st7⟩ := putF X6 hx hZ hown (host := "") (Or.inl (hw _ (List.mem_of_getElem? (i := 50) rfl))) Via.refl e6 F_p E_a (Or.inr ⟨(hw _ (List.mem_of_getElem? (i := 51) rfl)), rfl, hnm⟩) (hw _ (List.mem_of_getElem? (i := 36) rfl)) (ty := .int) (by decide) rfl rfl (g := (mkF m 46 #[.val (.ref a), .val (.ref hs), .val (.int p1)] [(.int p1), (.ref a)])) rfl rfl (hb hby d_e_46)
  replace E_a := E_a.wr W7
  replace F_h := F_h.other W7 (Or.inr (slot_ne (Or.inr (hw _ (List.mem_of_getElem? (i := 49) rfl))) (Or.inr (hw _ (List.mem_of_getElem? (i := 51) rfl))) (by decide) (t := (.object "java/lang/String")) (t' := .int) (by decide) (by decide)))
  replace Es1 := Es1.wr W7
  replace Fv1 := Fv1.other W7 (Or.inl (ne_exa Es1 E_a (by decide)))
  replace Fc1 := Fc1.other W7 (Or.inl (ne_exa Es1 E_a (by decide)))
  replace Vt1 := Vt1.other W7 ne_t1_a
  replace F_p := F_p.same W7
  replace O := O.wr W7 g_a
  replace K := K.wr W7 (Or.inl (by simp))
  replace N := Fr.snoc X7 N g_a
  refine Go.by (T' := T7) (f' := (mkF m 49 #[.val (.ref a), .val (.ref hs), .val (.int p1)] [])) (st7) ?_
  obtain ⟨fs, hr, hrun, hended, hW, hsame⟩ := X7.leave (v := none) (fun _ => rfl)
  refine ⟨_, _, X7.returnOut hx Bd.returns (hb hby d_e_49) hr, hrun, hended, _, _, rfl, ?_, ⟨_, rfl⟩, hW, hsame.mono (by decide) (by decide)⟩
  show Qe Z a hs p1 h0 n0 (none) T7.heap _
  rw [e7]
  exact ⟨rfl, N, K, F_h, F_p⟩

theorem d_q_0 : decode prog_33_method_7_code 0 = .ok (.aload_n 1, 1) := by decide +kernel
theorem d_q_1 : decode prog_33_method_7_code 1 = .ok (.instanceof 20, 3) := by decide +kernel
theorem d_q_4 : decode prog_33_method_7_code 4 = .ok (.ifCond .eq 37, 3) := by decide +kernel
theorem d_q_7 : decode prog_33_method_7_code 7 = .ok (.aload_n 1, 1) := by decide +kernel
theorem d_q_8 : decode prog_33_method_7_code 8 = .ok (.checkcast 20, 3) := by decide +kernel
theorem d_q_11 : decode prog_33_method_7_code 11 = .ok (.astore_n 2, 1) := by decide +kernel
theorem d_q_12 : decode prog_33_method_7_code 12 = .ok (.aload_n 0, 1) := by decide +kernel
theorem d_q_13 : decode prog_33_method_7_code 13 = .ok (.getfield 31, 3) := by decide +kernel
theorem d_q_16 : decode prog_33_method_7_code 16 = .ok (.aload_n 2, 1) := by decide +kernel
theorem d_q_17 : decode prog_33_method_7_code 17 = .ok (.getfield 31, 3) := by decide +kernel
theorem d_q_20 : decode prog_33_method_7_code 20 = .ok (.invokevirtual 104, 3) := by decide +kernel
theorem d_q_23 : decode prog_33_method_7_code 23 = .ok (.ifCond .eq 18, 3) := by decide +kernel
theorem d_q_26 : decode prog_33_method_7_code 26 = .ok (.aload_n 0, 1) := by decide +kernel
theorem d_q_27 : decode prog_33_method_7_code 27 = .ok (.getfield 35, 3) := by decide +kernel
theorem d_q_30 : decode prog_33_method_7_code 30 = .ok (.aload_n 2, 1) := by decide +kernel
theorem d_q_31 : decode prog_33_method_7_code 31 = .ok (.getfield 35, 3) := by decide +kernel
theorem d_q_34 : decode prog_33_method_7_code 34 = .ok (.if_icmp .ne 7, 3) := by decide +kernel
theorem d_q_37 : decode prog_33_method_7_code 37 = .ok (.iconst 1, 1) := by decide +kernel
theorem d_q_38 : decode prog_33_method_7_code 38 = .ok (.goto 4, 3) := by decide +kernel
theorem d_q_41 : decode prog_33_method_7_code 41 = .ok (.iconst 0, 1) := by decide +kernel
theorem d_q_42 : decode prog_33_method_7_code 42 = .ok (.ireturn, 1) := by decide +kernel
theorem pn_q : plainFor (⟨"com/example/honest_replica/honestreplica/model/Endpoint", "equals", "(Ljava/lang/Object;)Z"⟩ : MethodName) = true := plainFor_of_name (by first | (simp [plainName, overriddenIn]; done) | decide +kernel)
theorem pd_q_0 : parseMethodDescriptor "(Ljava/lang/Object;)Z" = some ⟨[(.object "java/lang/Object")], some .boolean⟩ := by decide +kernel
theorem ef_q (m : MethodId) (x0 : Addr) (x1 : Addr) : entryFrame m #[(.ref x0), (.ref x1)] 3 = mkF m 0 #[.val (.ref x0), .val (.ref x1), .unset] [] := by first | (simp [entryFrame, mkF, argsToLocals, Value.category]; done) | rfl
set_option maxRecDepth 65536 in
set_option maxHeartbeats 40000000 in
theorem rm_q (l : Launch) (Z : State) (a0 : Array Value) (hw : ∀ d ∈ tables_1, d.before a0 Z = true) (ws : List Jvm.Cond) (a b hs1 hs2 : Addr) (p1 p2 : Int32) (t1 : Addr) (kb1 : ClassId) (N1 : Int32) (vs1 : List Value) (cs1 : List Int32) (t2 : Addr) (kb2 : ClassId) (N2 : Int32) (vs2 : List Value) (cs2 : List Int32)  (wc : Addr)  (cl : Cell)  (zc : Int32) (hS : Sf Z wc cl zc) (h0 : Heap) (n0 : Nat) (O : Old Z n0 h0) (E_a : Exa Z h0 a "com/example/honest_replica/honestreplica/model/Endpoint") (E_b : Exa Z h0 b "com/example/honest_replica/honestreplica/model/Endpoint") (F1 : Fld Z h0 a "com/example/honest_replica/honestreplica/model/Endpoint" "host" "Ljava/lang/String;" (.ref hs1)) (F2 : Fld Z h0 a "com/example/honest_replica/honestreplica/model/Endpoint" "port" "I" (.int p1)) (F3 : Fld Z h0 b "com/example/honest_replica/honestreplica/model/Endpoint" "host" "Ljava/lang/String;" (.ref hs2)) (F4 : Fld Z h0 b "com/example/honest_replica/honestreplica/model/Endpoint" "port" "I" (.int p2)) (Es1 : Exa Z h0 hs1 "java/lang/String") (Fv1 : Fld Z h0 hs1 "java/lang/String" "value" "[B" (.ref t1)) (Fc1 : Fld Z h0 hs1 "java/lang/String" "coder" "B" (.int (0 : Int32))) (Vt1 : Arv Z h0 t1 kb1 .byte N1 vs1 (.int (0 : Int32))) (hcd1 : StrChars.Road.CodA cs1 0 N1 vs1) (hbd1 : ∀ c ∈ cs1, ¬ c < 0 ∧ ¬ (65535 : Int32) < c) (hlen1 : cs1.length ≤ 4000) (Es2 : Exa Z h0 hs2 "java/lang/String") (Fv2 : Fld Z h0 hs2 "java/lang/String" "value" "[B" (.ref t2)) (Fc2 : Fld Z h0 hs2 "java/lang/String" "coder" "B" (.int (0 : Int32))) (Vt2 : Arv Z h0 t2 kb2 .byte N2 vs2 (.int (0 : Int32))) (hcd2 : StrChars.Road.CodA cs2 0 N2 vs2) (hbd2 : ∀ c ∈ cs2, ¬ c < 0 ∧ ¬ (65535 : Int32) < c) (hlen2 : cs2.length ≤ 4000) :
    MetFree l (⟨"com/example/honest_replica/honestreplica/model/Endpoint", "equals", "(Ljava/lang/Object;)Z"⟩ : MethodName) (head1 (Jvm.Cond.code (⟨"com/example/honest_replica/honestreplica/model/Endpoint", "equals", "(Ljava/lang/Object;)Z"⟩ : MethodName) prog_33_method_7_code 3 (some .boolean) :: ws) ({ frames := 2, cells := 0, slots := 0, locals := 28 } : Room)) (fun as_ U => as_ = #[(.ref a), (.ref b)] ∧ Z.Warmed39 U.vm ∧ U.heap = h0) (fun _ _ _ _ _ => True) (fun _ U o U' => ∃ v L, o = .returned v ∧ Qpure (some (.int (eqs cs1 p1 cs2 p2))) h0 n0 v U'.heap L ∧ FrameEnd U o U' L ({ frames := 2, cells := 0, slots := 0, locals := 28 } : Room).cells ({ frames := 2, cells := 0, slots := 0, locals := 28 } : Room).slots) := by
  refine MetFree.of_bodySF pn_q hisR ?_
  intro p e s m args below meth c s₁ Bd hml0 hP hK
  obtain ⟨rfl, hZ, hh⟩ := hP
  have hx := Bd.exec
  have hby := Bd.bytes
  have hml : c.maxLocals = 3 := hml0
  have hown : s.vm.findClass "com/example/honest_replica/honestreplica/model/Endpoint" = some m.cls := findClass_of_methodNamed Bd.named
  have hnm := (name_of_methodNamed Bd.named Bd.method).1
  have X0 : Stand p l e ({ frames := 2, cells := 0, slots := 0, locals := 28 } : Room) s m #[(.ref a), (.ref b)] below meth c s₁ [] 0 0 := Stand.of_body Bd
  have e0 : s₁.heap = h0 := by rw [← hh, Bd.state]; rfl
  have N := Fr.nil n0
  have K : Keep h0 h0 [] := Keep.refl _ _
  refine Go.by (T' := s₁) (f' := (mkF m 0 #[.val (.ref a), .val (.ref b), .unset] [])) (fun _ k => castTop (ef_q m a b) k) ?_
  have heq : ∀ d ∈ StrChars.Road.wordsEq, d.before a0 Z = true := fun d hd => hw d ((by decide +kernel : ∀ d ∈ StrChars.Road.wordsEq, d ∈ tables_1) d hd)
  refine Go.by (T' := s₁) (f' := (mkF m 1 #[.val (.ref a), .val (.ref b), .unset] [(.ref b)])) (fun _ k => XS.aloadN X0.here hx rfl (hb hby d_q_0) rfl rfl k) ?_
  obtain ⟨T1, X1, e1, st1⟩ := instY X0 hx hZ hown (hw _ (List.mem_of_getElem? (i := 57) rfl)) e0 (Ins.self E_b) (g := (mkF m 1 #[.val (.ref a), .val (.ref b), .unset] [(.ref b)])) rfl rfl (hb hby d_q_1)
  refine Go.by (T' := T1) (f' := (mkF m 4 #[.val (.ref a), .val (.ref b), .unset] [(.int (1 : Int32))])) (st1) ?_
  refine Go.by (T' := T1) (f' := (mkF m 7 #[.val (.ref a), .val (.ref b), .unset] [])) (fun _ k => XS.ifNo X1.here hx rfl (hb hby d_q_4) rfl ((if0 _ _).trans (feq (by decide : ¬ ((1 : Int32) = (0 : Int32)))).1) k) ?_
  refine Go.by (T' := T1) (f' := (mkF m 8 #[.val (.ref a), .val (.ref b), .unset] [(.ref b)])) (fun _ k => XS.aloadN X1.here hx rfl (hb hby d_q_7) rfl rfl k) ?_
  obtain ⟨T3, X3, e3, st3⟩ := castY X1 hx hZ hown (hw _ (List.mem_of_getElem? (i := 57) rfl)) e1 (Ins.self E_b) (g := (mkF m 8 #[.val (.ref a), .val (.ref b), .unset] [(.ref b)])) rfl rfl (hb hby d_q_8)
  refine Go.by (T' := T3) (f' := (mkF m 11 #[.val (.ref a), .val (.ref b), .unset] [(.ref b)])) (st3) ?_
  refine Go.by (T' := T3) (f' := (mkF m 12 #[.val (.ref a), .val (.ref b), .val (.ref b)] [])) (fun _ k => XS.astoreN X3.here hx rfl (hb hby d_q_11) rfl rfl (l' := #[.val (.ref a), .val (.ref b), .val (.ref b)]) rfl k) ?_
  refine Go.by (T' := T3) (f' := (mkF m 13 #[.val (.ref a), .val (.ref b), .val (.ref b)] [(.ref a)])) (fun _ k => XS.aloadN X3.here hx rfl (hb hby d_q_12) rfl rfl k) ?_
  obtain ⟨T4, X4, e4, st4⟩ := getF X3 hx hZ hown (host := "") (Or.inl (hw _ (List.mem_of_getElem? (i := 48) rfl))) Via.refl e3 F1 (g := (mkF m 13 #[.val (.ref a), .val (.ref b), .val (.ref b)] [(.ref a)])) rfl rfl (hb hby d_q_13)
  refine Go.by (T' := T4) (f' := (mkF m 16 #[.val (.ref a), .val (.ref b), .val (.ref b)] [(.ref hs1)])) (st4) ?_
  refine Go.by (T' := T4) (f' := (mkF m 17 #[.val (.ref a), .val (.ref b), .val (.ref b)] [(.ref b), (.ref hs1)])) (fun _ k => XS.aloadN X4.here hx rfl (hb hby d_q_16) rfl rfl k) ?_
  obtain ⟨T5, X5, e5, st5⟩ := getF X4 hx hZ hown (host := "") (Or.inl (hw _ (List.mem_of_getElem? (i := 48) rfl))) Via.refl e4 F3 (g := (mkF m 17 #[.val (.ref a), .val (.ref b), .val (.ref b)] [(.ref b), (.ref hs1)])) rfl rfl (hb hby d_q_17)
  refine Go.by (T' := T5) (f' := (mkF m 20 #[.val (.ref a), .val (.ref b), .val (.ref b)] [(.ref hs2), (.ref hs1)])) (st5) ?_
  obtain ⟨cq6, kq6, q6a, q6b, q6c⟩ := isOf hZ e5 Es1
  obtain ⟨v6, _, ⟨T6, L6, k6, n6⟩, -, X6, ⟨Lc6, hQ6, l6, y6, z6⟩, st6⟩ := X5.virtualBack hx (y := (⟨"java/lang/String", "equals", "(Ljava/lang/Object;)Z"⟩ : MethodName)) (z := (⟨"java/lang/String", "equals", "(Ljava/lang/Object;)Z"⟩ : MethodName)) hown (mvT hZ (hw _ (List.mem_of_getElem? (i := 59) rfl))) (mvT hZ (hw _ (List.mem_of_getElem? (i := 60) rfl))) (notFace_of_selects (args := #[]) (mvT hZ (hw _ (List.mem_of_getElem? (i := 62) rfl)))) (mvT hZ (hw _ (List.mem_of_getElem? (i := 62) rfl))) (mvT hZ (hw _ (List.mem_of_getElem? (i := 61) rfl))) (by decide) (StrChars.Road.eqW (W := 0) hZ heq (kI := 4) (hw _ (List.mem_of_getElem? (i := 7) rfl)) Es1 Fv1 Fc1 Vt1 hcd1 hbd1 hlen1 Es2 Fv2 Fc2 Vt2 hcd2 hbd2 hlen2 (Sta.ext O.2 hS.2.2.2.2.1) hS.2.2.2.2.2.1 (by decide) (by decide)) q6a q6c (g := (mkF m 20 #[.val (.ref a), .val (.ref b), .val (.ref b)] [(.ref hs2), (.ref hs1)])) rfl (by rw [hml]; rfl) (Steps.refl _) (argsL := [(.ref hs2)]) (rest := []) (lenOf pd_q_0 rfl) rfl (by show 2 * 0 + _ ≤ _; exact Nat.le_of_eq rfl) (hb hby d_q_20) (fun _ _ => ⟨rfl, e5, (by decide : 0 + 0 ≤ _), (by decide : 0 + 0 ≤ _)⟩)
  dsimp only [Pt.U, Pt.locs, Pt.cells, Pt.slots] at X6 l6 y6 z6 st6 hQ6
  subst l6 y6 z6
  obtain ⟨hcase6, rfl, e6⟩ := hQ6
  replace N := Fr.app N (Fr.nil n0)
  rcases hcase6 with ⟨rfl, hcs6⟩ | ⟨rfl, hcs6⟩
  · skip
    refine Go.by (T' := T6) (f' := (mkF m 23 #[.val (.ref a), .val (.ref b), .val (.ref b)] [(.int (1 : Int32))])) (fun _ k => st6.trans k) ?_
    refine Go.by (T' := T6) (f' := (mkF m 26 #[.val (.ref a), .val (.ref b), .val (.ref b)] [])) (fun _ k => XS.ifNo X6.here hx rfl (hb hby d_q_23) rfl ((if0 _ _).trans (feq (by decide : ¬ ((1 : Int32) = (0 : Int32)))).1) k) ?_
    refine Go.by (T' := T6) (f' := (mkF m 27 #[.val (.ref a), .val (.ref b), .val (.ref b)] [(.ref a)])) (fun _ k => XS.aloadN X6.here hx rfl (hb hby d_q_26) rfl rfl k) ?_
    obtain ⟨T8, X8, e8, st8⟩ := getF X6 hx hZ hown (host := "") (Or.inl (hw _ (List.mem_of_getElem? (i := 50) rfl))) Via.refl e6 F2 (g := (mkF m 27 #[.val (.ref a), .val (.ref b), .val (.ref b)] [(.ref a)])) rfl rfl (hb hby d_q_27)
    refine Go.by (T' := T8) (f' := (mkF m 30 #[.val (.ref a), .val (.ref b), .val (.ref b)] [(.int p1)])) (st8) ?_
    refine Go.by (T' := T8) (f' := (mkF m 31 #[.val (.ref a), .val (.ref b), .val (.ref b)] [(.ref b), (.int p1)])) (fun _ k => XS.aloadN X8.here hx rfl (hb hby d_q_30) rfl rfl k) ?_
    obtain ⟨T9, X9, e9, st9⟩ := getF X8 hx hZ hown (host := "") (Or.inl (hw _ (List.mem_of_getElem? (i := 50) rfl))) Via.refl e8 F4 (g := (mkF m 31 #[.val (.ref a), .val (.ref b), .val (.ref b)] [(.ref b), (.int p1)])) rfl rfl (hb hby d_q_31)
    refine Go.by (T' := T9) (f' := (mkF m 34 #[.val (.ref a), .val (.ref b), .val (.ref b)] [(.int p2), (.int p1)])) (st9) ?_
    by_cases hc34_10 : p1 = p2
    · skip
      refine Go.by (T' := T9) (f' := (mkF m 37 #[.val (.ref a), .val (.ref b), .val (.ref b)] [])) (fun _ k => XS.icmpNo X9.here hx rfl (hb hby d_q_34) rfl (teq hc34_10).2 k) ?_
      refine Go.by (T' := T9) (f' := (mkF m 38 #[.val (.ref a), .val (.ref b), .val (.ref b)] [(.int (1 : Int32))])) (fun _ k => XS.iconst X9.here hx rfl (hb hby d_q_37) k) ?_
      refine Go.by (T' := T9) (f' := (mkF m 42 #[.val (.ref a), .val (.ref b), .val (.ref b)] [(.int (1 : Int32))])) (fun _ k => XS.goto X9.here hx rfl (pc0 := 38) (pc' := 42) rfl (hb hby d_q_38) (by decide) (by decide) k) ?_
      obtain ⟨fs, hr, hrun, hended, hW, hsame⟩ := X9.leave (v := some (.int (1 : Int32))) (fun h => by rw [Bd.returns] at h; cases h)
      refine ⟨_, _, retN X9 hx (t := .boolean) Bd.returns (by simp) (hb hby d_q_42) hr, hrun, hended, _, _, rfl, ?_, ⟨_, rfl⟩, hW, hsame.mono (by decide) (by decide)⟩
      show Qpure (some (.int (eqs cs1 p1 cs2 p2))) h0 n0 (some (.int (1 : Int32))) T9.heap _
      rw [e9]
      exact ⟨by simp [eqs, hcs6, hc34_10], N, rfl⟩
    · skip
      refine Go.by (T' := T9) (f' := (mkF m 41 #[.val (.ref a), .val (.ref b), .val (.ref b)] [])) (fun _ k => XS.icmpYes X9.here hx rfl (pc0 := 34) (pc' := 41) rfl (hb hby d_q_34) rfl (feq hc34_10).2 (by decide) (by decide) k) ?_
      refine Go.by (T' := T9) (f' := (mkF m 42 #[.val (.ref a), .val (.ref b), .val (.ref b)] [(.int (0 : Int32))])) (fun _ k => XS.iconst X9.here hx rfl (hb hby d_q_41) k) ?_
      obtain ⟨fs, hr, hrun, hended, hW, hsame⟩ := X9.leave (v := some (.int (0 : Int32))) (fun h => by rw [Bd.returns] at h; cases h)
      refine ⟨_, _, retN X9 hx (t := .boolean) Bd.returns (by simp) (hb hby d_q_42) hr, hrun, hended, _, _, rfl, ?_, ⟨_, rfl⟩, hW, hsame.mono (by decide) (by decide)⟩
      show Qpure (some (.int (eqs cs1 p1 cs2 p2))) h0 n0 (some (.int (0 : Int32))) T9.heap _
      rw [e9]
      exact ⟨by simp [eqs, hcs6, hc34_10], N, rfl⟩
  · skip
    refine Go.by (T' := T6) (f' := (mkF m 23 #[.val (.ref a), .val (.ref b), .val (.ref b)] [(.int (0 : Int32))])) (fun _ k => st6.trans k) ?_
    refine Go.by (T' := T6) (f' := (mkF m 41 #[.val (.ref a), .val (.ref b), .val (.ref b)] [])) (fun _ k => XS.ifYes X6.here hx rfl (pc0 := 23) (pc' := 41) rfl (hb hby d_q_23) rfl ((if0 _ _).trans (teq (by decide : (0 : Int32) = (0 : Int32))).1) (by decide) (by decide) k) ?_
    refine Go.by (T' := T6) (f' := (mkF m 42 #[.val (.ref a), .val (.ref b), .val (.ref b)] [(.int (0 : Int32))])) (fun _ k => XS.iconst X6.here hx rfl (hb hby d_q_41) k) ?_
    obtain ⟨fs, hr, hrun, hended, hW, hsame⟩ := X6.leave (v := some (.int (0 : Int32))) (fun h => by rw [Bd.returns] at h; cases h)
    refine ⟨_, _, retN X6 hx (t := .boolean) Bd.returns (by simp) (hb hby d_q_42) hr, hrun, hended, _, _, rfl, ?_, ⟨_, rfl⟩, hW, hsame.mono (by decide) (by decide)⟩
    show Qpure (some (.int (eqs cs1 p1 cs2 p2))) h0 n0 (some (.int (0 : Int32))) T6.heap _
    rw [e6]
    exact ⟨by simp [eqs, hcs6], N, rfl⟩

theorem d_qn_0 : decode prog_33_method_7_code 0 = .ok (.aload_n 1, 1) := by decide +kernel
theorem d_qn_1 : decode prog_33_method_7_code 1 = .ok (.instanceof 20, 3) := by decide +kernel
theorem d_qn_4 : decode prog_33_method_7_code 4 = .ok (.ifCond .eq 37, 3) := by decide +kernel
theorem d_qn_41 : decode prog_33_method_7_code 41 = .ok (.iconst 0, 1) := by decide +kernel
theorem d_qn_42 : decode prog_33_method_7_code 42 = .ok (.ireturn, 1) := by decide +kernel
theorem pn_qn : plainFor (⟨"com/example/honest_replica/honestreplica/model/Endpoint", "equals", "(Ljava/lang/Object;)Z"⟩ : MethodName) = true := plainFor_of_name (by first | (simp [plainName, overriddenIn]; done) | decide +kernel)
theorem ef_qn (m : MethodId) (x0 : Addr) : entryFrame m #[(.ref x0), .null] 3 = mkF m 0 #[.val (.ref x0), .val .null, .unset] [] := by first | (simp [entryFrame, mkF, argsToLocals, Value.category]; done) | rfl
set_option maxRecDepth 65536 in
set_option maxHeartbeats 40000000 in
theorem rm_qn (l : Launch) (Z : State) (a0 : Array Value) (hw : ∀ d ∈ tables_1, d.before a0 Z = true) (ws : List Jvm.Cond) (a : Addr) (h0 : Heap) (n0 : Nat) (O : Old Z n0 h0)  :
    MetFree l (⟨"com/example/honest_replica/honestreplica/model/Endpoint", "equals", "(Ljava/lang/Object;)Z"⟩ : MethodName) (head1 (Jvm.Cond.code (⟨"com/example/honest_replica/honestreplica/model/Endpoint", "equals", "(Ljava/lang/Object;)Z"⟩ : MethodName) prog_33_method_7_code 3 (some .boolean) :: ws) ({ frames := 0, cells := 0, slots := 0, locals := 0 } : Room)) (fun as_ U => as_ = #[(.ref a), .null] ∧ Z.Warmed39 U.vm ∧ U.heap = h0) (fun _ _ _ _ _ => True) (fun _ U o U' => ∃ v L, o = .returned v ∧ Qpure (some (.int 0)) h0 n0 v U'.heap L ∧ FrameEnd U o U' L ({ frames := 0, cells := 0, slots := 0, locals := 0 } : Room).cells ({ frames := 0, cells := 0, slots := 0, locals := 0 } : Room).slots) := by
  refine MetFree.of_bodySF pn_qn hisR ?_
  intro p e s m args below meth c s₁ Bd hml0 hP hK
  obtain ⟨rfl, hZ, hh⟩ := hP
  have hx := Bd.exec
  have hby := Bd.bytes
  have hml : c.maxLocals = 3 := hml0
  have hown : s.vm.findClass "com/example/honest_replica/honestreplica/model/Endpoint" = some m.cls := findClass_of_methodNamed Bd.named
  have hnm := (name_of_methodNamed Bd.named Bd.method).1
  have X0 : Stand p l e ({ frames := 0, cells := 0, slots := 0, locals := 0 } : Room) s m #[(.ref a), .null] below meth c s₁ [] 0 0 := Stand.of_body Bd
  have e0 : s₁.heap = h0 := by rw [← hh, Bd.state]; rfl
  have N := Fr.nil n0
  have K : Keep h0 h0 [] := Keep.refl _ _
  refine Go.by (T' := s₁) (f' := (mkF m 0 #[.val (.ref a), .val .null, .unset] [])) (fun _ k => castTop (ef_qn m a) k) ?_
  refine Go.by (T' := s₁) (f' := (mkF m 1 #[.val (.ref a), .val .null, .unset] [.null])) (fun _ k => XS.aloadN X0.here hx rfl (hb hby d_qn_0) rfl rfl k) ?_
  refine Go.by (T' := s₁) (f' := (mkF m 4 #[.val (.ref a), .val .null, .unset] [(.int (0 : Int32))])) (X0.instanceofNull hx (g := (mkF m 1 #[.val (.ref a), .val .null, .unset] [.null])) rfl rfl (hb hby d_qn_1)) ?_
  refine Go.by (T' := s₁) (f' := (mkF m 41 #[.val (.ref a), .val .null, .unset] [])) (fun _ k => XS.ifYes X0.here hx rfl (pc0 := 4) (pc' := 41) rfl (hb hby d_qn_4) rfl ((if0 _ _).trans (teq (by decide : (0 : Int32) = (0 : Int32))).1) (by decide) (by decide) k) ?_
  refine Go.by (T' := s₁) (f' := (mkF m 42 #[.val (.ref a), .val .null, .unset] [(.int (0 : Int32))])) (fun _ k => XS.iconst X0.here hx rfl (hb hby d_qn_41) k) ?_
  obtain ⟨fs, hr, hrun, hended, hW, hsame⟩ := X0.leave (v := some (.int (0 : Int32))) (fun h => by rw [Bd.returns] at h; cases h)
  refine ⟨_, _, retN X0 hx (t := .boolean) Bd.returns (by simp) (hb hby d_qn_42) hr, hrun, hended, _, _, rfl, ?_, ⟨_, rfl⟩, hW, hsame.mono (by decide) (by decide)⟩
  show Qpure (some (.int 0)) h0 n0 (some (.int (0 : Int32))) s₁.heap _
  rw [e0]
  exact ⟨rfl, N, rfl⟩

theorem d_qi_0 : decode prog_33_method_7_code 0 = .ok (.aload_n 1, 1) := by decide +kernel
theorem d_qi_1 : decode prog_33_method_7_code 1 = .ok (.instanceof 20, 3) := by decide +kernel
theorem d_qi_4 : decode prog_33_method_7_code 4 = .ok (.ifCond .eq 37, 3) := by decide +kernel
theorem d_qi_41 : decode prog_33_method_7_code 41 = .ok (.iconst 0, 1) := by decide +kernel
theorem d_qi_42 : decode prog_33_method_7_code 42 = .ok (.ireturn, 1) := by decide +kernel
theorem pn_qi : plainFor (⟨"com/example/honest_replica/honestreplica/model/Endpoint", "equals", "(Ljava/lang/Object;)Z"⟩ : MethodName) = true := plainFor_of_name (by first | (simp [plainName, overriddenIn]; done) | decide +kernel)
theorem ef_qi (m : MethodId) (x0 : Addr) (x1 : Addr) : entryFrame m #[(.ref x0), (.ref x1)] 3 = mkF m 0 #[.val (.ref x0), .val (.ref x1), .unset] [] := by first | (simp [entryFrame, mkF, argsToLocals, Value.category]; done) | rfl
set_option maxRecDepth 65536 in
set_option maxHeartbeats 40000000 in
theorem rm_qi (l : Launch) (Z : State) (a0 : Array Value) (hw : ∀ d ∈ tables_1, d.before a0 Z = true) (ws : List Jvm.Cond) (a b : Addr) (h0 : Heap) (n0 : Nat) (O : Old Z n0 h0) (E_b : Exa Z h0 b "java/lang/Integer") :
    MetFree l (⟨"com/example/honest_replica/honestreplica/model/Endpoint", "equals", "(Ljava/lang/Object;)Z"⟩ : MethodName) (head1 (Jvm.Cond.code (⟨"com/example/honest_replica/honestreplica/model/Endpoint", "equals", "(Ljava/lang/Object;)Z"⟩ : MethodName) prog_33_method_7_code 3 (some .boolean) :: ws) ({ frames := 0, cells := 0, slots := 0, locals := 0 } : Room)) (fun as_ U => as_ = #[(.ref a), (.ref b)] ∧ Z.Warmed39 U.vm ∧ U.heap = h0) (fun _ _ _ _ _ => True) (fun _ U o U' => ∃ v L, o = .returned v ∧ Qpure (some (.int 0)) h0 n0 v U'.heap L ∧ FrameEnd U o U' L ({ frames := 0, cells := 0, slots := 0, locals := 0 } : Room).cells ({ frames := 0, cells := 0, slots := 0, locals := 0 } : Room).slots) := by
  refine MetFree.of_bodySF pn_qi hisR ?_
  intro p e s m args below meth c s₁ Bd hml0 hP hK
  obtain ⟨rfl, hZ, hh⟩ := hP
  have hx := Bd.exec
  have hby := Bd.bytes
  have hml : c.maxLocals = 3 := hml0
  have hown : s.vm.findClass "com/example/honest_replica/honestreplica/model/Endpoint" = some m.cls := findClass_of_methodNamed Bd.named
  have hnm := (name_of_methodNamed Bd.named Bd.method).1
  have X0 : Stand p l e ({ frames := 0, cells := 0, slots := 0, locals := 0 } : Room) s m #[(.ref a), (.ref b)] below meth c s₁ [] 0 0 := Stand.of_body Bd
  have e0 : s₁.heap = h0 := by rw [← hh, Bd.state]; rfl
  have N := Fr.nil n0
  have K : Keep h0 h0 [] := Keep.refl _ _
  refine Go.by (T' := s₁) (f' := (mkF m 0 #[.val (.ref a), .val (.ref b), .unset] [])) (fun _ k => castTop (ef_qi m a b) k) ?_
  refine Go.by (T' := s₁) (f' := (mkF m 1 #[.val (.ref a), .val (.ref b), .unset] [(.ref b)])) (fun _ k => XS.aloadN X0.here hx rfl (hb hby d_qi_0) rfl rfl k) ?_
  obtain ⟨T1, X1, e1, st1⟩ := instNo X0 hx hZ hown (hw _ (List.mem_of_getElem? (i := 57) rfl)) e0 E_b (own_nsno (hw _ (List.mem_of_getElem? (i := 92) rfl)) (hw _ (List.mem_of_getElem? (i := 36) rfl)) (NS.step (hw _ (List.mem_of_getElem? (i := 92) rfl)) (NS.step (hw _ (List.mem_of_getElem? (i := 93) rfl)) (own_nsroot (hw _ (List.mem_of_getElem? (i := 70) rfl)) (hw _ (List.mem_of_getElem? (i := 36) rfl)) (by decide)) (by decide)) (by decide)) (by decide)) (g := (mkF m 1 #[.val (.ref a), .val (.ref b), .unset] [(.ref b)])) rfl rfl (hb hby d_qi_1)
  refine Go.by (T' := T1) (f' := (mkF m 4 #[.val (.ref a), .val (.ref b), .unset] [(.int (0 : Int32))])) (st1) ?_
  refine Go.by (T' := T1) (f' := (mkF m 41 #[.val (.ref a), .val (.ref b), .unset] [])) (fun _ k => XS.ifYes X1.here hx rfl (pc0 := 4) (pc' := 41) rfl (hb hby d_qi_4) rfl ((if0 _ _).trans (teq (by decide : (0 : Int32) = (0 : Int32))).1) (by decide) (by decide) k) ?_
  refine Go.by (T' := T1) (f' := (mkF m 42 #[.val (.ref a), .val (.ref b), .unset] [(.int (0 : Int32))])) (fun _ k => XS.iconst X1.here hx rfl (hb hby d_qi_41) k) ?_
  obtain ⟨fs, hr, hrun, hended, hW, hsame⟩ := X1.leave (v := some (.int (0 : Int32))) (fun h => by rw [Bd.returns] at h; cases h)
  refine ⟨_, _, retN X1 hx (t := .boolean) Bd.returns (by simp) (hb hby d_qi_42) hr, hrun, hended, _, _, rfl, ?_, ⟨_, rfl⟩, hW, hsame.mono (by decide) (by decide)⟩
  show Qpure (some (.int 0)) h0 n0 (some (.int (0 : Int32))) T1.heap _
  rw [e1]
  exact ⟨rfl, N, rfl⟩

theorem d_qs_0 : decode prog_33_method_7_code 0 = .ok (.aload_n 1, 1) := by decide +kernel
theorem d_qs_1 : decode prog_33_method_7_code 1 = .ok (.instanceof 20, 3) := by decide +kernel
theorem d_qs_4 : decode prog_33_method_7_code 4 = .ok (.ifCond .eq 37, 3) := by decide +kernel
theorem d_qs_41 : decode prog_33_method_7_code 41 = .ok (.iconst 0, 1) := by decide +kernel
theorem d_qs_42 : decode prog_33_method_7_code 42 = .ok (.ireturn, 1) := by decide +kernel
theorem pn_qs : plainFor (⟨"com/example/honest_replica/honestreplica/model/Endpoint", "equals", "(Ljava/lang/Object;)Z"⟩ : MethodName) = true := plainFor_of_name (by first | (simp [plainName, overriddenIn]; done) | decide +kernel)
theorem ef_qs (m : MethodId) (x0 : Addr) (x1 : Addr) : entryFrame m #[(.ref x0), (.ref x1)] 3 = mkF m 0 #[.val (.ref x0), .val (.ref x1), .unset] [] := by first | (simp [entryFrame, mkF, argsToLocals, Value.category]; done) | rfl
set_option maxRecDepth 65536 in
set_option maxHeartbeats 40000000 in
theorem rm_qs (l : Launch) (Z : State) (a0 : Array Value) (hw : ∀ d ∈ tables_1, d.before a0 Z = true) (ws : List Jvm.Cond) (a b : Addr) (h0 : Heap) (n0 : Nat) (O : Old Z n0 h0) (E_b : Exa Z h0 b "java/lang/String") :
    MetFree l (⟨"com/example/honest_replica/honestreplica/model/Endpoint", "equals", "(Ljava/lang/Object;)Z"⟩ : MethodName) (head1 (Jvm.Cond.code (⟨"com/example/honest_replica/honestreplica/model/Endpoint", "equals", "(Ljava/lang/Object;)Z"⟩ : MethodName) prog_33_method_7_code 3 (some .boolean) :: ws) ({ frames := 0, cells := 0, slots := 0, locals := 0 } : Room)) (fun as_ U => as_ = #[(.ref a), (.ref b)] ∧ Z.Warmed39 U.vm ∧ U.heap = h0) (fun _ _ _ _ _ => True) (fun _ U o U' => ∃ v L, o = .returned v ∧ Qpure (some (.int 0)) h0 n0 v U'.heap L ∧ FrameEnd U o U' L ({ frames := 0, cells := 0, slots := 0, locals := 0 } : Room).cells ({ frames := 0, cells := 0, slots := 0, locals := 0 } : Room).slots) := by
  refine MetFree.of_bodySF pn_qs hisR ?_
  intro p e s m args below meth c s₁ Bd hml0 hP hK
  obtain ⟨rfl, hZ, hh⟩ := hP
  have hx := Bd.exec
  have hby := Bd.bytes
  have hml : c.maxLocals = 3 := hml0
  have hown : s.vm.findClass "com/example/honest_replica/honestreplica/model/Endpoint" = some m.cls := findClass_of_methodNamed Bd.named
  have hnm := (name_of_methodNamed Bd.named Bd.method).1
  have X0 : Stand p l e ({ frames := 0, cells := 0, slots := 0, locals := 0 } : Room) s m #[(.ref a), (.ref b)] below meth c s₁ [] 0 0 := Stand.of_body Bd
  have e0 : s₁.heap = h0 := by rw [← hh, Bd.state]; rfl
  have N := Fr.nil n0
  have K : Keep h0 h0 [] := Keep.refl _ _
  refine Go.by (T' := s₁) (f' := (mkF m 0 #[.val (.ref a), .val (.ref b), .unset] [])) (fun _ k => castTop (ef_qs m a b) k) ?_
  refine Go.by (T' := s₁) (f' := (mkF m 1 #[.val (.ref a), .val (.ref b), .unset] [(.ref b)])) (fun _ k => XS.aloadN X0.here hx rfl (hb hby d_qs_0) rfl rfl k) ?_
  obtain ⟨T1, X1, e1, st1⟩ := instNo X0 hx hZ hown (hw _ (List.mem_of_getElem? (i := 57) rfl)) e0 E_b (own_nsno (hw _ (List.mem_of_getElem? (i := 69) rfl)) (hw _ (List.mem_of_getElem? (i := 36) rfl)) (NS.step (hw _ (List.mem_of_getElem? (i := 69) rfl)) (own_nsroot (hw _ (List.mem_of_getElem? (i := 70) rfl)) (hw _ (List.mem_of_getElem? (i := 36) rfl)) (by decide)) (by decide)) (by decide)) (g := (mkF m 1 #[.val (.ref a), .val (.ref b), .unset] [(.ref b)])) rfl rfl (hb hby d_qs_1)
  refine Go.by (T' := T1) (f' := (mkF m 4 #[.val (.ref a), .val (.ref b), .unset] [(.int (0 : Int32))])) (st1) ?_
  refine Go.by (T' := T1) (f' := (mkF m 41 #[.val (.ref a), .val (.ref b), .unset] [])) (fun _ k => XS.ifYes X1.here hx rfl (pc0 := 4) (pc' := 41) rfl (hb hby d_qs_4) rfl ((if0 _ _).trans (teq (by decide : (0 : Int32) = (0 : Int32))).1) (by decide) (by decide) k) ?_
  refine Go.by (T' := T1) (f' := (mkF m 42 #[.val (.ref a), .val (.ref b), .unset] [(.int (0 : Int32))])) (fun _ k => XS.iconst X1.here hx rfl (hb hby d_qs_41) k) ?_
  obtain ⟨fs, hr, hrun, hended, hW, hsame⟩ := X1.leave (v := some (.int (0 : Int32))) (fun h => by rw [Bd.returns] at h; cases h)
  refine ⟨_, _, retN X1 hx (t := .boolean) Bd.returns (by simp) (hb hby d_qs_42) hr, hrun, hended, _, _, rfl, ?_, ⟨_, rfl⟩, hW, hsame.mono (by decide) (by decide)⟩
  show Qpure (some (.int 0)) h0 n0 (some (.int (0 : Int32))) T1.heap _
  rw [e1]
  exact ⟨rfl, N, rfl⟩

theorem own_12 {a b : Int32} (h1 : ¬ (1 : Int32) + (a &&& (1 : Int32)) = 1) (h2 : ¬ (1 : Int32) + (b &&& (1 : Int32)) = 1) : (1 : Int32) + (a &&& (1 : Int32)) = (1 : Int32) + (b &&& (1 : Int32)) := by
  have k : ∀ v : Int32, ¬ (1 : Int32) + (v &&& (1 : Int32)) = 1 → (v &&& (1 : Int32)) = 1 := fun v h => by
    have e := Jvm.Kit.i32_mask v 1 (k := 1) (by decide) (by decide)
    rcases (show (v &&& (1 : Int32)).toInt = 0 ∨ (v &&& (1 : Int32)).toInt = 1 by omega) with q | q
    · exact absurd (by rw [show (v &&& (1 : Int32)) = 0 from Int32.toInt_inj.mp q]; rfl) h
    · exact Int32.toInt_inj.mp q
  rw [k a h1, k b h2]
theorem pn_rm1 : plainFor (⟨"com/example/honest_replica/honestreplica/model/EndpointEqualsPinLaw", "law", "(IIIIII)Z"⟩ : MethodName) = true := plainFor_of_name (by first | (simp [plainName, overriddenIn]; done) | decide +kernel)
theorem pd_rm1_0 : parseMethodDescriptor "(I)C" = some ⟨[.int], some .char⟩ := by decide +kernel
theorem pd_rm1_1 : parseMethodDescriptor "([C)V" = some ⟨[(.array .char)], none⟩ := by decide +kernel
theorem pd_rm1_2 : parseMethodDescriptor "(Ljava/lang/String;I)V" = some ⟨[(.object "java/lang/String"), .int], none⟩ := by decide +kernel
theorem pd_rm1_3 : parseMethodDescriptor "(Ljava/lang/Object;)Z" = some ⟨[(.object "java/lang/Object")], some .boolean⟩ := by decide +kernel
theorem pd_rm1_4 : parseMethodDescriptor "(I)Ljava/lang/Integer;" = some ⟨[.int], some (.object "java/lang/Integer")⟩ := by decide +kernel
theorem ef_rm1 (m : MethodId) (x0 : Int32) (x1 : Int32) (x2 : Int32) (x3 : Int32) (x4 : Int32) (x5 : Int32) : entryFrame m #[(.int x0), (.int x1), (.int x2), (.int x3), (.int x4), (.int x5)] maxLocals = mkF m 0 #[.val (.int x0), .val (.int x1), .val (.int x2), .val (.int x3), .val (.int x4), .val (.int x5), .unset, .unset, .unset, .unset, .unset, .unset, .unset, .unset, .unset, .unset, .unset, .unset, .unset, .unset, .unset, .unset, .unset, .unset] [] := by first | (simp [entryFrame, mkF, argsToLocals, Value.category, maxLocals]; done) | rfl
set_option maxRecDepth 65536 in
set_option maxHeartbeats 40000000 in
theorem rm1 (l : Launch) (Z : State) (a0 : Array Value) (hw : ∀ d ∈ tables_1, d.before a0 Z = true) (ws : List Jvm.Cond) (z0 z1 z2 z3 z4 z5 : Int32)  (wc : Addr)  (cl : Cell)  (zc : Int32) (hS : Sf Z wc cl zc) (h0 : Heap) (n0 : Nat) (O : Old Z n0 h0)  :
    MetFree l x (head1 (Jvm.Cond.code x code maxLocals ret :: ws) room_1) (fun as_ U => as_ = #[(.int z0), (.int z1), (.int z2), (.int z3), (.int z4), (.int z5)] ∧ Z.Warmed39 U.vm ∧ U.heap = h0) (fun _ _ _ _ _ => True) (fun _ U o U' => ∃ v L, o = .returned v ∧ Q1 n0 v U'.heap L ∧ FrameEnd U o U' L 32 128) := by
  refine MetFree.of_bodySF pn_rm1 hisR ?_
  intro p e s m args below meth c s₁ Bd hml0 hP hK
  obtain ⟨rfl, hZ, hh⟩ := hP
  have hx := Bd.exec
  have hby := Bd.bytes
  have hml : c.maxLocals = 24 := hml0
  have hown : s.vm.findClass "com/example/honest_replica/honestreplica/model/EndpointEqualsPinLaw" = some m.cls := findClass_of_methodNamed Bd.named
  have hnm := (name_of_methodNamed Bd.named Bd.method).1
  have X0 : Stand p l e room_1 s m #[(.int z0), (.int z1), (.int z2), (.int z3), (.int z4), (.int z5)] below meth c s₁ [] 0 0 := Stand.of_body Bd
  have e0 : s₁.heap = h0 := by rw [← hh, Bd.state]; rfl
  have N := Fr.nil n0
  have K : Keep h0 h0 [] := Keep.refl _ _
  refine Go.by (T' := s₁) (f' := (mkF m 0 #[.val (.int z0), .val (.int z1), .val (.int z2), .val (.int z3), .val (.int z4), .val (.int z5), .unset, .unset, .unset, .unset, .unset, .unset, .unset, .unset, .unset, .unset, .unset, .unset, .unset, .unset, .unset, .unset, .unset, .unset] [])) (fun _ k => castTop (ef_rm1 m z0 z1 z2 z3 z4 z5) k) ?_
  have hws : ∀ d ∈ StrChars.Road.words, d.before a0 Z = true := fun d hd => hw d ((by decide +kernel : ∀ d ∈ StrChars.Road.words, d ∈ tables_1) d hd)
  let LL1 : Array Slot := #[.val (.int z0), .val (.int z1), .val (.int z2), .val (.int z3), .val (.int z4), .val (.int z5), .unset, .unset, .unset, .unset, .unset, .unset, .unset, .unset, .unset, .unset, .unset, .unset, .unset, .unset, .unset, .unset, .unset, .unset]
  refine Go.by (T' := s₁) (f' := (mkF m 1 LL1 [(.int (1 : Int32))])) (fun _ k => XS.iconst X0.here hx rfl (hb hby at_0) k) ?_
  refine Go.by (T' := s₁) (f' := (mkF m 2 LL1 [(.int z0), (.int (1 : Int32))])) (fun _ k => XS.iloadN X0.here hx rfl (hb hby at_1) rfl k) ?_
  refine Go.by (T' := s₁) (f' := (mkF m 3 LL1 [(.int (1 : Int32)), (.int z0), (.int (1 : Int32))])) (fun _ k => XS.iconst X0.here hx rfl (hb hby at_2) k) ?_
  refine Go.by (T' := s₁) (f' := (mkF m 4 LL1 [(.int (z0 &&& (1 : Int32))), (.int (1 : Int32))])) (fun _ k => XS.iand X0.here hx rfl (hb hby at_3) rfl k) ?_
  refine Go.by (T' := s₁) (f' := (mkF m 5 LL1 [(.int ((1 : Int32) + (z0 &&& (1 : Int32))))])) (fun _ k => XS.iadd X0.here hx rfl (hb hby at_4) rfl k) ?_
  let LL2 : Array Slot := #[.val (.int z0), .val (.int z1), .val (.int z2), .val (.int z3), .val (.int z4), .val (.int z5), .val (.int ((1 : Int32) + (z0 &&& (1 : Int32)))), .unset, .unset, .unset, .unset, .unset, .unset, .unset, .unset, .unset, .unset, .unset, .unset, .unset, .unset, .unset, .unset, .unset]
  refine Go.by (T' := s₁) (f' := (mkF m 7 LL2 [])) (fun _ k => XS.istore X0.here hx rfl (hb hby at_5) rfl (l' := LL2) rfl k) ?_
  refine Go.by (T' := s₁) (f' := (mkF m 8 LL2 [(.int (1 : Int32))])) (fun _ k => XS.iconst X0.here hx rfl (hb hby at_7) k) ?_
  refine Go.by (T' := s₁) (f' := (mkF m 9 LL2 [(.int z1), (.int (1 : Int32))])) (fun _ k => XS.iloadN X0.here hx rfl (hb hby at_8) rfl k) ?_
  refine Go.by (T' := s₁) (f' := (mkF m 10 LL2 [(.int (1 : Int32)), (.int z1), (.int (1 : Int32))])) (fun _ k => XS.iconst X0.here hx rfl (hb hby at_9) k) ?_
  refine Go.by (T' := s₁) (f' := (mkF m 11 LL2 [(.int (z1 &&& (1 : Int32))), (.int (1 : Int32))])) (fun _ k => XS.iand X0.here hx rfl (hb hby at_10) rfl k) ?_
  refine Go.by (T' := s₁) (f' := (mkF m 12 LL2 [(.int ((1 : Int32) + (z1 &&& (1 : Int32))))])) (fun _ k => XS.iadd X0.here hx rfl (hb hby at_11) rfl k) ?_
  let LL3 : Array Slot := #[.val (.int z0), .val (.int z1), .val (.int z2), .val (.int z3), .val (.int z4), .val (.int z5), .val (.int ((1 : Int32) + (z0 &&& (1 : Int32)))), .val (.int ((1 : Int32) + (z1 &&& (1 : Int32)))), .unset, .unset, .unset, .unset, .unset, .unset, .unset, .unset, .unset, .unset, .unset, .unset, .unset, .unset, .unset, .unset]
  refine Go.by (T' := s₁) (f' := (mkF m 14 LL3 [])) (fun _ k => XS.istore X0.here hx rfl (hb hby at_12) rfl (l' := LL3) rfl k) ?_
  refine Go.by (T' := s₁) (f' := (mkF m 15 LL3 [(.int z2)])) (fun _ k => XS.iloadN X0.here hx rfl (hb hby at_14) rfl k) ?_
  obtain ⟨v4, _, ⟨T4, L4, k4, n4⟩, -, X4, ⟨Lc4, hQ4, l4, y4, z4⟩, st4⟩ := Jvm.LawKit.callS X0 hx (y := (⟨"com/example/honest_replica/honestreplica/model/EndpointEqualsPinLaw", "ch", "(I)C"⟩ : MethodName)) hown (mvT hZ (hw _ (List.mem_of_getElem? (i := 0) rfl))) (mvT hZ (hw _ (List.mem_of_getElem? (i := 1) rfl))) (mvT hZ (hw _ (List.mem_of_getElem? (i := 2) rfl))) (mvT hZ (hw _ (List.mem_of_getElem? (i := 3) rfl))) (by decide) (backOf (W := 0) (rm_ch l Z a0 hw [] z2 h0 n0 O) hZ (hw _ (List.mem_of_getElem? (i := 3) rfl)) (hw _ (List.mem_of_getElem? (i := 2) rfl)) (by decide) (by decide)) (g := (mkF m 15 LL3 [(.int z2)])) rfl (by rw [hml]; rfl) (argsL := [(.int z2)]) (rest := []) (lenOf pd_rm1_0 rfl) rfl (by show 2 * 0 + _ ≤ _; exact Nat.le_of_eq rfl) (hb hby at_15) (fun _ _ => ⟨rfl, e0, (by decide : 0 + 0 ≤ _), (by decide : 0 + 0 ≤ _)⟩)
  dsimp only [Pt.U, Pt.locs, Pt.cells, Pt.slots] at X4 l4 y4 z4 st4 hQ4
  subst l4 y4 z4
  obtain ⟨c4, rfl, hb4, Nq4, e4⟩ := hQ4
  replace N := Fr.app N Nq4
  refine Go.by (T' := T4) (f' := (mkF m 18 LL3 [(.int c4)])) (st4) ?_
  let LL5 : Array Slot := #[.val (.int z0), .val (.int z1), .val (.int z2), .val (.int z3), .val (.int z4), .val (.int z5), .val (.int ((1 : Int32) + (z0 &&& (1 : Int32)))), .val (.int ((1 : Int32) + (z1 &&& (1 : Int32)))), .val (.int c4), .unset, .unset, .unset, .unset, .unset, .unset, .unset, .unset, .unset, .unset, .unset, .unset, .unset, .unset, .unset]
  refine Go.by (T' := T4) (f' := (mkF m 20 LL5 [])) (fun _ k => XS.istore X4.here hx rfl (hb hby at_18) rfl (l' := LL5) rfl k) ?_
  refine Go.by (T' := T4) (f' := (mkF m 21 LL5 [(.int z2)])) (fun _ k => XS.iloadN X4.here hx rfl (hb hby at_20) rfl k) ?_
  refine Go.by (T' := T4) (f' := (mkF m 23 LL5 [(.int (16 : Int32)), (.int z2)])) (fun _ k => XS.bipush X4.here hx rfl (hb hby at_21) k) ?_
  refine Go.by (T' := T4) (f' := (mkF m 24 LL5 [(.int ((z2.toUInt32 >>> ((16 : Int32) &&& 31).toUInt32).toInt32))])) (fun _ k => XS.iushr X4.here hx rfl (hb hby at_23) rfl k) ?_
  obtain ⟨v6, _, ⟨T6, L6, k6, n6⟩, -, X6, ⟨Lc6, hQ6, l6, y6, z6⟩, st6⟩ := Jvm.LawKit.callS X4 hx (y := (⟨"com/example/honest_replica/honestreplica/model/EndpointEqualsPinLaw", "ch", "(I)C"⟩ : MethodName)) hown (mvT hZ (hw _ (List.mem_of_getElem? (i := 0) rfl))) (mvT hZ (hw _ (List.mem_of_getElem? (i := 1) rfl))) (mvT hZ (hw _ (List.mem_of_getElem? (i := 2) rfl))) (mvT hZ (hw _ (List.mem_of_getElem? (i := 3) rfl))) (by decide) (backOf (W := 0) (rm_ch l Z a0 hw [] ((z2.toUInt32 >>> ((16 : Int32) &&& 31).toUInt32).toInt32) h0 n0 O) hZ (hw _ (List.mem_of_getElem? (i := 3) rfl)) (hw _ (List.mem_of_getElem? (i := 2) rfl)) (by decide) (by decide)) (g := (mkF m 24 LL5 [(.int ((z2.toUInt32 >>> ((16 : Int32) &&& 31).toUInt32).toInt32))])) rfl (by rw [hml]; rfl) (argsL := [(.int ((z2.toUInt32 >>> ((16 : Int32) &&& 31).toUInt32).toInt32))]) (rest := []) (lenOf pd_rm1_0 rfl) rfl (by show 2 * 0 + _ ≤ _; exact Nat.le_of_eq rfl) (hb hby at_24) (fun _ _ => ⟨rfl, e4, (by decide : 0 + 0 ≤ _), (by decide : 0 + 0 ≤ _)⟩)
  dsimp only [Pt.U, Pt.locs, Pt.cells, Pt.slots] at X6 l6 y6 z6 st6 hQ6
  subst l6 y6 z6
  obtain ⟨c6, rfl, hb6, Nq6, e6⟩ := hQ6
  replace N := Fr.app N Nq6
  refine Go.by (T' := T6) (f' := (mkF m 27 LL5 [(.int c6)])) (st6) ?_
  let LL7 : Array Slot := #[.val (.int z0), .val (.int z1), .val (.int z2), .val (.int z3), .val (.int z4), .val (.int z5), .val (.int ((1 : Int32) + (z0 &&& (1 : Int32)))), .val (.int ((1 : Int32) + (z1 &&& (1 : Int32)))), .val (.int c4), .val (.int c6), .unset, .unset, .unset, .unset, .unset, .unset, .unset, .unset, .unset, .unset, .unset, .unset, .unset, .unset]
  refine Go.by (T' := T6) (f' := (mkF m 29 LL7 [])) (fun _ k => XS.istore X6.here hx rfl (hb hby at_27) rfl (l' := LL7) rfl k) ?_
  refine Go.by (T' := T6) (f' := (mkF m 30 LL7 [(.int z3)])) (fun _ k => XS.iloadN X6.here hx rfl (hb hby at_29) rfl k) ?_
  obtain ⟨v8, _, ⟨T8, L8, k8, n8⟩, -, X8, ⟨Lc8, hQ8, l8, y8, z8⟩, st8⟩ := Jvm.LawKit.callS X6 hx (y := (⟨"com/example/honest_replica/honestreplica/model/EndpointEqualsPinLaw", "ch", "(I)C"⟩ : MethodName)) hown (mvT hZ (hw _ (List.mem_of_getElem? (i := 0) rfl))) (mvT hZ (hw _ (List.mem_of_getElem? (i := 1) rfl))) (mvT hZ (hw _ (List.mem_of_getElem? (i := 2) rfl))) (mvT hZ (hw _ (List.mem_of_getElem? (i := 3) rfl))) (by decide) (backOf (W := 0) (rm_ch l Z a0 hw [] z3 h0 n0 O) hZ (hw _ (List.mem_of_getElem? (i := 3) rfl)) (hw _ (List.mem_of_getElem? (i := 2) rfl)) (by decide) (by decide)) (g := (mkF m 30 LL7 [(.int z3)])) rfl (by rw [hml]; rfl) (argsL := [(.int z3)]) (rest := []) (lenOf pd_rm1_0 rfl) rfl (by show 2 * 0 + _ ≤ _; exact Nat.le_of_eq rfl) (hb hby at_30) (fun _ _ => ⟨rfl, e6, (by decide : 0 + 0 ≤ _), (by decide : 0 + 0 ≤ _)⟩)
  dsimp only [Pt.U, Pt.locs, Pt.cells, Pt.slots] at X8 l8 y8 z8 st8 hQ8
  subst l8 y8 z8
  obtain ⟨c8, rfl, hb8, Nq8, e8⟩ := hQ8
  replace N := Fr.app N Nq8
  refine Go.by (T' := T8) (f' := (mkF m 33 LL7 [(.int c8)])) (st8) ?_
  let LL9 : Array Slot := #[.val (.int z0), .val (.int z1), .val (.int z2), .val (.int z3), .val (.int z4), .val (.int z5), .val (.int ((1 : Int32) + (z0 &&& (1 : Int32)))), .val (.int ((1 : Int32) + (z1 &&& (1 : Int32)))), .val (.int c4), .val (.int c6), .val (.int c8), .unset, .unset, .unset, .unset, .unset, .unset, .unset, .unset, .unset, .unset, .unset, .unset, .unset]
  refine Go.by (T' := T8) (f' := (mkF m 35 LL9 [])) (fun _ k => XS.istore X8.here hx rfl (hb hby at_33) rfl (l' := LL9) rfl k) ?_
  refine Go.by (T' := T8) (f' := (mkF m 36 LL9 [(.int z3)])) (fun _ k => XS.iloadN X8.here hx rfl (hb hby at_35) rfl k) ?_
  refine Go.by (T' := T8) (f' := (mkF m 38 LL9 [(.int (16 : Int32)), (.int z3)])) (fun _ k => XS.bipush X8.here hx rfl (hb hby at_36) k) ?_
  refine Go.by (T' := T8) (f' := (mkF m 39 LL9 [(.int ((z3.toUInt32 >>> ((16 : Int32) &&& 31).toUInt32).toInt32))])) (fun _ k => XS.iushr X8.here hx rfl (hb hby at_38) rfl k) ?_
  obtain ⟨v10, _, ⟨T10, L10, k10, n10⟩, -, X10, ⟨Lc10, hQ10, l10, y10, z10⟩, st10⟩ := Jvm.LawKit.callS X8 hx (y := (⟨"com/example/honest_replica/honestreplica/model/EndpointEqualsPinLaw", "ch", "(I)C"⟩ : MethodName)) hown (mvT hZ (hw _ (List.mem_of_getElem? (i := 0) rfl))) (mvT hZ (hw _ (List.mem_of_getElem? (i := 1) rfl))) (mvT hZ (hw _ (List.mem_of_getElem? (i := 2) rfl))) (mvT hZ (hw _ (List.mem_of_getElem? (i := 3) rfl))) (by decide) (backOf (W := 0) (rm_ch l Z a0 hw [] ((z3.toUInt32 >>> ((16 : Int32) &&& 31).toUInt32).toInt32) h0 n0 O) hZ (hw _ (List.mem_of_getElem? (i := 3) rfl)) (hw _ (List.mem_of_getElem? (i := 2) rfl)) (by decide) (by decide)) (g := (mkF m 39 LL9 [(.int ((z3.toUInt32 >>> ((16 : Int32) &&& 31).toUInt32).toInt32))])) rfl (by rw [hml]; rfl) (argsL := [(.int ((z3.toUInt32 >>> ((16 : Int32) &&& 31).toUInt32).toInt32))]) (rest := []) (lenOf pd_rm1_0 rfl) rfl (by show 2 * 0 + _ ≤ _; exact Nat.le_of_eq rfl) (hb hby at_39) (fun _ _ => ⟨rfl, e8, (by decide : 0 + 0 ≤ _), (by decide : 0 + 0 ≤ _)⟩)
  dsimp only [Pt.U, Pt.locs, Pt.cells, Pt.slots] at X10 l10 y10 z10 st10 hQ10
  subst l10 y10 z10
  obtain ⟨c10, rfl, hb10, Nq10, e10⟩ := hQ10
  replace N := Fr.app N Nq10
  refine Go.by (T' := T10) (f' := (mkF m 42 LL9 [(.int c10)])) (st10) ?_
  let LL11 : Array Slot := #[.val (.int z0), .val (.int z1), .val (.int z2), .val (.int z3), .val (.int z4), .val (.int z5), .val (.int ((1 : Int32) + (z0 &&& (1 : Int32)))), .val (.int ((1 : Int32) + (z1 &&& (1 : Int32)))), .val (.int c4), .val (.int c6), .val (.int c8), .val (.int c10), .unset, .unset, .unset, .unset, .unset, .unset, .unset, .unset, .unset, .unset, .unset, .unset]
  refine Go.by (T' := T10) (f' := (mkF m 44 LL11 [])) (fun _ k => XS.istore X10.here hx rfl (hb hby at_42) rfl (l' := LL11) rfl k) ?_
  refine Go.by (T' := T10) (f' := (mkF m 46 LL11 [(.int ((1 : Int32) + (z0 &&& (1 : Int32))))])) (fun _ k => XS.iload X10.here hx rfl (hb hby at_44) rfl k) ?_
  refine Go.by (T' := T10) (f' := (mkF m 47 LL11 [(.int (1 : Int32)), (.int ((1 : Int32) + (z0 &&& (1 : Int32))))])) (fun _ k => XS.iconst X10.here hx rfl (hb hby at_46) k) ?_
  by_cases hc47_12 : ((1 : Int32) + (z0 &&& (1 : Int32))) = (1 : Int32)
  · skip
    refine Go.by (T' := T10) (f' := (mkF m 50 LL11 [])) (fun _ k => XS.icmpNo X10.here hx rfl (hb hby at_47) rfl (teq hc47_12).2 k) ?_
    refine Go.by (T' := T10) (f' := (mkF m 51 LL11 [(.int (1 : Int32))])) (fun _ k => XS.iconst X10.here hx rfl (hb hby at_50) k) ?_
    obtain ⟨T13, h13, k13, X13, e13, E13, A13, st13⟩ := newP X10 hx hZ (hw _ (List.mem_of_getElem? (i := 4) rfl)) e10 (g := (mkF m 51 LL11 [(.int (1 : Int32))])) rfl (hb hby at_51) rfl (by decide) (cap := 1) (by decide) (by decide) (by decide) (by decide)
    obtain ⟨b13, g13⟩ : ∃ z, z = h0.size := ⟨_, rfl⟩
    rw [← g13] at A13 st13
    have g_b13 : n0 ≤ b13 := Nat.le_trans (Old.le O) (Nat.le_of_eq g13.symm)
    have sz_b13 : h0.size ≤ b13 := Nat.le_trans K.1 (Nat.le_of_eq g13.symm)
    replace O := O.ext E13
    replace K := K.ext E13
    have V_b13 : Arv Z h13 b13 k13 .char (1 : Int32) [(.int (0 : Int32))] (.int (0 : Int32)) := (Arv.new A13 (by decide)).pad (pad_rep [] (.int (0 : Int32)) 1)
    refine Go.by (T' := T13) (f' := (mkF m 53 LL11 [(.ref b13)])) (st13) ?_
    refine Go.by (T' := T13) (f' := (mkF m 54 LL11 [(.ref b13), (.ref b13)])) (fun _ k => XS.dup X13.here hx rfl (hb hby at_53) rfl rfl k) ?_
    refine Go.by (T' := T13) (f' := (mkF m 55 LL11 [(.int (0 : Int32)), (.ref b13), (.ref b13)])) (fun _ k => XS.iconst X13.here hx rfl (hb hby at_54) k) ?_
    refine Go.by (T' := T13) (f' := (mkF m 57 LL11 [(.int c4), (.int (0 : Int32)), (.ref b13), (.ref b13)])) (fun _ k => XS.iload X13.here hx rfl (hb hby at_55) rfl k) ?_
    obtain ⟨cl14, Ar14, q14, S14, N14', H14, G14⟩ := V_b13
    obtain ⟨T14, h14, X14, e14, W14, st14⟩ := stC X13 hx hZ e13 Ar14 (j := (0 : Int32)) (inb_of S14 ⟨by decide, by decide⟩) (g := (mkF m 57 LL11 [(.int c4), (.int (0 : Int32)), (.ref b13), (.ref b13)])) rfl rfl (hb hby at_57)
    replace V_b13 := Arv.set Ar14 q14 S14 N14' H14 G14 (fits_nar_char _) W14 0 rfl (Nat.le_of_ble_eq_true rfl)
    change Arv Z h14 b13 k13 .char (1 : Int32) [(.int (nar .char c4))] _ at V_b13
    rw [own_nar c4 hb4] at V_b13
    replace O := O.wr W14 g_b13
    replace K := K.wr W14 (Or.inr sz_b13)
    replace N := Fr.snoc X14 N g_b13
    refine Go.by (T' := T14) (f' := (mkF m 58 LL11 [(.ref b13)])) (st14) ?_
    refine Go.by (T' := T14) (f' := (mkF m 74 LL11 [(.ref b13)])) (fun _ k => XS.goto X14.here hx rfl (pc0 := 58) (pc' := 74) rfl (hb hby at_58) (by decide) (by decide) k) ?_
    let LL15 : Array Slot := #[.val (.int z0), .val (.int z1), .val (.int z2), .val (.int z3), .val (.int z4), .val (.int z5), .val (.int ((1 : Int32) + (z0 &&& (1 : Int32)))), .val (.int ((1 : Int32) + (z1 &&& (1 : Int32)))), .val (.int c4), .val (.int c6), .val (.int c8), .val (.int c10), .val (.ref b13), .unset, .unset, .unset, .unset, .unset, .unset, .unset, .unset, .unset, .unset, .unset]
    refine Go.by (T' := T14) (f' := (mkF m 76 LL15 [])) (fun _ k => XS.astore X14.here hx rfl (hb hby at_74) rfl rfl (l' := LL15) rfl k) ?_
    refine Go.by (T' := T14) (f' := (mkF m 78 LL15 [(.int ((1 : Int32) + (z1 &&& (1 : Int32))))])) (fun _ k => XS.iload X14.here hx rfl (hb hby at_76) rfl k) ?_
    refine Go.by (T' := T14) (f' := (mkF m 79 LL15 [(.int (1 : Int32)), (.int ((1 : Int32) + (z1 &&& (1 : Int32))))])) (fun _ k => XS.iconst X14.here hx rfl (hb hby at_78) k) ?_
    by_cases hc79_16 : ((1 : Int32) + (z1 &&& (1 : Int32))) = (1 : Int32)
    · skip
      refine Go.by (T' := T14) (f' := (mkF m 82 LL15 [])) (fun _ k => XS.icmpNo X14.here hx rfl (hb hby at_79) rfl (teq hc79_16).2 k) ?_
      refine Go.by (T' := T14) (f' := (mkF m 83 LL15 [(.int (1 : Int32))])) (fun _ k => XS.iconst X14.here hx rfl (hb hby at_82) k) ?_
      obtain ⟨T17, h17, k17, X17, e17, E17, A17, st17⟩ := newP X14 hx hZ (hw _ (List.mem_of_getElem? (i := 4) rfl)) e14 (g := (mkF m 83 LL15 [(.int (1 : Int32))])) rfl (hb hby at_83) rfl (by decide) (cap := 1) (by decide) (by decide) (by decide) (by decide)
      obtain ⟨b17, g17⟩ : ∃ z, z = h14.size := ⟨_, rfl⟩
      rw [← g17] at A17 st17
      have ne_b13_b17 : b13 ≠ b17 := Nat.ne_of_lt (Nat.lt_of_lt_of_le V_b13.lt (Nat.le_of_eq g17.symm))
      have g_b17 : n0 ≤ b17 := Nat.le_trans (Old.le O) (Nat.le_of_eq g17.symm)
      have sz_b17 : h0.size ≤ b17 := Nat.le_trans K.1 (Nat.le_of_eq g17.symm)
      replace V_b13 := V_b13.ext E17
      replace O := O.ext E17
      replace K := K.ext E17
      have V_b17 : Arv Z h17 b17 k17 .char (1 : Int32) [(.int (0 : Int32))] (.int (0 : Int32)) := (Arv.new A17 (by decide)).pad (pad_rep [] (.int (0 : Int32)) 1)
      refine Go.by (T' := T17) (f' := (mkF m 85 LL15 [(.ref b17)])) (st17) ?_
      refine Go.by (T' := T17) (f' := (mkF m 86 LL15 [(.ref b17), (.ref b17)])) (fun _ k => XS.dup X17.here hx rfl (hb hby at_85) rfl rfl k) ?_
      refine Go.by (T' := T17) (f' := (mkF m 87 LL15 [(.int (0 : Int32)), (.ref b17), (.ref b17)])) (fun _ k => XS.iconst X17.here hx rfl (hb hby at_86) k) ?_
      refine Go.by (T' := T17) (f' := (mkF m 89 LL15 [(.int c8), (.int (0 : Int32)), (.ref b17), (.ref b17)])) (fun _ k => XS.iload X17.here hx rfl (hb hby at_87) rfl k) ?_
      obtain ⟨cl18, Ar18, q18, S18, N18', H18, G18⟩ := V_b17
      obtain ⟨T18, h18, X18, e18, W18, st18⟩ := stC X17 hx hZ e17 Ar18 (j := (0 : Int32)) (inb_of S18 ⟨by decide, by decide⟩) (g := (mkF m 89 LL15 [(.int c8), (.int (0 : Int32)), (.ref b17), (.ref b17)])) rfl rfl (hb hby at_89)
      replace V_b13 := V_b13.other W18 ne_b13_b17
      replace V_b17 := Arv.set Ar18 q18 S18 N18' H18 G18 (fits_nar_char _) W18 0 rfl (Nat.le_of_ble_eq_true rfl)
      change Arv Z h18 b17 k17 .char (1 : Int32) [(.int (nar .char c8))] _ at V_b17
      rw [own_nar c8 hb8] at V_b17
      replace O := O.wr W18 g_b17
      replace K := K.wr W18 (Or.inr sz_b17)
      replace N := Fr.snoc X18 N g_b17
      refine Go.by (T' := T18) (f' := (mkF m 90 LL15 [(.ref b17)])) (st18) ?_
      refine Go.by (T' := T18) (f' := (mkF m 106 LL15 [(.ref b17)])) (fun _ k => XS.goto X18.here hx rfl (pc0 := 90) (pc' := 106) rfl (hb hby at_90) (by decide) (by decide) k) ?_
      let LL19 : Array Slot := #[.val (.int z0), .val (.int z1), .val (.int z2), .val (.int z3), .val (.int z4), .val (.int z5), .val (.int ((1 : Int32) + (z0 &&& (1 : Int32)))), .val (.int ((1 : Int32) + (z1 &&& (1 : Int32)))), .val (.int c4), .val (.int c6), .val (.int c8), .val (.int c10), .val (.ref b13), .val (.ref b17), .unset, .unset, .unset, .unset, .unset, .unset, .unset, .unset, .unset, .unset]
      refine Go.by (T' := T18) (f' := (mkF m 108 LL19 [])) (fun _ k => XS.astore X18.here hx rfl (hb hby at_106) rfl rfl (l' := LL19) rfl k) ?_
      refine Go.by (T' := T18) (f' := (mkF m 110 LL19 [(.int z4)])) (fun _ k => XS.iload X18.here hx rfl (hb hby at_108) rfl k) ?_
      refine Go.by (T' := T18) (f' := (mkF m 112 LL19 [(.int (65535 : Int32)), (.int z4)])) (X18.ldcInt hx hown (mvT hZ (hw _ (List.mem_of_getElem? (i := 5) rfl))) (g := (mkF m 110 LL19 [(.int z4)])) rfl (hb hby at_110)) ?_
      refine Go.by (T' := T18) (f' := (mkF m 113 LL19 [(.int (z4 &&& (65535 : Int32)))])) (fun _ k => XS.iand X18.here hx rfl (hb hby at_112) rfl k) ?_
      let LL20 : Array Slot := #[.val (.int z0), .val (.int z1), .val (.int z2), .val (.int z3), .val (.int z4), .val (.int z5), .val (.int ((1 : Int32) + (z0 &&& (1 : Int32)))), .val (.int ((1 : Int32) + (z1 &&& (1 : Int32)))), .val (.int c4), .val (.int c6), .val (.int c8), .val (.int c10), .val (.ref b13), .val (.ref b17), .val (.int (z4 &&& (65535 : Int32))), .unset, .unset, .unset, .unset, .unset, .unset, .unset, .unset, .unset]
      refine Go.by (T' := T18) (f' := (mkF m 115 LL20 [])) (fun _ k => XS.istore X18.here hx rfl (hb hby at_113) rfl (l' := LL20) rfl k) ?_
      refine Go.by (T' := T18) (f' := (mkF m 117 LL20 [(.int z5)])) (fun _ k => XS.iload X18.here hx rfl (hb hby at_115) rfl k) ?_
      refine Go.by (T' := T18) (f' := (mkF m 118 LL20 [(.int (3 : Int32)), (.int z5)])) (fun _ k => XS.iconst X18.here hx rfl (hb hby at_117) k) ?_
      refine Go.by (T' := T18) (f' := (mkF m 119 LL20 [(.int (z5 &&& (3 : Int32)))])) (fun _ k => XS.iand X18.here hx rfl (hb hby at_118) rfl k) ?_
      let LL21 : Array Slot := #[.val (.int z0), .val (.int z1), .val (.int z2), .val (.int z3), .val (.int z4), .val (.int z5), .val (.int ((1 : Int32) + (z0 &&& (1 : Int32)))), .val (.int ((1 : Int32) + (z1 &&& (1 : Int32)))), .val (.int c4), .val (.int c6), .val (.int c8), .val (.int c10), .val (.ref b13), .val (.ref b17), .val (.int (z4 &&& (65535 : Int32))), .val (.int (z5 &&& (3 : Int32))), .unset, .unset, .unset, .unset, .unset, .unset, .unset, .unset]
      refine Go.by (T' := T18) (f' := (mkF m 121 LL21 [])) (fun _ k => XS.istore X18.here hx rfl (hb hby at_119) rfl (l' := LL21) rfl k) ?_
      have key : ∀ p2 : Int32, (¬ p2 < 0 ∧ ¬ (65535 : Int32) < p2) → Go p e below (fun o U' => ∃ v L, o = .returned v ∧ Q1 n0 v U'.heap L ∧ FrameEnd s o U' L 32 128) T18 (mkF m 165 #[.val (.int z0), .val (.int z1), .val (.int z2), .val (.int z3), .val (.int z4), .val (.int z5), .val (.int ((1 : Int32) + (z0 &&& (1 : Int32)))), .val (.int ((1 : Int32) + (z1 &&& (1 : Int32)))), .val (.int c4), .val (.int c6), .val (.int c8), .val (.int c10), .val (.ref b13), .val (.ref b17), .val (.int (z4 &&& (65535 : Int32))), .val (.int (z5 &&& (3 : Int32))), .val (.int p2), .unset, .unset, .unset, .unset, .unset, .unset, .unset] []) := by
        intro p2 hp2
        let LL22 : Array Slot := #[.val (.int z0), .val (.int z1), .val (.int z2), .val (.int z3), .val (.int z4), .val (.int z5), .val (.int ((1 : Int32) + (z0 &&& (1 : Int32)))), .val (.int ((1 : Int32) + (z1 &&& (1 : Int32)))), .val (.int c4), .val (.int c6), .val (.int c8), .val (.int c10), .val (.ref b13), .val (.ref b17), .val (.int (z4 &&& (65535 : Int32))), .val (.int (z5 &&& (3 : Int32))), .val (.int p2), .unset, .unset, .unset, .unset, .unset, .unset, .unset]
        obtain ⟨T23, h23, X23, e23, E23, A23, D23, -, st23⟩ := newO X18 hx hZ hown (hw _ (List.mem_of_getElem? (i := 6) rfl)) (hw _ (List.mem_of_getElem? (i := 7) rfl)) (hw _ (List.mem_of_getElem? (i := 8) rfl)) e18 (g := (mkF m 165 LL22 [])) rfl (hb hby at_165) (by decide) (by decide)
        obtain ⟨b23, g23⟩ : ∃ z, z = h18.size := ⟨_, rfl⟩
        rw [← g23] at A23 D23 st23
        have ne_b13_b23 : b13 ≠ b23 := Nat.ne_of_lt (Nat.lt_of_lt_of_le V_b13.lt (Nat.le_of_eq g23.symm))
        have ne_b17_b23 : b17 ≠ b23 := Nat.ne_of_lt (Nat.lt_of_lt_of_le V_b17.lt (Nat.le_of_eq g23.symm))
        have g_b23 : n0 ≤ b23 := Nat.le_trans (Old.le O) (Nat.le_of_eq g23.symm)
        have sz_b23 : h0.size ≤ b23 := Nat.le_trans K.1 (Nat.le_of_eq g23.symm)
        replace V_b13 := V_b13.ext E23
        replace V_b17 := V_b17.ext E23
        replace O := O.ext E23
        replace K := K.ext E23
        have E_b23 := A23
        have F_coder_b23 : Fld Z h23 b23 "java/lang/String" "coder" "B" (.int (0 : Int32)) := D23 (Or.inr (hw _ (List.mem_of_getElem? (i := 32) rfl))) (ty := .byte) (by decide)
        have F_value_b23 : Fld Z h23 b23 "java/lang/String" "value" "[B" .null := D23 (Or.inr (hw _ (List.mem_of_getElem? (i := 34) rfl))) (ty := (.array .byte)) (by decide)
        refine Go.by (T' := T23) (f' := (mkF m 168 LL22 [(.ref b23)])) (st23) ?_
        refine Go.by (T' := T23) (f' := (mkF m 169 LL22 [(.ref b23), (.ref b23)])) (fun _ k => XS.dup X23.here hx rfl (hb hby at_168) rfl rfl k) ?_
        refine Go.by (T' := T23) (f' := (mkF m 171 LL22 [(.ref b13), (.ref b23), (.ref b23)])) (fun _ k => XS.aload X23.here hx rfl (hb hby at_169) rfl rfl k) ?_
        have hp24 : ∀ c ∈ ([c4] : List Int32), ¬ c < 0 ∧ ¬ (255 : Int32) < c := by
          intro c hc; simp only [List.mem_cons, List.not_mem_nil, or_false] at hc
          rcases hc with rfl
          · exact hb4
        obtain ⟨v24, _, ⟨T24, L24, k24, n24⟩, -, X24, ⟨Lc24, hQ24, l24, y24, z24⟩, st24⟩ := X23.specialBack hx (y := (⟨"java/lang/String", "<init>", "([C)V"⟩ : MethodName)) rfl hown (mvT hZ (hw _ (List.mem_of_getElem? (i := 9) rfl))) (mvT hZ (hw _ (List.mem_of_getElem? (i := 10) rfl))) (mvT hZ (hw _ (List.mem_of_getElem? (i := 11) rfl))) (by decide) (StrChars.Road.backV (W := 1) hZ hws (kI := 4) (hw _ (List.mem_of_getElem? (i := 7) rfl)) (cs := ([c4] : List Int32)) (bs := ([c4] : List Int32).map (fun c => c.toInt8.toInt32)) (n := 1) g_b23 (Old.le O) E_b23 F_value_b23 F_coder_b23 V_b13 (Sta.ext O.2 hS.2.2.2.2.1) hS.2.2.2.2.2.1 rfl rfl (by decide) (by decide) hp24 rfl (by decide) (by decide)) (g := (mkF m 171 LL22 [(.ref b13), (.ref b23), (.ref b23)])) rfl (by rw [hml]; rfl) (Steps.refl _) (a := b23) (argsL := [(.ref b13)]) (rest := [(.ref b23)]) (lenOf pd_rm1_1 rfl) rfl (by show 2 * 0 + _ ≤ _; exact Nat.le_of_eq rfl) (hb hby at_171) (fun _ _ => ⟨rfl, e23, (by decide : 3 + 1 ≤ _), (by decide : 6 + 1 ≤ _)⟩)
        dsimp only [Pt.U, Pt.locs, Pt.cells, Pt.slots] at X24 l24 y24 z24 st24 hQ24
        subst l24 y24 z24
        obtain ⟨rfl, Nq24, K24, -, Gc24, t24, kb24, gt24, szt24, net24, Gv24, Vt24⟩ := hQ24
        replace N := Fr.app N Nq24
        have ne_b13_t24 : b13 ≠ t24 := Nat.ne_of_lt (Nat.lt_of_lt_of_le V_b13.lt szt24)
        have ne_b17_t24 : b17 ≠ t24 := Nat.ne_of_lt (Nat.lt_of_lt_of_le V_b17.lt szt24)
        have ne_b23_t24 : b23 ≠ t24 := Nat.ne_of_lt (Nat.lt_of_lt_of_le E_b23.lt szt24)
        have g_t24 : n0 ≤ t24 := Nat.le_trans (Old.le O) szt24
        have sz_t24 : h0.size ≤ t24 := Nat.le_trans K.1 szt24
        replace V_b13 := V_b13.keep K24 (ninS ne_b13_b23 nin0)
        replace V_b17 := V_b17.keep K24 (ninS ne_b17_b23 nin0)
        replace E_b23 := E_b23.keep K24
        replace O := O.keep K24 (allS g_b23 all0)
        replace K := K.trans K24 (allS (Or.inr sz_b23) all0)
        have hcd24 : StrChars.Road.CodA ([c4] : List Int32) 0 (1 : Int32) ((([c4] : List Int32).map (fun c => c.toInt8.toInt32)).map Value.int) := StrChars.Road.codOf (n := 1) rfl (fun c hc => (hp24 c hc).2)
        refine Go.by (T' := T24) (f' := (mkF m 174 LL22 [(.ref b23)])) (fun _ k => st24.trans k) ?_
        let LL25 : Array Slot := #[.val (.int z0), .val (.int z1), .val (.int z2), .val (.int z3), .val (.int z4), .val (.int z5), .val (.int ((1 : Int32) + (z0 &&& (1 : Int32)))), .val (.int ((1 : Int32) + (z1 &&& (1 : Int32)))), .val (.int c4), .val (.int c6), .val (.int c8), .val (.int c10), .val (.ref b13), .val (.ref b17), .val (.int (z4 &&& (65535 : Int32))), .val (.int (z5 &&& (3 : Int32))), .val (.int p2), .val (.ref b23), .unset, .unset, .unset, .unset, .unset, .unset]
        refine Go.by (T' := T24) (f' := (mkF m 176 LL25 [])) (fun _ k => XS.astore X24.here hx rfl (hb hby at_174) rfl rfl (l' := LL25) rfl k) ?_
        obtain ⟨T26, h26, X26, e26, E26, A26, D26, -, st26⟩ := newO X24 hx hZ hown (hw _ (List.mem_of_getElem? (i := 35) rfl)) (hw _ (List.mem_of_getElem? (i := 36) rfl)) (hw _ (List.mem_of_getElem? (i := 37) rfl)) rfl (g := (mkF m 176 LL25 [])) rfl (hb hby at_176) (by decide) (by decide)
        obtain ⟨b26, g26⟩ : ∃ z, z = T24.heap.size := ⟨_, rfl⟩
        rw [← g26] at A26 D26 st26
        have ne_b13_b26 : b13 ≠ b26 := Nat.ne_of_lt (Nat.lt_of_lt_of_le V_b13.lt (Nat.le_of_eq g26.symm))
        have ne_b17_b26 : b17 ≠ b26 := Nat.ne_of_lt (Nat.lt_of_lt_of_le V_b17.lt (Nat.le_of_eq g26.symm))
        have ne_b23_b26 : b23 ≠ b26 := Nat.ne_of_lt (Nat.lt_of_lt_of_le E_b23.lt (Nat.le_of_eq g26.symm))
        have ne_t24_b26 : t24 ≠ b26 := Nat.ne_of_lt (Nat.lt_of_lt_of_le Vt24.lt (Nat.le_of_eq g26.symm))
        have g_b26 : n0 ≤ b26 := Nat.le_trans (Old.le O) (Nat.le_of_eq g26.symm)
        have sz_b26 : h0.size ≤ b26 := Nat.le_trans K.1 (Nat.le_of_eq g26.symm)
        replace V_b13 := V_b13.ext E26
        replace V_b17 := V_b17.ext E26
        replace E_b23 := E_b23.ext E26
        replace Gc24 := Gc24.ext E26
        replace Gv24 := Gv24.ext E26
        replace Vt24 := Vt24.ext E26
        replace O := O.ext E26
        replace K := K.ext E26
        have E_b26 := A26
        have F_host_b26 : Fld Z h26 b26 "com/example/honest_replica/honestreplica/model/Endpoint" "host" "Ljava/lang/String;" .null := D26 (Or.inr (hw _ (List.mem_of_getElem? (i := 49) rfl))) (ty := (.object "java/lang/String")) (by decide)
        have F_port_b26 : Fld Z h26 b26 "com/example/honest_replica/honestreplica/model/Endpoint" "port" "I" (.int (0 : Int32)) := D26 (Or.inr (hw _ (List.mem_of_getElem? (i := 51) rfl))) (ty := .int) (by decide)
        refine Go.by (T' := T26) (f' := (mkF m 179 LL25 [(.ref b26)])) (st26) ?_
        refine Go.by (T' := T26) (f' := (mkF m 180 LL25 [(.ref b26), (.ref b26)])) (fun _ k => XS.dup X26.here hx rfl (hb hby at_179) rfl rfl k) ?_
        refine Go.by (T' := T26) (f' := (mkF m 182 LL25 [(.ref b23), (.ref b26), (.ref b26)])) (fun _ k => XS.aload X26.here hx rfl (hb hby at_180) rfl rfl k) ?_
        refine Go.by (T' := T26) (f' := (mkF m 184 LL25 [(.int (z4 &&& (65535 : Int32))), (.ref b23), (.ref b26), (.ref b26)])) (fun _ k => XS.iload X26.here hx rfl (hb hby at_182) rfl k) ?_
        obtain ⟨v27, _, ⟨T27, L27, k27, n27⟩, -, X27, ⟨Lc27, hQ27, l27, y27, z27⟩, st27⟩ := X26.specialBack hx (y := (⟨"com/example/honest_replica/honestreplica/model/Endpoint", "<init>", "(Ljava/lang/String;I)V"⟩ : MethodName)) rfl hown (mvT hZ (hw _ (List.mem_of_getElem? (i := 38) rfl))) (mvT hZ (hw _ (List.mem_of_getElem? (i := 39) rfl))) (mvT hZ (hw _ (List.mem_of_getElem? (i := 40) rfl))) (by decide) (backOf (W := 1) (rm_e l Z a0 hw [] b26 b23 (z4 &&& (65535 : Int32)) t24 kb24 (1 : Int32) ((([c4] : List Int32).map (fun c => c.toInt8.toInt32)).map Value.int) ([c4] : List Int32) (by simp) (own_p16 _) ne_t24_b26 h26 n0 O E_b26 F_host_b26 F_port_b26 g_b26 E_b23 Gv24 Gc24 Vt24 hcd24 (own_up _ hp24) (Nat.le_of_ble_eq_true rfl)) hZ (hw _ (List.mem_of_getElem? (i := 40) rfl)) (hw _ (List.mem_of_getElem? (i := 37) rfl)) (by decide) (by decide)) (g := (mkF m 184 LL25 [(.int (z4 &&& (65535 : Int32))), (.ref b23), (.ref b26), (.ref b26)])) rfl (by rw [hml]; rfl) (Steps.refl _) (a := b26) (argsL := [(.ref b23), (.int (z4 &&& (65535 : Int32)))]) (rest := [(.ref b26)]) (lenOf pd_rm1_2 rfl) rfl (by show 2 * 0 + _ ≤ _; exact Nat.le_of_eq rfl) (hb hby at_184) (fun _ _ => ⟨rfl, e26, (by decide : 5 + 0 ≤ _), (by decide : 9 + 0 ≤ _)⟩)
        dsimp only [Pt.U, Pt.locs, Pt.cells, Pt.slots] at X27 l27 y27 z27 st27 hQ27
        subst l27 y27 z27
        obtain ⟨rfl, Nq27, K27, Gh27, Gp27⟩ := hQ27
        replace N := Fr.app N Nq27
        replace V_b13 := V_b13.keep K27 (ninS ne_b13_b26 nin0)
        replace V_b17 := V_b17.keep K27 (ninS ne_b17_b26 nin0)
        replace E_b23 := E_b23.keep K27
        replace Gc24 := Gc24.keep K27 (ninS ne_b23_b26 nin0)
        replace Gv24 := Gv24.keep K27 (ninS ne_b23_b26 nin0)
        replace Vt24 := Vt24.keep K27 (ninS ne_t24_b26 nin0)
        replace E_b26 := E_b26.keep K27
        replace O := O.keep K27 (allS g_b26 all0)
        replace K := K.trans K27 (allS (Or.inr sz_b26) all0)
        refine Go.by (T' := T27) (f' := (mkF m 187 LL25 [(.ref b26)])) (fun _ k => st27.trans k) ?_
        let LL28 : Array Slot := #[.val (.int z0), .val (.int z1), .val (.int z2), .val (.int z3), .val (.int z4), .val (.int z5), .val (.int ((1 : Int32) + (z0 &&& (1 : Int32)))), .val (.int ((1 : Int32) + (z1 &&& (1 : Int32)))), .val (.int c4), .val (.int c6), .val (.int c8), .val (.int c10), .val (.ref b13), .val (.ref b17), .val (.int (z4 &&& (65535 : Int32))), .val (.int (z5 &&& (3 : Int32))), .val (.int p2), .val (.ref b23), .val (.ref b26), .unset, .unset, .unset, .unset, .unset]
        refine Go.by (T' := T27) (f' := (mkF m 189 LL28 [])) (fun _ k => XS.astore X27.here hx rfl (hb hby at_187) rfl rfl (l' := LL28) rfl k) ?_
        obtain ⟨T29, h29, X29, e29, E29, A29, D29, -, st29⟩ := newO X27 hx hZ hown (hw _ (List.mem_of_getElem? (i := 35) rfl)) (hw _ (List.mem_of_getElem? (i := 36) rfl)) (hw _ (List.mem_of_getElem? (i := 37) rfl)) rfl (g := (mkF m 189 LL28 [])) rfl (hb hby at_189) (by decide) (by decide)
        obtain ⟨b29, g29⟩ : ∃ z, z = T27.heap.size := ⟨_, rfl⟩
        rw [← g29] at A29 D29 st29
        have ne_b13_b29 : b13 ≠ b29 := Nat.ne_of_lt (Nat.lt_of_lt_of_le V_b13.lt (Nat.le_of_eq g29.symm))
        have ne_b17_b29 : b17 ≠ b29 := Nat.ne_of_lt (Nat.lt_of_lt_of_le V_b17.lt (Nat.le_of_eq g29.symm))
        have ne_b23_b29 : b23 ≠ b29 := Nat.ne_of_lt (Nat.lt_of_lt_of_le E_b23.lt (Nat.le_of_eq g29.symm))
        have ne_t24_b29 : t24 ≠ b29 := Nat.ne_of_lt (Nat.lt_of_lt_of_le Vt24.lt (Nat.le_of_eq g29.symm))
        have ne_b26_b29 : b26 ≠ b29 := Nat.ne_of_lt (Nat.lt_of_lt_of_le E_b26.lt (Nat.le_of_eq g29.symm))
        have g_b29 : n0 ≤ b29 := Nat.le_trans (Old.le O) (Nat.le_of_eq g29.symm)
        have sz_b29 : h0.size ≤ b29 := Nat.le_trans K.1 (Nat.le_of_eq g29.symm)
        replace V_b13 := V_b13.ext E29
        replace V_b17 := V_b17.ext E29
        replace E_b23 := E_b23.ext E29
        replace Gc24 := Gc24.ext E29
        replace Gv24 := Gv24.ext E29
        replace Vt24 := Vt24.ext E29
        replace E_b26 := E_b26.ext E29
        replace Gh27 := Gh27.ext E29
        replace Gp27 := Gp27.ext E29
        replace O := O.ext E29
        replace K := K.ext E29
        have E_b29 := A29
        have F_host_b29 : Fld Z h29 b29 "com/example/honest_replica/honestreplica/model/Endpoint" "host" "Ljava/lang/String;" .null := D29 (Or.inr (hw _ (List.mem_of_getElem? (i := 49) rfl))) (ty := (.object "java/lang/String")) (by decide)
        have F_port_b29 : Fld Z h29 b29 "com/example/honest_replica/honestreplica/model/Endpoint" "port" "I" (.int (0 : Int32)) := D29 (Or.inr (hw _ (List.mem_of_getElem? (i := 51) rfl))) (ty := .int) (by decide)
        refine Go.by (T' := T29) (f' := (mkF m 192 LL28 [(.ref b29)])) (st29) ?_
        refine Go.by (T' := T29) (f' := (mkF m 193 LL28 [(.ref b29), (.ref b29)])) (fun _ k => XS.dup X29.here hx rfl (hb hby at_192) rfl rfl k) ?_
        obtain ⟨T30, h30, X30, e30, E30, A30, D30, -, st30⟩ := newO X29 hx hZ hown (hw _ (List.mem_of_getElem? (i := 6) rfl)) (hw _ (List.mem_of_getElem? (i := 7) rfl)) (hw _ (List.mem_of_getElem? (i := 8) rfl)) e29 (g := (mkF m 193 LL28 [(.ref b29), (.ref b29)])) rfl (hb hby at_193) (by decide) (by decide)
        obtain ⟨b30, g30⟩ : ∃ z, z = h29.size := ⟨_, rfl⟩
        rw [← g30] at A30 D30 st30
        have ne_b13_b30 : b13 ≠ b30 := Nat.ne_of_lt (Nat.lt_of_lt_of_le V_b13.lt (Nat.le_of_eq g30.symm))
        have ne_b17_b30 : b17 ≠ b30 := Nat.ne_of_lt (Nat.lt_of_lt_of_le V_b17.lt (Nat.le_of_eq g30.symm))
        have ne_b23_b30 : b23 ≠ b30 := Nat.ne_of_lt (Nat.lt_of_lt_of_le E_b23.lt (Nat.le_of_eq g30.symm))
        have ne_t24_b30 : t24 ≠ b30 := Nat.ne_of_lt (Nat.lt_of_lt_of_le Vt24.lt (Nat.le_of_eq g30.symm))
        have ne_b26_b30 : b26 ≠ b30 := Nat.ne_of_lt (Nat.lt_of_lt_of_le E_b26.lt (Nat.le_of_eq g30.symm))
        have ne_b29_b30 : b29 ≠ b30 := Nat.ne_of_lt (Nat.lt_of_lt_of_le E_b29.lt (Nat.le_of_eq g30.symm))
        have g_b30 : n0 ≤ b30 := Nat.le_trans (Old.le O) (Nat.le_of_eq g30.symm)
        have sz_b30 : h0.size ≤ b30 := Nat.le_trans K.1 (Nat.le_of_eq g30.symm)
        replace V_b13 := V_b13.ext E30
        replace V_b17 := V_b17.ext E30
        replace E_b23 := E_b23.ext E30
        replace Gc24 := Gc24.ext E30
        replace Gv24 := Gv24.ext E30
        replace Vt24 := Vt24.ext E30
        replace E_b26 := E_b26.ext E30
        replace Gh27 := Gh27.ext E30
        replace Gp27 := Gp27.ext E30
        replace E_b29 := E_b29.ext E30
        replace F_host_b29 := F_host_b29.ext E30
        replace F_port_b29 := F_port_b29.ext E30
        replace O := O.ext E30
        replace K := K.ext E30
        have E_b30 := A30
        have F_coder_b30 : Fld Z h30 b30 "java/lang/String" "coder" "B" (.int (0 : Int32)) := D30 (Or.inr (hw _ (List.mem_of_getElem? (i := 32) rfl))) (ty := .byte) (by decide)
        have F_value_b30 : Fld Z h30 b30 "java/lang/String" "value" "[B" .null := D30 (Or.inr (hw _ (List.mem_of_getElem? (i := 34) rfl))) (ty := (.array .byte)) (by decide)
        refine Go.by (T' := T30) (f' := (mkF m 196 LL28 [(.ref b30), (.ref b29), (.ref b29)])) (st30) ?_
        refine Go.by (T' := T30) (f' := (mkF m 197 LL28 [(.ref b30), (.ref b30), (.ref b29), (.ref b29)])) (fun _ k => XS.dup X30.here hx rfl (hb hby at_196) rfl rfl k) ?_
        refine Go.by (T' := T30) (f' := (mkF m 199 LL28 [(.ref b17), (.ref b30), (.ref b30), (.ref b29), (.ref b29)])) (fun _ k => XS.aload X30.here hx rfl (hb hby at_197) rfl rfl k) ?_
        have hp31 : ∀ c ∈ ([c8] : List Int32), ¬ c < 0 ∧ ¬ (255 : Int32) < c := by
          intro c hc; simp only [List.mem_cons, List.not_mem_nil, or_false] at hc
          rcases hc with rfl
          · exact hb8
        obtain ⟨v31, _, ⟨T31, L31, k31, n31⟩, -, X31, ⟨Lc31, hQ31, l31, y31, z31⟩, st31⟩ := X30.specialBack hx (y := (⟨"java/lang/String", "<init>", "([C)V"⟩ : MethodName)) rfl hown (mvT hZ (hw _ (List.mem_of_getElem? (i := 9) rfl))) (mvT hZ (hw _ (List.mem_of_getElem? (i := 10) rfl))) (mvT hZ (hw _ (List.mem_of_getElem? (i := 11) rfl))) (by decide) (StrChars.Road.backV (W := 3) hZ hws (kI := 4) (hw _ (List.mem_of_getElem? (i := 7) rfl)) (cs := ([c8] : List Int32)) (bs := ([c8] : List Int32).map (fun c => c.toInt8.toInt32)) (n := 1) g_b30 (Old.le O) E_b30 F_value_b30 F_coder_b30 V_b17 (Sta.ext O.2 hS.2.2.2.2.1) hS.2.2.2.2.2.1 rfl rfl (by decide) (by decide) hp31 rfl (by decide) (by decide)) (g := (mkF m 199 LL28 [(.ref b17), (.ref b30), (.ref b30), (.ref b29), (.ref b29)])) rfl (by rw [hml]; rfl) (Steps.refl _) (a := b30) (argsL := [(.ref b17)]) (rest := [(.ref b30), (.ref b29), (.ref b29)]) (lenOf pd_rm1_1 rfl) rfl (by show 2 * 0 + _ ≤ _; exact Nat.le_of_eq rfl) (hb hby at_199) (fun _ _ => ⟨rfl, e30, (by decide : 7 + 1 ≤ _), (by decide : 15 + 1 ≤ _)⟩)
        dsimp only [Pt.U, Pt.locs, Pt.cells, Pt.slots] at X31 l31 y31 z31 st31 hQ31
        subst l31 y31 z31
        obtain ⟨rfl, Nq31, K31, -, Gc31, t31, kb31, gt31, szt31, net31, Gv31, Vt31⟩ := hQ31
        replace N := Fr.app N Nq31
        have ne_b13_t31 : b13 ≠ t31 := Nat.ne_of_lt (Nat.lt_of_lt_of_le V_b13.lt szt31)
        have ne_b17_t31 : b17 ≠ t31 := Nat.ne_of_lt (Nat.lt_of_lt_of_le V_b17.lt szt31)
        have ne_b23_t31 : b23 ≠ t31 := Nat.ne_of_lt (Nat.lt_of_lt_of_le E_b23.lt szt31)
        have ne_t24_t31 : t24 ≠ t31 := Nat.ne_of_lt (Nat.lt_of_lt_of_le Vt24.lt szt31)
        have ne_b26_t31 : b26 ≠ t31 := Nat.ne_of_lt (Nat.lt_of_lt_of_le E_b26.lt szt31)
        have ne_b29_t31 : b29 ≠ t31 := Nat.ne_of_lt (Nat.lt_of_lt_of_le E_b29.lt szt31)
        have ne_b30_t31 : b30 ≠ t31 := Nat.ne_of_lt (Nat.lt_of_lt_of_le E_b30.lt szt31)
        have g_t31 : n0 ≤ t31 := Nat.le_trans (Old.le O) szt31
        have sz_t31 : h0.size ≤ t31 := Nat.le_trans K.1 szt31
        replace V_b13 := V_b13.keep K31 (ninS ne_b13_b30 nin0)
        replace V_b17 := V_b17.keep K31 (ninS ne_b17_b30 nin0)
        replace E_b23 := E_b23.keep K31
        replace Gc24 := Gc24.keep K31 (ninS ne_b23_b30 nin0)
        replace Gv24 := Gv24.keep K31 (ninS ne_b23_b30 nin0)
        replace Vt24 := Vt24.keep K31 (ninS ne_t24_b30 nin0)
        replace E_b26 := E_b26.keep K31
        replace Gh27 := Gh27.keep K31 (ninS ne_b26_b30 nin0)
        replace Gp27 := Gp27.keep K31 (ninS ne_b26_b30 nin0)
        replace E_b29 := E_b29.keep K31
        replace F_host_b29 := F_host_b29.keep K31 (ninS ne_b29_b30 nin0)
        replace F_port_b29 := F_port_b29.keep K31 (ninS ne_b29_b30 nin0)
        replace E_b30 := E_b30.keep K31
        replace O := O.keep K31 (allS g_b30 all0)
        replace K := K.trans K31 (allS (Or.inr sz_b30) all0)
        have hcd31 : StrChars.Road.CodA ([c8] : List Int32) 0 (1 : Int32) ((([c8] : List Int32).map (fun c => c.toInt8.toInt32)).map Value.int) := StrChars.Road.codOf (n := 1) rfl (fun c hc => (hp31 c hc).2)
        refine Go.by (T' := T31) (f' := (mkF m 202 LL28 [(.ref b30), (.ref b29), (.ref b29)])) (fun _ k => st31.trans k) ?_
        refine Go.by (T' := T31) (f' := (mkF m 204 LL28 [(.int p2), (.ref b30), (.ref b29), (.ref b29)])) (fun _ k => XS.iload X31.here hx rfl (hb hby at_202) rfl k) ?_
        obtain ⟨v32, _, ⟨T32, L32, k32, n32⟩, -, X32, ⟨Lc32, hQ32, l32, y32, z32⟩, st32⟩ := X31.specialBack hx (y := (⟨"com/example/honest_replica/honestreplica/model/Endpoint", "<init>", "(Ljava/lang/String;I)V"⟩ : MethodName)) rfl hown (mvT hZ (hw _ (List.mem_of_getElem? (i := 38) rfl))) (mvT hZ (hw _ (List.mem_of_getElem? (i := 39) rfl))) (mvT hZ (hw _ (List.mem_of_getElem? (i := 40) rfl))) (by decide) (backOf (W := 1) (rm_e l Z a0 hw [] b29 b30 p2 t31 kb31 (1 : Int32) ((([c8] : List Int32).map (fun c => c.toInt8.toInt32)).map Value.int) ([c8] : List Int32) (by simp) hp2 (Ne.symm ne_b29_t31) T31.heap n0 O E_b29 F_host_b29 F_port_b29 g_b29 E_b30 Gv31 Gc31 Vt31 hcd31 (own_up _ hp31) (Nat.le_of_ble_eq_true rfl)) hZ (hw _ (List.mem_of_getElem? (i := 40) rfl)) (hw _ (List.mem_of_getElem? (i := 37) rfl)) (by decide) (by decide)) (g := (mkF m 204 LL28 [(.int p2), (.ref b30), (.ref b29), (.ref b29)])) rfl (by rw [hml]; rfl) (Steps.refl _) (a := b29) (argsL := [(.ref b30), (.int p2)]) (rest := [(.ref b29)]) (lenOf pd_rm1_2 rfl) rfl (by show 2 * 0 + _ ≤ _; exact Nat.le_of_eq rfl) (hb hby at_204) (fun _ _ => ⟨rfl, rfl, (by decide : 8 + 0 ≤ _), (by decide : 16 + 0 ≤ _)⟩)
        dsimp only [Pt.U, Pt.locs, Pt.cells, Pt.slots] at X32 l32 y32 z32 st32 hQ32
        subst l32 y32 z32
        obtain ⟨rfl, Nq32, K32, Gh32, Gp32⟩ := hQ32
        replace N := Fr.app N Nq32
        replace V_b13 := V_b13.keep K32 (ninS ne_b13_b29 nin0)
        replace V_b17 := V_b17.keep K32 (ninS ne_b17_b29 nin0)
        replace E_b23 := E_b23.keep K32
        replace Gc24 := Gc24.keep K32 (ninS ne_b23_b29 nin0)
        replace Gv24 := Gv24.keep K32 (ninS ne_b23_b29 nin0)
        replace Vt24 := Vt24.keep K32 (ninS ne_t24_b29 nin0)
        replace E_b26 := E_b26.keep K32
        replace Gh27 := Gh27.keep K32 (ninS ne_b26_b29 nin0)
        replace Gp27 := Gp27.keep K32 (ninS ne_b26_b29 nin0)
        replace E_b29 := E_b29.keep K32
        replace E_b30 := E_b30.keep K32
        replace Gc31 := Gc31.keep K32 (ninS (Ne.symm ne_b29_b30) nin0)
        replace Gv31 := Gv31.keep K32 (ninS (Ne.symm ne_b29_b30) nin0)
        replace Vt31 := Vt31.keep K32 (ninS (Ne.symm ne_b29_t31) nin0)
        replace O := O.keep K32 (allS g_b29 all0)
        replace K := K.trans K32 (allS (Or.inr sz_b29) all0)
        refine Go.by (T' := T32) (f' := (mkF m 207 LL28 [(.ref b29)])) (fun _ k => st32.trans k) ?_
        let LL33 : Array Slot := #[.val (.int z0), .val (.int z1), .val (.int z2), .val (.int z3), .val (.int z4), .val (.int z5), .val (.int ((1 : Int32) + (z0 &&& (1 : Int32)))), .val (.int ((1 : Int32) + (z1 &&& (1 : Int32)))), .val (.int c4), .val (.int c6), .val (.int c8), .val (.int c10), .val (.ref b13), .val (.ref b17), .val (.int (z4 &&& (65535 : Int32))), .val (.int (z5 &&& (3 : Int32))), .val (.int p2), .val (.ref b23), .val (.ref b26), .val (.ref b29), .unset, .unset, .unset, .unset]
        refine Go.by (T' := T32) (f' := (mkF m 209 LL33 [])) (fun _ k => XS.astore X32.here hx rfl (hb hby at_207) rfl rfl (l' := LL33) rfl k) ?_
        refine Go.by (T' := T32) (f' := (mkF m 211 LL33 [(.int ((1 : Int32) + (z0 &&& (1 : Int32))))])) (fun _ k => XS.iload X32.here hx rfl (hb hby at_209) rfl k) ?_
        refine Go.by (T' := T32) (f' := (mkF m 213 LL33 [(.int ((1 : Int32) + (z1 &&& (1 : Int32)))), (.int ((1 : Int32) + (z0 &&& (1 : Int32))))])) (fun _ k => XS.iload X32.here hx rfl (hb hby at_211) rfl k) ?_
        refine Go.by (T' := T32) (f' := (mkF m 216 LL33 [])) (fun _ k => XS.icmpNo X32.here hx rfl (hb hby at_213) rfl (teq (hc47_12.trans hc79_16.symm)).2 k) ?_
        refine Go.by (T' := T32) (f' := (mkF m 218 LL33 [(.int c4)])) (fun _ k => XS.iload X32.here hx rfl (hb hby at_216) rfl k) ?_
        refine Go.by (T' := T32) (f' := (mkF m 220 LL33 [(.int c8), (.int c4)])) (fun _ k => XS.iload X32.here hx rfl (hb hby at_218) rfl k) ?_
        by_cases hc220_35 : c4 = c8
        · skip
          refine Go.by (T' := T32) (f' := (mkF m 223 LL33 [])) (fun _ k => XS.icmpNo X32.here hx rfl (hb hby at_220) rfl (teq hc220_35).2 k) ?_
          refine Go.by (T' := T32) (f' := (mkF m 225 LL33 [(.int ((1 : Int32) + (z0 &&& (1 : Int32))))])) (fun _ k => XS.iload X32.here hx rfl (hb hby at_223) rfl k) ?_
          refine Go.by (T' := T32) (f' := (mkF m 226 LL33 [(.int (1 : Int32)), (.int ((1 : Int32) + (z0 &&& (1 : Int32))))])) (fun _ k => XS.iconst X32.here hx rfl (hb hby at_225) k) ?_
          refine Go.by (T' := T32) (f' := (mkF m 236 LL33 [])) (fun _ k => XS.icmpYes X32.here hx rfl (pc0 := 226) (pc' := 236) rfl (hb hby at_226) rfl (teq hc47_12).1 (by decide) (by decide) k) ?_
          refine Go.by (T' := T32) (f' := (mkF m 237 LL33 [(.int (1 : Int32))])) (fun _ k => XS.iconst X32.here hx rfl (hb hby at_236) k) ?_
          refine Go.by (T' := T32) (f' := (mkF m 241 LL33 [(.int (1 : Int32))])) (fun _ k => XS.goto X32.here hx rfl (pc0 := 237) (pc' := 241) rfl (hb hby at_237) (by decide) (by decide) k) ?_
          let LL37 : Array Slot := #[.val (.int z0), .val (.int z1), .val (.int z2), .val (.int z3), .val (.int z4), .val (.int z5), .val (.int ((1 : Int32) + (z0 &&& (1 : Int32)))), .val (.int ((1 : Int32) + (z1 &&& (1 : Int32)))), .val (.int c4), .val (.int c6), .val (.int c8), .val (.int c10), .val (.ref b13), .val (.ref b17), .val (.int (z4 &&& (65535 : Int32))), .val (.int (z5 &&& (3 : Int32))), .val (.int p2), .val (.ref b23), .val (.ref b26), .val (.ref b29), .val (.int (1 : Int32)), .unset, .unset, .unset]
          refine Go.by (T' := T32) (f' := (mkF m 243 LL37 [])) (fun _ k => XS.istore X32.here hx rfl (hb hby at_241) rfl (l' := LL37) rfl k) ?_
          refine Go.by (T' := T32) (f' := (mkF m 245 LL37 [(.int (1 : Int32))])) (fun _ k => XS.iload X32.here hx rfl (hb hby at_243) rfl k) ?_
          refine Go.by (T' := T32) (f' := (mkF m 248 LL37 [])) (fun _ k => XS.ifNo X32.here hx rfl (hb hby at_245) rfl ((if0 _ _).trans (feq (by decide : ¬ ((1 : Int32) = (0 : Int32)))).1) k) ?_
          refine Go.by (T' := T32) (f' := (mkF m 250 LL37 [(.int (z4 &&& (65535 : Int32)))])) (fun _ k => XS.iload X32.here hx rfl (hb hby at_248) rfl k) ?_
          refine Go.by (T' := T32) (f' := (mkF m 252 LL37 [(.int p2), (.int (z4 &&& (65535 : Int32)))])) (fun _ k => XS.iload X32.here hx rfl (hb hby at_250) rfl k) ?_
          by_cases hc252_39 : (z4 &&& (65535 : Int32)) = p2
          · skip
            refine Go.by (T' := T32) (f' := (mkF m 255 LL37 [])) (fun _ k => XS.icmpNo X32.here hx rfl (hb hby at_252) rfl (teq hc252_39).2 k) ?_
            refine Go.by (T' := T32) (f' := (mkF m 256 LL37 [(.int (1 : Int32))])) (fun _ k => XS.iconst X32.here hx rfl (hb hby at_255) k) ?_
            refine Go.by (T' := T32) (f' := (mkF m 260 LL37 [(.int (1 : Int32))])) (fun _ k => XS.goto X32.here hx rfl (pc0 := 256) (pc' := 260) rfl (hb hby at_256) (by decide) (by decide) k) ?_
            let LL40 : Array Slot := #[.val (.int z0), .val (.int z1), .val (.int z2), .val (.int z3), .val (.int z4), .val (.int z5), .val (.int ((1 : Int32) + (z0 &&& (1 : Int32)))), .val (.int ((1 : Int32) + (z1 &&& (1 : Int32)))), .val (.int c4), .val (.int c6), .val (.int c8), .val (.int c10), .val (.ref b13), .val (.ref b17), .val (.int (z4 &&& (65535 : Int32))), .val (.int (z5 &&& (3 : Int32))), .val (.int p2), .val (.ref b23), .val (.ref b26), .val (.ref b29), .val (.int (1 : Int32)), .val (.int (1 : Int32)), .unset, .unset]
            refine Go.by (T' := T32) (f' := (mkF m 262 LL40 [])) (fun _ k => XS.istore X32.here hx rfl (hb hby at_260) rfl (l' := LL40) rfl k) ?_
            refine Go.by (T' := T32) (f' := (mkF m 263 LL40 [(.int z0)])) (fun _ k => XS.iloadN X32.here hx rfl (hb hby at_262) rfl k) ?_
            refine Go.by (T' := T32) (f' := (mkF m 264 LL40 [(.int (1 : Int32)), (.int z0)])) (fun _ k => XS.iconst X32.here hx rfl (hb hby at_263) k) ?_
            refine Go.by (T' := T32) (f' := (mkF m 265 LL40 [(.int ((z0.toUInt32 >>> ((1 : Int32) &&& 31).toUInt32).toInt32))])) (fun _ k => XS.iushr X32.here hx rfl (hb hby at_264) rfl k) ?_
            refine Go.by (T' := T32) (f' := (mkF m 266 LL40 [(.int (3 : Int32)), (.int ((z0.toUInt32 >>> ((1 : Int32) &&& 31).toUInt32).toInt32))])) (fun _ k => XS.iconst X32.here hx rfl (hb hby at_265) k) ?_
            refine Go.by (T' := T32) (f' := (mkF m 267 LL40 [(.int (((z0.toUInt32 >>> ((1 : Int32) &&& 31).toUInt32).toInt32) &&& (3 : Int32)))])) (fun _ k => XS.iand X32.here hx rfl (hb hby at_266) rfl k) ?_
            let LL41 : Array Slot := #[.val (.int z0), .val (.int z1), .val (.int z2), .val (.int z3), .val (.int z4), .val (.int z5), .val (.int ((1 : Int32) + (z0 &&& (1 : Int32)))), .val (.int ((1 : Int32) + (z1 &&& (1 : Int32)))), .val (.int c4), .val (.int c6), .val (.int c8), .val (.int c10), .val (.ref b13), .val (.ref b17), .val (.int (z4 &&& (65535 : Int32))), .val (.int (z5 &&& (3 : Int32))), .val (.int p2), .val (.ref b23), .val (.ref b26), .val (.ref b29), .val (.int (1 : Int32)), .val (.int (1 : Int32)), .val (.int (((z0.toUInt32 >>> ((1 : Int32) &&& 31).toUInt32).toInt32) &&& (3 : Int32))), .unset]
            refine Go.by (T' := T32) (f' := (mkF m 269 LL41 [])) (fun _ k => XS.istore X32.here hx rfl (hb hby at_267) rfl (l' := LL41) rfl k) ?_
            refine Go.by (T' := T32) (f' := (mkF m 271 LL41 [(.ref b26)])) (fun _ k => XS.aload X32.here hx rfl (hb hby at_269) rfl rfl k) ?_
            refine Go.by (T' := T32) (f' := (mkF m 273 LL41 [(.ref b26), (.ref b26)])) (fun _ k => XS.aload X32.here hx rfl (hb hby at_271) rfl rfl k) ?_
            obtain ⟨cq42, kq42, q42a, q42b, q42c⟩ := isOf hZ rfl E_b26
            obtain ⟨v42, _, ⟨T42, L42, k42, n42⟩, -, X42, ⟨Lc42, hQ42, l42, y42, z42⟩, st42⟩ := X32.virtualBack hx (y := (⟨"com/example/honest_replica/honestreplica/model/Endpoint", "equals", "(Ljava/lang/Object;)Z"⟩ : MethodName)) (z := (⟨"com/example/honest_replica/honestreplica/model/Endpoint", "equals", "(Ljava/lang/Object;)Z"⟩ : MethodName)) hown (mvT hZ (hw _ (List.mem_of_getElem? (i := 52) rfl))) (mvT hZ (hw _ (List.mem_of_getElem? (i := 53) rfl))) (notFace_of_selects (args := #[]) (mvT hZ (hw _ (List.mem_of_getElem? (i := 55) rfl)))) (mvT hZ (hw _ (List.mem_of_getElem? (i := 55) rfl))) (mvT hZ (hw _ (List.mem_of_getElem? (i := 54) rfl))) (by decide) (backOf (W := 0) (rm_q l Z a0 hw [] b26 b26 b23 b23 (z4 &&& (65535 : Int32)) (z4 &&& (65535 : Int32)) t24 kb24 (1 : Int32) ((([c4] : List Int32).map (fun c => c.toInt8.toInt32)).map Value.int) ([c4] : List Int32) t24 kb24 (1 : Int32) ((([c4] : List Int32).map (fun c => c.toInt8.toInt32)).map Value.int) ([c4] : List Int32) wc cl zc hS T32.heap n0 O E_b26 E_b26 Gh27 Gp27 Gh27 Gp27 E_b23 Gv24 Gc24 Vt24 hcd24 (own_up _ hp24) (Nat.le_of_ble_eq_true rfl) E_b23 Gv24 Gc24 Vt24 hcd24 (own_up _ hp24) (Nat.le_of_ble_eq_true rfl)) hZ (hw _ (List.mem_of_getElem? (i := 56) rfl)) (hw _ (List.mem_of_getElem? (i := 37) rfl)) (by decide) (by decide)) q42a q42c (g := (mkF m 273 LL41 [(.ref b26), (.ref b26)])) rfl (by rw [hml]; rfl) (Steps.refl _) (argsL := [(.ref b26)]) (rest := []) (lenOf pd_rm1_3 rfl) rfl (by show 2 * 0 + _ ≤ _; exact Nat.le_of_eq rfl) (hb hby at_273) (fun _ _ => ⟨rfl, rfl, (by decide : 8 + 0 ≤ _), (by decide : 16 + 0 ≤ _)⟩)
            dsimp only [Pt.U, Pt.locs, Pt.cells, Pt.slots] at X42 l42 y42 z42 st42 hQ42
            subst l42 y42 z42
            obtain ⟨hv42, Nq42, e42⟩ := hQ42
            have hz42 : eqs ([c4] : List Int32) (z4 &&& (65535 : Int32)) ([c4] : List Int32) (z4 &&& (65535 : Int32)) = 1 := by simp [eqs]
            rw [hz42] at hv42
            subst hv42
            replace N := Fr.app N Nq42
            refine Go.by (T' := T42) (f' := (mkF m 276 LL41 [(.int (1 : Int32))])) (fun _ k => st42.trans k) ?_
            refine Go.by (T' := T42) (f' := (mkF m 281 LL41 [])) (fun _ k => XS.ifYes X42.here hx rfl (pc0 := 276) (pc' := 281) rfl (hb hby at_276) rfl ((if0 _ _).trans (feq (by decide : ¬ ((1 : Int32) = (0 : Int32)))).2) (by decide) (by decide) k) ?_
            refine Go.by (T' := T42) (f' := (mkF m 283 LL41 [(.int (((z0.toUInt32 >>> ((1 : Int32) &&& 31).toUInt32).toInt32) &&& (3 : Int32)))])) (fun _ k => XS.iload X42.here hx rfl (hb hby at_281) rfl k) ?_
            by_cases hc283_44 : (((z0.toUInt32 >>> ((1 : Int32) &&& 31).toUInt32).toInt32) &&& (3 : Int32)) = (0 : Int32)
            · skip
              refine Go.by (T' := T42) (f' := (mkF m 286 LL41 [])) (fun _ k => XS.ifNo X42.here hx rfl (hb hby at_283) rfl ((if0 _ _).trans (teq hc283_44).2) k) ?_
              refine Go.by (T' := T42) (f' := (mkF m 288 LL41 [(.ref b26)])) (fun _ k => XS.aload X42.here hx rfl (hb hby at_286) rfl rfl k) ?_
              refine Go.by (T' := T42) (f' := (mkF m 290 LL41 [(.ref b29), (.ref b26)])) (fun _ k => XS.aload X42.here hx rfl (hb hby at_288) rfl rfl k) ?_
              obtain ⟨cq45, kq45, q45a, q45b, q45c⟩ := isOf hZ e42 E_b26
              obtain ⟨v45, _, ⟨T45, L45, k45, n45⟩, -, X45, ⟨Lc45, hQ45, l45, y45, z45⟩, st45⟩ := X42.virtualBack hx (y := (⟨"com/example/honest_replica/honestreplica/model/Endpoint", "equals", "(Ljava/lang/Object;)Z"⟩ : MethodName)) (z := (⟨"com/example/honest_replica/honestreplica/model/Endpoint", "equals", "(Ljava/lang/Object;)Z"⟩ : MethodName)) hown (mvT hZ (hw _ (List.mem_of_getElem? (i := 52) rfl))) (mvT hZ (hw _ (List.mem_of_getElem? (i := 53) rfl))) (notFace_of_selects (args := #[]) (mvT hZ (hw _ (List.mem_of_getElem? (i := 55) rfl)))) (mvT hZ (hw _ (List.mem_of_getElem? (i := 55) rfl))) (mvT hZ (hw _ (List.mem_of_getElem? (i := 54) rfl))) (by decide) (backOf (W := 0) (rm_q l Z a0 hw [] b26 b29 b23 b30 (z4 &&& (65535 : Int32)) p2 t24 kb24 (1 : Int32) ((([c4] : List Int32).map (fun c => c.toInt8.toInt32)).map Value.int) ([c4] : List Int32) t31 kb31 (1 : Int32) ((([c8] : List Int32).map (fun c => c.toInt8.toInt32)).map Value.int) ([c8] : List Int32) wc cl zc hS T32.heap n0 O E_b26 E_b29 Gh27 Gp27 Gh32 Gp32 E_b23 Gv24 Gc24 Vt24 hcd24 (own_up _ hp24) (Nat.le_of_ble_eq_true rfl) E_b30 Gv31 Gc31 Vt31 hcd31 (own_up _ hp31) (Nat.le_of_ble_eq_true rfl)) hZ (hw _ (List.mem_of_getElem? (i := 56) rfl)) (hw _ (List.mem_of_getElem? (i := 37) rfl)) (by decide) (by decide)) q45a q45c (g := (mkF m 290 LL41 [(.ref b29), (.ref b26)])) rfl (by rw [hml]; rfl) (Steps.refl _) (argsL := [(.ref b29)]) (rest := []) (lenOf pd_rm1_3 rfl) rfl (by show 2 * 0 + _ ≤ _; exact Nat.le_of_eq rfl) (hb hby at_290) (fun _ _ => ⟨rfl, e42, (by decide : 8 + 0 ≤ _), (by decide : 16 + 0 ≤ _)⟩)
              dsimp only [Pt.U, Pt.locs, Pt.cells, Pt.slots] at X45 l45 y45 z45 st45 hQ45
              subst l45 y45 z45
              obtain ⟨hv45, Nq45, e45⟩ := hQ45
              have hz45 : eqs ([c4] : List Int32) (z4 &&& (65535 : Int32)) ([c8] : List Int32) p2 = 1 := by simp [eqs, hc220_35, hc252_39]
              rw [hz45] at hv45
              subst hv45
              replace N := Fr.app N Nq45
              refine Go.by (T' := T45) (f' := (mkF m 293 LL41 [(.int (1 : Int32))])) (fun _ k => st45.trans k) ?_
              refine Go.by (T' := T45) (f' := (mkF m 295 LL41 [(.int (1 : Int32)), (.int (1 : Int32))])) (fun _ k => XS.iload X45.here hx rfl (hb hby at_293) rfl k) ?_
              refine Go.by (T' := T45) (f' := (mkF m 298 LL41 [])) (fun _ k => XS.icmpNo X45.here hx rfl (hb hby at_295) rfl (teq (by decide : (1 : Int32) = (1 : Int32))).2 k) ?_
              refine Go.by (T' := T45) (f' := (mkF m 300 LL41 [(.ref b29)])) (fun _ k => XS.aload X45.here hx rfl (hb hby at_298) rfl rfl k) ?_
              refine Go.by (T' := T45) (f' := (mkF m 302 LL41 [(.ref b26), (.ref b29)])) (fun _ k => XS.aload X45.here hx rfl (hb hby at_300) rfl rfl k) ?_
              obtain ⟨cq47, kq47, q47a, q47b, q47c⟩ := isOf hZ e45 E_b29
              obtain ⟨v47, _, ⟨T47, L47, k47, n47⟩, -, X47, ⟨Lc47, hQ47, l47, y47, z47⟩, st47⟩ := X45.virtualBack hx (y := (⟨"com/example/honest_replica/honestreplica/model/Endpoint", "equals", "(Ljava/lang/Object;)Z"⟩ : MethodName)) (z := (⟨"com/example/honest_replica/honestreplica/model/Endpoint", "equals", "(Ljava/lang/Object;)Z"⟩ : MethodName)) hown (mvT hZ (hw _ (List.mem_of_getElem? (i := 52) rfl))) (mvT hZ (hw _ (List.mem_of_getElem? (i := 53) rfl))) (notFace_of_selects (args := #[]) (mvT hZ (hw _ (List.mem_of_getElem? (i := 55) rfl)))) (mvT hZ (hw _ (List.mem_of_getElem? (i := 55) rfl))) (mvT hZ (hw _ (List.mem_of_getElem? (i := 54) rfl))) (by decide) (backOf (W := 0) (rm_q l Z a0 hw [] b29 b26 b30 b23 p2 (z4 &&& (65535 : Int32)) t31 kb31 (1 : Int32) ((([c8] : List Int32).map (fun c => c.toInt8.toInt32)).map Value.int) ([c8] : List Int32) t24 kb24 (1 : Int32) ((([c4] : List Int32).map (fun c => c.toInt8.toInt32)).map Value.int) ([c4] : List Int32) wc cl zc hS T32.heap n0 O E_b29 E_b26 Gh32 Gp32 Gh27 Gp27 E_b30 Gv31 Gc31 Vt31 hcd31 (own_up _ hp31) (Nat.le_of_ble_eq_true rfl) E_b23 Gv24 Gc24 Vt24 hcd24 (own_up _ hp24) (Nat.le_of_ble_eq_true rfl)) hZ (hw _ (List.mem_of_getElem? (i := 56) rfl)) (hw _ (List.mem_of_getElem? (i := 37) rfl)) (by decide) (by decide)) q47a q47c (g := (mkF m 302 LL41 [(.ref b26), (.ref b29)])) rfl (by rw [hml]; rfl) (Steps.refl _) (argsL := [(.ref b26)]) (rest := []) (lenOf pd_rm1_3 rfl) rfl (by show 2 * 0 + _ ≤ _; exact Nat.le_of_eq rfl) (hb hby at_302) (fun _ _ => ⟨rfl, e45, (by decide : 8 + 0 ≤ _), (by decide : 16 + 0 ≤ _)⟩)
              dsimp only [Pt.U, Pt.locs, Pt.cells, Pt.slots] at X47 l47 y47 z47 st47 hQ47
              subst l47 y47 z47
              obtain ⟨hv47, Nq47, e47⟩ := hQ47
              have hz47 : eqs ([c8] : List Int32) p2 ([c4] : List Int32) (z4 &&& (65535 : Int32)) = 1 := by simp [eqs, hc220_35, hc252_39]
              rw [hz47] at hv47
              subst hv47
              replace N := Fr.app N Nq47
              refine Go.by (T' := T47) (f' := (mkF m 305 LL41 [(.int (1 : Int32))])) (fun _ k => st47.trans k) ?_
              refine Go.by (T' := T47) (f' := (mkF m 307 LL41 [(.int (1 : Int32)), (.int (1 : Int32))])) (fun _ k => XS.iload X47.here hx rfl (hb hby at_305) rfl k) ?_
              refine Go.by (T' := T47) (f' := (mkF m 310 LL41 [])) (fun _ k => XS.icmpNo X47.here hx rfl (hb hby at_307) rfl (teq (by decide : (1 : Int32) = (1 : Int32))).2 k) ?_
              refine Go.by (T' := T47) (f' := (mkF m 311 LL41 [(.int (1 : Int32))])) (fun _ k => XS.iconst X47.here hx rfl (hb hby at_310) k) ?_
              refine Go.by (T' := T47) (f' := (mkF m 315 LL41 [(.int (1 : Int32))])) (fun _ k => XS.goto X47.here hx rfl (pc0 := 311) (pc' := 315) rfl (hb hby at_311) (by decide) (by decide) k) ?_
              obtain ⟨fs, hr, hrun, hended, hW, hsame⟩ := X47.leave (v := some (.int (1 : Int32))) (fun h => by rw [Bd.returns] at h; cases h)
              refine ⟨_, _, retN X47 hx (t := .boolean) Bd.returns (by simp) (hb hby at_315) hr, hrun, hended, _, _, rfl, ?_, ⟨_, rfl⟩, hW, hsame.mono (by decide) (by decide)⟩
              show Q1 n0 (some (.int (1 : Int32))) T47.heap _
              rw [e47]
              exact ⟨rfl, N⟩
            · skip
              refine Go.by (T' := T42) (f' := (mkF m 316 LL41 [])) (fun _ k => XS.ifYes X42.here hx rfl (pc0 := 283) (pc' := 316) rfl (hb hby at_283) rfl ((if0 _ _).trans (feq hc283_44).2) (by decide) (by decide) k) ?_
              refine Go.by (T' := T42) (f' := (mkF m 318 LL41 [(.int (((z0.toUInt32 >>> ((1 : Int32) &&& 31).toUInt32).toInt32) &&& (3 : Int32)))])) (fun _ k => XS.iload X42.here hx rfl (hb hby at_316) rfl k) ?_
              refine Go.by (T' := T42) (f' := (mkF m 319 LL41 [(.int (1 : Int32)), (.int (((z0.toUInt32 >>> ((1 : Int32) &&& 31).toUInt32).toInt32) &&& (3 : Int32)))])) (fun _ k => XS.iconst X42.here hx rfl (hb hby at_318) k) ?_
              by_cases hc319_49 : (((z0.toUInt32 >>> ((1 : Int32) &&& 31).toUInt32).toInt32) &&& (3 : Int32)) = (1 : Int32)
              · skip
                refine Go.by (T' := T42) (f' := (mkF m 322 LL41 [])) (fun _ k => XS.icmpNo X42.here hx rfl (hb hby at_319) rfl (teq hc319_49).2 k) ?_
                refine Go.by (T' := T42) (f' := (mkF m 323 LL41 [.null])) (fun _ k => XS.aconstNull X42.here hx rfl (hb hby at_322) k) ?_
                let LL50 : Array Slot := #[.val (.int z0), .val (.int z1), .val (.int z2), .val (.int z3), .val (.int z4), .val (.int z5), .val (.int ((1 : Int32) + (z0 &&& (1 : Int32)))), .val (.int ((1 : Int32) + (z1 &&& (1 : Int32)))), .val (.int c4), .val (.int c6), .val (.int c8), .val (.int c10), .val (.ref b13), .val (.ref b17), .val (.int (z4 &&& (65535 : Int32))), .val (.int (z5 &&& (3 : Int32))), .val (.int p2), .val (.ref b23), .val (.ref b26), .val (.ref b29), .val (.int (1 : Int32)), .val (.int (1 : Int32)), .val (.int (((z0.toUInt32 >>> ((1 : Int32) &&& 31).toUInt32).toInt32) &&& (3 : Int32))), .val .null]
                refine Go.by (T' := T42) (f' := (mkF m 325 LL50 [])) (fun _ k => XS.astore X42.here hx rfl (hb hby at_323) rfl rfl (l' := LL50) rfl k) ?_
                refine Go.by (T' := T42) (f' := (mkF m 348 LL50 [])) (fun _ k => XS.goto X42.here hx rfl (pc0 := 325) (pc' := 348) rfl (hb hby at_325) (by decide) (by decide) k) ?_
                refine Go.by (T' := T42) (f' := (mkF m 350 LL50 [(.ref b26)])) (fun _ k => XS.aload X42.here hx rfl (hb hby at_348) rfl rfl k) ?_
                refine Go.by (T' := T42) (f' := (mkF m 352 LL50 [.null, (.ref b26)])) (fun _ k => XS.aload X42.here hx rfl (hb hby at_350) rfl rfl k) ?_
                obtain ⟨cq51, kq51, q51a, q51b, q51c⟩ := isOf hZ e42 E_b26
                obtain ⟨v51, _, ⟨T51, L51, k51, n51⟩, -, X51, ⟨Lc51, hQ51, l51, y51, z51⟩, st51⟩ := X42.virtualBack hx (y := (⟨"com/example/honest_replica/honestreplica/model/Endpoint", "equals", "(Ljava/lang/Object;)Z"⟩ : MethodName)) (z := (⟨"com/example/honest_replica/honestreplica/model/Endpoint", "equals", "(Ljava/lang/Object;)Z"⟩ : MethodName)) hown (mvT hZ (hw _ (List.mem_of_getElem? (i := 52) rfl))) (mvT hZ (hw _ (List.mem_of_getElem? (i := 53) rfl))) (notFace_of_selects (args := #[]) (mvT hZ (hw _ (List.mem_of_getElem? (i := 55) rfl)))) (mvT hZ (hw _ (List.mem_of_getElem? (i := 55) rfl))) (mvT hZ (hw _ (List.mem_of_getElem? (i := 54) rfl))) (by decide) (backOf (W := 0) (rm_qn l Z a0 hw [] b26 T32.heap n0 O) hZ (hw _ (List.mem_of_getElem? (i := 56) rfl)) (hw _ (List.mem_of_getElem? (i := 37) rfl)) (by decide) (by decide)) q51a q51c (g := (mkF m 352 LL50 [.null, (.ref b26)])) rfl (by rw [hml]; rfl) (Steps.refl _) (argsL := [.null]) (rest := []) (lenOf pd_rm1_3 rfl) rfl (by show 2 * 0 + _ ≤ _; exact Nat.le_of_eq rfl) (hb hby at_352) (fun _ _ => ⟨rfl, e42, (by decide : 8 + 0 ≤ _), (by decide : 16 + 0 ≤ _)⟩)
                dsimp only [Pt.U, Pt.locs, Pt.cells, Pt.slots] at X51 l51 y51 z51 st51 hQ51
                subst l51 y51 z51
                obtain ⟨rfl, Nq51, e51⟩ := hQ51
                replace N := Fr.app N Nq51
                refine Go.by (T' := T51) (f' := (mkF m 355 LL50 [(.int (0 : Int32))])) (fun _ k => st51.trans k) ?_
                refine Go.by (T' := T51) (f' := (mkF m 358 LL50 [])) (fun _ k => XS.ifNo X51.here hx rfl (hb hby at_355) rfl ((if0 _ _).trans (teq (by decide : (0 : Int32) = (0 : Int32))).2) k) ?_
                refine Go.by (T' := T51) (f' := (mkF m 359 LL50 [(.int (1 : Int32))])) (fun _ k => XS.iconst X51.here hx rfl (hb hby at_358) k) ?_
                refine Go.by (T' := T51) (f' := (mkF m 363 LL50 [(.int (1 : Int32))])) (fun _ k => XS.goto X51.here hx rfl (pc0 := 359) (pc' := 363) rfl (hb hby at_359) (by decide) (by decide) k) ?_
                obtain ⟨fs, hr, hrun, hended, hW, hsame⟩ := X51.leave (v := some (.int (1 : Int32))) (fun h => by rw [Bd.returns] at h; cases h)
                refine ⟨_, _, retN X51 hx (t := .boolean) Bd.returns (by simp) (hb hby at_363) hr, hrun, hended, _, _, rfl, ?_, ⟨_, rfl⟩, hW, hsame.mono (by decide) (by decide)⟩
                show Q1 n0 (some (.int (1 : Int32))) T51.heap _
                rw [e51]
                exact ⟨rfl, N⟩
              · skip
                refine Go.by (T' := T42) (f' := (mkF m 328 LL41 [])) (fun _ k => XS.icmpYes X42.here hx rfl (pc0 := 319) (pc' := 328) rfl (hb hby at_319) rfl (feq hc319_49).2 (by decide) (by decide) k) ?_
                refine Go.by (T' := T42) (f' := (mkF m 330 LL41 [(.int (((z0.toUInt32 >>> ((1 : Int32) &&& 31).toUInt32).toInt32) &&& (3 : Int32)))])) (fun _ k => XS.iload X42.here hx rfl (hb hby at_328) rfl k) ?_
                refine Go.by (T' := T42) (f' := (mkF m 331 LL41 [(.int (2 : Int32)), (.int (((z0.toUInt32 >>> ((1 : Int32) &&& 31).toUInt32).toInt32) &&& (3 : Int32)))])) (fun _ k => XS.iconst X42.here hx rfl (hb hby at_330) k) ?_
                by_cases hc331_53 : (((z0.toUInt32 >>> ((1 : Int32) &&& 31).toUInt32).toInt32) &&& (3 : Int32)) = (2 : Int32)
                · skip
                  refine Go.by (T' := T42) (f' := (mkF m 334 LL41 [])) (fun _ k => XS.icmpNo X42.here hx rfl (hb hby at_331) rfl (teq hc331_53).2 k) ?_
                  refine Go.by (T' := T42) (f' := (mkF m 336 LL41 [(.ref b23)])) (fun _ k => XS.aload X42.here hx rfl (hb hby at_334) rfl rfl k) ?_
                  let LL54 : Array Slot := #[.val (.int z0), .val (.int z1), .val (.int z2), .val (.int z3), .val (.int z4), .val (.int z5), .val (.int ((1 : Int32) + (z0 &&& (1 : Int32)))), .val (.int ((1 : Int32) + (z1 &&& (1 : Int32)))), .val (.int c4), .val (.int c6), .val (.int c8), .val (.int c10), .val (.ref b13), .val (.ref b17), .val (.int (z4 &&& (65535 : Int32))), .val (.int (z5 &&& (3 : Int32))), .val (.int p2), .val (.ref b23), .val (.ref b26), .val (.ref b29), .val (.int (1 : Int32)), .val (.int (1 : Int32)), .val (.int (((z0.toUInt32 >>> ((1 : Int32) &&& 31).toUInt32).toInt32) &&& (3 : Int32))), .val (.ref b23)]
                  refine Go.by (T' := T42) (f' := (mkF m 338 LL54 [])) (fun _ k => XS.astore X42.here hx rfl (hb hby at_336) rfl rfl (l' := LL54) rfl k) ?_
                  refine Go.by (T' := T42) (f' := (mkF m 348 LL54 [])) (fun _ k => XS.goto X42.here hx rfl (pc0 := 338) (pc' := 348) rfl (hb hby at_338) (by decide) (by decide) k) ?_
                  refine Go.by (T' := T42) (f' := (mkF m 350 LL54 [(.ref b26)])) (fun _ k => XS.aload X42.here hx rfl (hb hby at_348) rfl rfl k) ?_
                  refine Go.by (T' := T42) (f' := (mkF m 352 LL54 [(.ref b23), (.ref b26)])) (fun _ k => XS.aload X42.here hx rfl (hb hby at_350) rfl rfl k) ?_
                  obtain ⟨cq55, kq55, q55a, q55b, q55c⟩ := isOf hZ e42 E_b26
                  obtain ⟨v55, _, ⟨T55, L55, k55, n55⟩, -, X55, ⟨Lc55, hQ55, l55, y55, z55⟩, st55⟩ := X42.virtualBack hx (y := (⟨"com/example/honest_replica/honestreplica/model/Endpoint", "equals", "(Ljava/lang/Object;)Z"⟩ : MethodName)) (z := (⟨"com/example/honest_replica/honestreplica/model/Endpoint", "equals", "(Ljava/lang/Object;)Z"⟩ : MethodName)) hown (mvT hZ (hw _ (List.mem_of_getElem? (i := 52) rfl))) (mvT hZ (hw _ (List.mem_of_getElem? (i := 53) rfl))) (notFace_of_selects (args := #[]) (mvT hZ (hw _ (List.mem_of_getElem? (i := 55) rfl)))) (mvT hZ (hw _ (List.mem_of_getElem? (i := 55) rfl))) (mvT hZ (hw _ (List.mem_of_getElem? (i := 54) rfl))) (by decide) (backOf (W := 0) (rm_qs l Z a0 hw [] b26 b23 T32.heap n0 O E_b23) hZ (hw _ (List.mem_of_getElem? (i := 56) rfl)) (hw _ (List.mem_of_getElem? (i := 37) rfl)) (by decide) (by decide)) q55a q55c (g := (mkF m 352 LL54 [(.ref b23), (.ref b26)])) rfl (by rw [hml]; rfl) (Steps.refl _) (argsL := [(.ref b23)]) (rest := []) (lenOf pd_rm1_3 rfl) rfl (by show 2 * 0 + _ ≤ _; exact Nat.le_of_eq rfl) (hb hby at_352) (fun _ _ => ⟨rfl, e42, (by decide : 8 + 0 ≤ _), (by decide : 16 + 0 ≤ _)⟩)
                  dsimp only [Pt.U, Pt.locs, Pt.cells, Pt.slots] at X55 l55 y55 z55 st55 hQ55
                  subst l55 y55 z55
                  obtain ⟨rfl, Nq55, e55⟩ := hQ55
                  replace N := Fr.app N Nq55
                  refine Go.by (T' := T55) (f' := (mkF m 355 LL54 [(.int (0 : Int32))])) (fun _ k => st55.trans k) ?_
                  refine Go.by (T' := T55) (f' := (mkF m 358 LL54 [])) (fun _ k => XS.ifNo X55.here hx rfl (hb hby at_355) rfl ((if0 _ _).trans (teq (by decide : (0 : Int32) = (0 : Int32))).2) k) ?_
                  refine Go.by (T' := T55) (f' := (mkF m 359 LL54 [(.int (1 : Int32))])) (fun _ k => XS.iconst X55.here hx rfl (hb hby at_358) k) ?_
                  refine Go.by (T' := T55) (f' := (mkF m 363 LL54 [(.int (1 : Int32))])) (fun _ k => XS.goto X55.here hx rfl (pc0 := 359) (pc' := 363) rfl (hb hby at_359) (by decide) (by decide) k) ?_
                  obtain ⟨fs, hr, hrun, hended, hW, hsame⟩ := X55.leave (v := some (.int (1 : Int32))) (fun h => by rw [Bd.returns] at h; cases h)
                  refine ⟨_, _, retN X55 hx (t := .boolean) Bd.returns (by simp) (hb hby at_363) hr, hrun, hended, _, _, rfl, ?_, ⟨_, rfl⟩, hW, hsame.mono (by decide) (by decide)⟩
                  show Q1 n0 (some (.int (1 : Int32))) T55.heap _
                  rw [e55]
                  exact ⟨rfl, N⟩
                · skip
                  refine Go.by (T' := T42) (f' := (mkF m 341 LL41 [])) (fun _ k => XS.icmpYes X42.here hx rfl (pc0 := 331) (pc' := 341) rfl (hb hby at_331) rfl (feq hc331_53).2 (by decide) (by decide) k) ?_
                  refine Go.by (T' := T42) (f' := (mkF m 343 LL41 [(.int (z4 &&& (65535 : Int32)))])) (fun _ k => XS.iload X42.here hx rfl (hb hby at_341) rfl k) ?_
                  obtain ⟨v57, _, ⟨T57, L57, k57, n57⟩, -, X57, ⟨Lc57, hQ57, l57, y57, z57⟩, st57⟩ := Jvm.LawKit.callS X42 hx (y := (⟨"java/lang/Integer", "valueOf", "(I)Ljava/lang/Integer;"⟩ : MethodName)) hown (mvT hZ (hw _ (List.mem_of_getElem? (i := 71) rfl))) (mvT hZ (hw _ (List.mem_of_getElem? (i := 72) rfl))) (mvT hZ (hw _ (List.mem_of_getElem? (i := 73) rfl))) (mvT hZ (hw _ (List.mem_of_getElem? (i := 74) rfl))) (by decide) (backOf (W := 0) (rm_vo l Z a0 hw [] (z4 &&& (65535 : Int32)) wc cl zc hS T32.heap n0 O) hZ (hw _ (List.mem_of_getElem? (i := 74) rfl)) (hw _ (List.mem_of_getElem? (i := 73) rfl)) (by decide) (by decide)) (g := (mkF m 343 LL41 [(.int (z4 &&& (65535 : Int32)))])) rfl (by rw [hml]; rfl) (argsL := [(.int (z4 &&& (65535 : Int32)))]) (rest := []) (lenOf pd_rm1_4 rfl) rfl (by show 2 * 0 + _ ≤ _; exact Nat.le_of_eq rfl) (hb hby at_343) (fun _ _ => ⟨rfl, e42, (by decide : 8 + 1 ≤ _), (by decide : 16 + 1 ≤ _)⟩)
                  dsimp only [Pt.U, Pt.locs, Pt.cells, Pt.slots] at X57 l57 y57 z57 st57 hQ57
                  subst l57 y57 z57
                  obtain ⟨bx57, rfl, Nq57, K57, E_bx57⟩ := hQ57
                  replace N := Fr.app N Nq57
                  replace V_b13 := V_b13.keep K57 nin0
                  replace V_b17 := V_b17.keep K57 nin0
                  replace E_b23 := E_b23.keep K57
                  replace Gc24 := Gc24.keep K57 nin0
                  replace Gv24 := Gv24.keep K57 nin0
                  replace Vt24 := Vt24.keep K57 nin0
                  replace E_b26 := E_b26.keep K57
                  replace Gh27 := Gh27.keep K57 nin0
                  replace Gp27 := Gp27.keep K57 nin0
                  replace E_b29 := E_b29.keep K57
                  replace E_b30 := E_b30.keep K57
                  replace Gc31 := Gc31.keep K57 nin0
                  replace Gv31 := Gv31.keep K57 nin0
                  replace Vt31 := Vt31.keep K57 nin0
                  replace Gh32 := Gh32.keep K57 nin0
                  replace Gp32 := Gp32.keep K57 nin0
                  replace O := O.keep K57 all0
                  replace K := K.trans K57 all0
                  refine Go.by (T' := T57) (f' := (mkF m 346 LL41 [(.ref bx57)])) (st57) ?_
                  let LL58 : Array Slot := #[.val (.int z0), .val (.int z1), .val (.int z2), .val (.int z3), .val (.int z4), .val (.int z5), .val (.int ((1 : Int32) + (z0 &&& (1 : Int32)))), .val (.int ((1 : Int32) + (z1 &&& (1 : Int32)))), .val (.int c4), .val (.int c6), .val (.int c8), .val (.int c10), .val (.ref b13), .val (.ref b17), .val (.int (z4 &&& (65535 : Int32))), .val (.int (z5 &&& (3 : Int32))), .val (.int p2), .val (.ref b23), .val (.ref b26), .val (.ref b29), .val (.int (1 : Int32)), .val (.int (1 : Int32)), .val (.int (((z0.toUInt32 >>> ((1 : Int32) &&& 31).toUInt32).toInt32) &&& (3 : Int32))), .val (.ref bx57)]
                  refine Go.by (T' := T57) (f' := (mkF m 348 LL58 [])) (fun _ k => XS.astore X57.here hx rfl (hb hby at_346) rfl rfl (l' := LL58) rfl k) ?_
                  refine Go.by (T' := T57) (f' := (mkF m 350 LL58 [(.ref b26)])) (fun _ k => XS.aload X57.here hx rfl (hb hby at_348) rfl rfl k) ?_
                  refine Go.by (T' := T57) (f' := (mkF m 352 LL58 [(.ref bx57), (.ref b26)])) (fun _ k => XS.aload X57.here hx rfl (hb hby at_350) rfl rfl k) ?_
                  obtain ⟨cq59, kq59, q59a, q59b, q59c⟩ := isOf hZ rfl E_b26
                  obtain ⟨v59, _, ⟨T59, L59, k59, n59⟩, -, X59, ⟨Lc59, hQ59, l59, y59, z59⟩, st59⟩ := X57.virtualBack hx (y := (⟨"com/example/honest_replica/honestreplica/model/Endpoint", "equals", "(Ljava/lang/Object;)Z"⟩ : MethodName)) (z := (⟨"com/example/honest_replica/honestreplica/model/Endpoint", "equals", "(Ljava/lang/Object;)Z"⟩ : MethodName)) hown (mvT hZ (hw _ (List.mem_of_getElem? (i := 52) rfl))) (mvT hZ (hw _ (List.mem_of_getElem? (i := 53) rfl))) (notFace_of_selects (args := #[]) (mvT hZ (hw _ (List.mem_of_getElem? (i := 55) rfl)))) (mvT hZ (hw _ (List.mem_of_getElem? (i := 55) rfl))) (mvT hZ (hw _ (List.mem_of_getElem? (i := 54) rfl))) (by decide) (backOf (W := 0) (rm_qi l Z a0 hw [] b26 bx57 T57.heap n0 O E_bx57) hZ (hw _ (List.mem_of_getElem? (i := 56) rfl)) (hw _ (List.mem_of_getElem? (i := 37) rfl)) (by decide) (by decide)) q59a q59c (g := (mkF m 352 LL58 [(.ref bx57), (.ref b26)])) rfl (by rw [hml]; rfl) (Steps.refl _) (argsL := [(.ref bx57)]) (rest := []) (lenOf pd_rm1_3 rfl) rfl (by show 2 * 0 + _ ≤ _; exact Nat.le_of_eq rfl) (hb hby at_352) (fun _ _ => ⟨rfl, rfl, (by decide : 9 + 0 ≤ _), (by decide : 17 + 0 ≤ _)⟩)
                  dsimp only [Pt.U, Pt.locs, Pt.cells, Pt.slots] at X59 l59 y59 z59 st59 hQ59
                  subst l59 y59 z59
                  obtain ⟨rfl, Nq59, e59⟩ := hQ59
                  replace N := Fr.app N Nq59
                  refine Go.by (T' := T59) (f' := (mkF m 355 LL58 [(.int (0 : Int32))])) (fun _ k => st59.trans k) ?_
                  refine Go.by (T' := T59) (f' := (mkF m 358 LL58 [])) (fun _ k => XS.ifNo X59.here hx rfl (hb hby at_355) rfl ((if0 _ _).trans (teq (by decide : (0 : Int32) = (0 : Int32))).2) k) ?_
                  refine Go.by (T' := T59) (f' := (mkF m 359 LL58 [(.int (1 : Int32))])) (fun _ k => XS.iconst X59.here hx rfl (hb hby at_358) k) ?_
                  refine Go.by (T' := T59) (f' := (mkF m 363 LL58 [(.int (1 : Int32))])) (fun _ k => XS.goto X59.here hx rfl (pc0 := 359) (pc' := 363) rfl (hb hby at_359) (by decide) (by decide) k) ?_
                  obtain ⟨fs, hr, hrun, hended, hW, hsame⟩ := X59.leave (v := some (.int (1 : Int32))) (fun h => by rw [Bd.returns] at h; cases h)
                  refine ⟨_, _, retN X59 hx (t := .boolean) Bd.returns (by simp) (hb hby at_363) hr, hrun, hended, _, _, rfl, ?_, ⟨_, rfl⟩, hW, hsame.mono (by decide) (by decide)⟩
                  show Q1 n0 (some (.int (1 : Int32))) T59.heap _
                  rw [e59]
                  exact ⟨rfl, N⟩
          · skip
            refine Go.by (T' := T32) (f' := (mkF m 259 LL37 [])) (fun _ k => XS.icmpYes X32.here hx rfl (pc0 := 252) (pc' := 259) rfl (hb hby at_252) rfl (feq hc252_39).2 (by decide) (by decide) k) ?_
            refine Go.by (T' := T32) (f' := (mkF m 260 LL37 [(.int (0 : Int32))])) (fun _ k => XS.iconst X32.here hx rfl (hb hby at_259) k) ?_
            let LL61 : Array Slot := #[.val (.int z0), .val (.int z1), .val (.int z2), .val (.int z3), .val (.int z4), .val (.int z5), .val (.int ((1 : Int32) + (z0 &&& (1 : Int32)))), .val (.int ((1 : Int32) + (z1 &&& (1 : Int32)))), .val (.int c4), .val (.int c6), .val (.int c8), .val (.int c10), .val (.ref b13), .val (.ref b17), .val (.int (z4 &&& (65535 : Int32))), .val (.int (z5 &&& (3 : Int32))), .val (.int p2), .val (.ref b23), .val (.ref b26), .val (.ref b29), .val (.int (1 : Int32)), .val (.int (0 : Int32)), .unset, .unset]
            refine Go.by (T' := T32) (f' := (mkF m 262 LL61 [])) (fun _ k => XS.istore X32.here hx rfl (hb hby at_260) rfl (l' := LL61) rfl k) ?_
            refine Go.by (T' := T32) (f' := (mkF m 263 LL61 [(.int z0)])) (fun _ k => XS.iloadN X32.here hx rfl (hb hby at_262) rfl k) ?_
            refine Go.by (T' := T32) (f' := (mkF m 264 LL61 [(.int (1 : Int32)), (.int z0)])) (fun _ k => XS.iconst X32.here hx rfl (hb hby at_263) k) ?_
            refine Go.by (T' := T32) (f' := (mkF m 265 LL61 [(.int ((z0.toUInt32 >>> ((1 : Int32) &&& 31).toUInt32).toInt32))])) (fun _ k => XS.iushr X32.here hx rfl (hb hby at_264) rfl k) ?_
            refine Go.by (T' := T32) (f' := (mkF m 266 LL61 [(.int (3 : Int32)), (.int ((z0.toUInt32 >>> ((1 : Int32) &&& 31).toUInt32).toInt32))])) (fun _ k => XS.iconst X32.here hx rfl (hb hby at_265) k) ?_
            refine Go.by (T' := T32) (f' := (mkF m 267 LL61 [(.int (((z0.toUInt32 >>> ((1 : Int32) &&& 31).toUInt32).toInt32) &&& (3 : Int32)))])) (fun _ k => XS.iand X32.here hx rfl (hb hby at_266) rfl k) ?_
            let LL62 : Array Slot := #[.val (.int z0), .val (.int z1), .val (.int z2), .val (.int z3), .val (.int z4), .val (.int z5), .val (.int ((1 : Int32) + (z0 &&& (1 : Int32)))), .val (.int ((1 : Int32) + (z1 &&& (1 : Int32)))), .val (.int c4), .val (.int c6), .val (.int c8), .val (.int c10), .val (.ref b13), .val (.ref b17), .val (.int (z4 &&& (65535 : Int32))), .val (.int (z5 &&& (3 : Int32))), .val (.int p2), .val (.ref b23), .val (.ref b26), .val (.ref b29), .val (.int (1 : Int32)), .val (.int (0 : Int32)), .val (.int (((z0.toUInt32 >>> ((1 : Int32) &&& 31).toUInt32).toInt32) &&& (3 : Int32))), .unset]
            refine Go.by (T' := T32) (f' := (mkF m 269 LL62 [])) (fun _ k => XS.istore X32.here hx rfl (hb hby at_267) rfl (l' := LL62) rfl k) ?_
            refine Go.by (T' := T32) (f' := (mkF m 271 LL62 [(.ref b26)])) (fun _ k => XS.aload X32.here hx rfl (hb hby at_269) rfl rfl k) ?_
            refine Go.by (T' := T32) (f' := (mkF m 273 LL62 [(.ref b26), (.ref b26)])) (fun _ k => XS.aload X32.here hx rfl (hb hby at_271) rfl rfl k) ?_
            obtain ⟨cq63, kq63, q63a, q63b, q63c⟩ := isOf hZ rfl E_b26
            obtain ⟨v63, _, ⟨T63, L63, k63, n63⟩, -, X63, ⟨Lc63, hQ63, l63, y63, z63⟩, st63⟩ := X32.virtualBack hx (y := (⟨"com/example/honest_replica/honestreplica/model/Endpoint", "equals", "(Ljava/lang/Object;)Z"⟩ : MethodName)) (z := (⟨"com/example/honest_replica/honestreplica/model/Endpoint", "equals", "(Ljava/lang/Object;)Z"⟩ : MethodName)) hown (mvT hZ (hw _ (List.mem_of_getElem? (i := 52) rfl))) (mvT hZ (hw _ (List.mem_of_getElem? (i := 53) rfl))) (notFace_of_selects (args := #[]) (mvT hZ (hw _ (List.mem_of_getElem? (i := 55) rfl)))) (mvT hZ (hw _ (List.mem_of_getElem? (i := 55) rfl))) (mvT hZ (hw _ (List.mem_of_getElem? (i := 54) rfl))) (by decide) (backOf (W := 0) (rm_q l Z a0 hw [] b26 b26 b23 b23 (z4 &&& (65535 : Int32)) (z4 &&& (65535 : Int32)) t24 kb24 (1 : Int32) ((([c4] : List Int32).map (fun c => c.toInt8.toInt32)).map Value.int) ([c4] : List Int32) t24 kb24 (1 : Int32) ((([c4] : List Int32).map (fun c => c.toInt8.toInt32)).map Value.int) ([c4] : List Int32) wc cl zc hS T32.heap n0 O E_b26 E_b26 Gh27 Gp27 Gh27 Gp27 E_b23 Gv24 Gc24 Vt24 hcd24 (own_up _ hp24) (Nat.le_of_ble_eq_true rfl) E_b23 Gv24 Gc24 Vt24 hcd24 (own_up _ hp24) (Nat.le_of_ble_eq_true rfl)) hZ (hw _ (List.mem_of_getElem? (i := 56) rfl)) (hw _ (List.mem_of_getElem? (i := 37) rfl)) (by decide) (by decide)) q63a q63c (g := (mkF m 273 LL62 [(.ref b26), (.ref b26)])) rfl (by rw [hml]; rfl) (Steps.refl _) (argsL := [(.ref b26)]) (rest := []) (lenOf pd_rm1_3 rfl) rfl (by show 2 * 0 + _ ≤ _; exact Nat.le_of_eq rfl) (hb hby at_273) (fun _ _ => ⟨rfl, rfl, (by decide : 8 + 0 ≤ _), (by decide : 16 + 0 ≤ _)⟩)
            dsimp only [Pt.U, Pt.locs, Pt.cells, Pt.slots] at X63 l63 y63 z63 st63 hQ63
            subst l63 y63 z63
            obtain ⟨hv63, Nq63, e63⟩ := hQ63
            have hz63 : eqs ([c4] : List Int32) (z4 &&& (65535 : Int32)) ([c4] : List Int32) (z4 &&& (65535 : Int32)) = 1 := by simp [eqs]
            rw [hz63] at hv63
            subst hv63
            replace N := Fr.app N Nq63
            refine Go.by (T' := T63) (f' := (mkF m 276 LL62 [(.int (1 : Int32))])) (fun _ k => st63.trans k) ?_
            refine Go.by (T' := T63) (f' := (mkF m 281 LL62 [])) (fun _ k => XS.ifYes X63.here hx rfl (pc0 := 276) (pc' := 281) rfl (hb hby at_276) rfl ((if0 _ _).trans (feq (by decide : ¬ ((1 : Int32) = (0 : Int32)))).2) (by decide) (by decide) k) ?_
            refine Go.by (T' := T63) (f' := (mkF m 283 LL62 [(.int (((z0.toUInt32 >>> ((1 : Int32) &&& 31).toUInt32).toInt32) &&& (3 : Int32)))])) (fun _ k => XS.iload X63.here hx rfl (hb hby at_281) rfl k) ?_
            by_cases hc283_65 : (((z0.toUInt32 >>> ((1 : Int32) &&& 31).toUInt32).toInt32) &&& (3 : Int32)) = (0 : Int32)
            · skip
              refine Go.by (T' := T63) (f' := (mkF m 286 LL62 [])) (fun _ k => XS.ifNo X63.here hx rfl (hb hby at_283) rfl ((if0 _ _).trans (teq hc283_65).2) k) ?_
              refine Go.by (T' := T63) (f' := (mkF m 288 LL62 [(.ref b26)])) (fun _ k => XS.aload X63.here hx rfl (hb hby at_286) rfl rfl k) ?_
              refine Go.by (T' := T63) (f' := (mkF m 290 LL62 [(.ref b29), (.ref b26)])) (fun _ k => XS.aload X63.here hx rfl (hb hby at_288) rfl rfl k) ?_
              obtain ⟨cq66, kq66, q66a, q66b, q66c⟩ := isOf hZ e63 E_b26
              obtain ⟨v66, _, ⟨T66, L66, k66, n66⟩, -, X66, ⟨Lc66, hQ66, l66, y66, z66⟩, st66⟩ := X63.virtualBack hx (y := (⟨"com/example/honest_replica/honestreplica/model/Endpoint", "equals", "(Ljava/lang/Object;)Z"⟩ : MethodName)) (z := (⟨"com/example/honest_replica/honestreplica/model/Endpoint", "equals", "(Ljava/lang/Object;)Z"⟩ : MethodName)) hown (mvT hZ (hw _ (List.mem_of_getElem? (i := 52) rfl))) (mvT hZ (hw _ (List.mem_of_getElem? (i := 53) rfl))) (notFace_of_selects (args := #[]) (mvT hZ (hw _ (List.mem_of_getElem? (i := 55) rfl)))) (mvT hZ (hw _ (List.mem_of_getElem? (i := 55) rfl))) (mvT hZ (hw _ (List.mem_of_getElem? (i := 54) rfl))) (by decide) (backOf (W := 0) (rm_q l Z a0 hw [] b26 b29 b23 b30 (z4 &&& (65535 : Int32)) p2 t24 kb24 (1 : Int32) ((([c4] : List Int32).map (fun c => c.toInt8.toInt32)).map Value.int) ([c4] : List Int32) t31 kb31 (1 : Int32) ((([c8] : List Int32).map (fun c => c.toInt8.toInt32)).map Value.int) ([c8] : List Int32) wc cl zc hS T32.heap n0 O E_b26 E_b29 Gh27 Gp27 Gh32 Gp32 E_b23 Gv24 Gc24 Vt24 hcd24 (own_up _ hp24) (Nat.le_of_ble_eq_true rfl) E_b30 Gv31 Gc31 Vt31 hcd31 (own_up _ hp31) (Nat.le_of_ble_eq_true rfl)) hZ (hw _ (List.mem_of_getElem? (i := 56) rfl)) (hw _ (List.mem_of_getElem? (i := 37) rfl)) (by decide) (by decide)) q66a q66c (g := (mkF m 290 LL62 [(.ref b29), (.ref b26)])) rfl (by rw [hml]; rfl) (Steps.refl _) (argsL := [(.ref b29)]) (rest := []) (lenOf pd_rm1_3 rfl) rfl (by show 2 * 0 + _ ≤ _; exact Nat.le_of_eq rfl) (hb hby at_290) (fun _ _ => ⟨rfl, e63, (by decide : 8 + 0 ≤ _), (by decide : 16 + 0 ≤ _)⟩)
              dsimp only [Pt.U, Pt.locs, Pt.cells, Pt.slots] at X66 l66 y66 z66 st66 hQ66
              subst l66 y66 z66
              obtain ⟨hv66, Nq66, e66⟩ := hQ66
              have hz66 : eqs ([c4] : List Int32) (z4 &&& (65535 : Int32)) ([c8] : List Int32) p2 = 0 := by simp [eqs, hc220_35, hc252_39]
              rw [hz66] at hv66
              subst hv66
              replace N := Fr.app N Nq66
              refine Go.by (T' := T66) (f' := (mkF m 293 LL62 [(.int (0 : Int32))])) (fun _ k => st66.trans k) ?_
              refine Go.by (T' := T66) (f' := (mkF m 295 LL62 [(.int (0 : Int32)), (.int (0 : Int32))])) (fun _ k => XS.iload X66.here hx rfl (hb hby at_293) rfl k) ?_
              refine Go.by (T' := T66) (f' := (mkF m 298 LL62 [])) (fun _ k => XS.icmpNo X66.here hx rfl (hb hby at_295) rfl (teq (by decide : (0 : Int32) = (0 : Int32))).2 k) ?_
              refine Go.by (T' := T66) (f' := (mkF m 300 LL62 [(.ref b29)])) (fun _ k => XS.aload X66.here hx rfl (hb hby at_298) rfl rfl k) ?_
              refine Go.by (T' := T66) (f' := (mkF m 302 LL62 [(.ref b26), (.ref b29)])) (fun _ k => XS.aload X66.here hx rfl (hb hby at_300) rfl rfl k) ?_
              obtain ⟨cq68, kq68, q68a, q68b, q68c⟩ := isOf hZ e66 E_b29
              obtain ⟨v68, _, ⟨T68, L68, k68, n68⟩, -, X68, ⟨Lc68, hQ68, l68, y68, z68⟩, st68⟩ := X66.virtualBack hx (y := (⟨"com/example/honest_replica/honestreplica/model/Endpoint", "equals", "(Ljava/lang/Object;)Z"⟩ : MethodName)) (z := (⟨"com/example/honest_replica/honestreplica/model/Endpoint", "equals", "(Ljava/lang/Object;)Z"⟩ : MethodName)) hown (mvT hZ (hw _ (List.mem_of_getElem? (i := 52) rfl))) (mvT hZ (hw _ (List.mem_of_getElem? (i := 53) rfl))) (notFace_of_selects (args := #[]) (mvT hZ (hw _ (List.mem_of_getElem? (i := 55) rfl)))) (mvT hZ (hw _ (List.mem_of_getElem? (i := 55) rfl))) (mvT hZ (hw _ (List.mem_of_getElem? (i := 54) rfl))) (by decide) (backOf (W := 0) (rm_q l Z a0 hw [] b29 b26 b30 b23 p2 (z4 &&& (65535 : Int32)) t31 kb31 (1 : Int32) ((([c8] : List Int32).map (fun c => c.toInt8.toInt32)).map Value.int) ([c8] : List Int32) t24 kb24 (1 : Int32) ((([c4] : List Int32).map (fun c => c.toInt8.toInt32)).map Value.int) ([c4] : List Int32) wc cl zc hS T32.heap n0 O E_b29 E_b26 Gh32 Gp32 Gh27 Gp27 E_b30 Gv31 Gc31 Vt31 hcd31 (own_up _ hp31) (Nat.le_of_ble_eq_true rfl) E_b23 Gv24 Gc24 Vt24 hcd24 (own_up _ hp24) (Nat.le_of_ble_eq_true rfl)) hZ (hw _ (List.mem_of_getElem? (i := 56) rfl)) (hw _ (List.mem_of_getElem? (i := 37) rfl)) (by decide) (by decide)) q68a q68c (g := (mkF m 302 LL62 [(.ref b26), (.ref b29)])) rfl (by rw [hml]; rfl) (Steps.refl _) (argsL := [(.ref b26)]) (rest := []) (lenOf pd_rm1_3 rfl) rfl (by show 2 * 0 + _ ≤ _; exact Nat.le_of_eq rfl) (hb hby at_302) (fun _ _ => ⟨rfl, e66, (by decide : 8 + 0 ≤ _), (by decide : 16 + 0 ≤ _)⟩)
              dsimp only [Pt.U, Pt.locs, Pt.cells, Pt.slots] at X68 l68 y68 z68 st68 hQ68
              subst l68 y68 z68
              obtain ⟨hv68, Nq68, e68⟩ := hQ68
              have hz68 : eqs ([c8] : List Int32) p2 ([c4] : List Int32) (z4 &&& (65535 : Int32)) = 0 := by simp [eqs, hc220_35, (show ¬ p2 = (z4 &&& (65535 : Int32)) from fun q => hc252_39 q.symm)]
              rw [hz68] at hv68
              subst hv68
              replace N := Fr.app N Nq68
              refine Go.by (T' := T68) (f' := (mkF m 305 LL62 [(.int (0 : Int32))])) (fun _ k => st68.trans k) ?_
              refine Go.by (T' := T68) (f' := (mkF m 307 LL62 [(.int (0 : Int32)), (.int (0 : Int32))])) (fun _ k => XS.iload X68.here hx rfl (hb hby at_305) rfl k) ?_
              refine Go.by (T' := T68) (f' := (mkF m 310 LL62 [])) (fun _ k => XS.icmpNo X68.here hx rfl (hb hby at_307) rfl (teq (by decide : (0 : Int32) = (0 : Int32))).2 k) ?_
              refine Go.by (T' := T68) (f' := (mkF m 311 LL62 [(.int (1 : Int32))])) (fun _ k => XS.iconst X68.here hx rfl (hb hby at_310) k) ?_
              refine Go.by (T' := T68) (f' := (mkF m 315 LL62 [(.int (1 : Int32))])) (fun _ k => XS.goto X68.here hx rfl (pc0 := 311) (pc' := 315) rfl (hb hby at_311) (by decide) (by decide) k) ?_
              obtain ⟨fs, hr, hrun, hended, hW, hsame⟩ := X68.leave (v := some (.int (1 : Int32))) (fun h => by rw [Bd.returns] at h; cases h)
              refine ⟨_, _, retN X68 hx (t := .boolean) Bd.returns (by simp) (hb hby at_315) hr, hrun, hended, _, _, rfl, ?_, ⟨_, rfl⟩, hW, hsame.mono (by decide) (by decide)⟩
              show Q1 n0 (some (.int (1 : Int32))) T68.heap _
              rw [e68]
              exact ⟨rfl, N⟩
            · skip
              refine Go.by (T' := T63) (f' := (mkF m 316 LL62 [])) (fun _ k => XS.ifYes X63.here hx rfl (pc0 := 283) (pc' := 316) rfl (hb hby at_283) rfl ((if0 _ _).trans (feq hc283_65).2) (by decide) (by decide) k) ?_
              refine Go.by (T' := T63) (f' := (mkF m 318 LL62 [(.int (((z0.toUInt32 >>> ((1 : Int32) &&& 31).toUInt32).toInt32) &&& (3 : Int32)))])) (fun _ k => XS.iload X63.here hx rfl (hb hby at_316) rfl k) ?_
              refine Go.by (T' := T63) (f' := (mkF m 319 LL62 [(.int (1 : Int32)), (.int (((z0.toUInt32 >>> ((1 : Int32) &&& 31).toUInt32).toInt32) &&& (3 : Int32)))])) (fun _ k => XS.iconst X63.here hx rfl (hb hby at_318) k) ?_
              by_cases hc319_70 : (((z0.toUInt32 >>> ((1 : Int32) &&& 31).toUInt32).toInt32) &&& (3 : Int32)) = (1 : Int32)
              · skip
                refine Go.by (T' := T63) (f' := (mkF m 322 LL62 [])) (fun _ k => XS.icmpNo X63.here hx rfl (hb hby at_319) rfl (teq hc319_70).2 k) ?_
                refine Go.by (T' := T63) (f' := (mkF m 323 LL62 [.null])) (fun _ k => XS.aconstNull X63.here hx rfl (hb hby at_322) k) ?_
                let LL71 : Array Slot := #[.val (.int z0), .val (.int z1), .val (.int z2), .val (.int z3), .val (.int z4), .val (.int z5), .val (.int ((1 : Int32) + (z0 &&& (1 : Int32)))), .val (.int ((1 : Int32) + (z1 &&& (1 : Int32)))), .val (.int c4), .val (.int c6), .val (.int c8), .val (.int c10), .val (.ref b13), .val (.ref b17), .val (.int (z4 &&& (65535 : Int32))), .val (.int (z5 &&& (3 : Int32))), .val (.int p2), .val (.ref b23), .val (.ref b26), .val (.ref b29), .val (.int (1 : Int32)), .val (.int (0 : Int32)), .val (.int (((z0.toUInt32 >>> ((1 : Int32) &&& 31).toUInt32).toInt32) &&& (3 : Int32))), .val .null]
                refine Go.by (T' := T63) (f' := (mkF m 325 LL71 [])) (fun _ k => XS.astore X63.here hx rfl (hb hby at_323) rfl rfl (l' := LL71) rfl k) ?_
                refine Go.by (T' := T63) (f' := (mkF m 348 LL71 [])) (fun _ k => XS.goto X63.here hx rfl (pc0 := 325) (pc' := 348) rfl (hb hby at_325) (by decide) (by decide) k) ?_
                refine Go.by (T' := T63) (f' := (mkF m 350 LL71 [(.ref b26)])) (fun _ k => XS.aload X63.here hx rfl (hb hby at_348) rfl rfl k) ?_
                refine Go.by (T' := T63) (f' := (mkF m 352 LL71 [.null, (.ref b26)])) (fun _ k => XS.aload X63.here hx rfl (hb hby at_350) rfl rfl k) ?_
                obtain ⟨cq72, kq72, q72a, q72b, q72c⟩ := isOf hZ e63 E_b26
                obtain ⟨v72, _, ⟨T72, L72, k72, n72⟩, -, X72, ⟨Lc72, hQ72, l72, y72, z72⟩, st72⟩ := X63.virtualBack hx (y := (⟨"com/example/honest_replica/honestreplica/model/Endpoint", "equals", "(Ljava/lang/Object;)Z"⟩ : MethodName)) (z := (⟨"com/example/honest_replica/honestreplica/model/Endpoint", "equals", "(Ljava/lang/Object;)Z"⟩ : MethodName)) hown (mvT hZ (hw _ (List.mem_of_getElem? (i := 52) rfl))) (mvT hZ (hw _ (List.mem_of_getElem? (i := 53) rfl))) (notFace_of_selects (args := #[]) (mvT hZ (hw _ (List.mem_of_getElem? (i := 55) rfl)))) (mvT hZ (hw _ (List.mem_of_getElem? (i := 55) rfl))) (mvT hZ (hw _ (List.mem_of_getElem? (i := 54) rfl))) (by decide) (backOf (W := 0) (rm_qn l Z a0 hw [] b26 T32.heap n0 O) hZ (hw _ (List.mem_of_getElem? (i := 56) rfl)) (hw _ (List.mem_of_getElem? (i := 37) rfl)) (by decide) (by decide)) q72a q72c (g := (mkF m 352 LL71 [.null, (.ref b26)])) rfl (by rw [hml]; rfl) (Steps.refl _) (argsL := [.null]) (rest := []) (lenOf pd_rm1_3 rfl) rfl (by show 2 * 0 + _ ≤ _; exact Nat.le_of_eq rfl) (hb hby at_352) (fun _ _ => ⟨rfl, e63, (by decide : 8 + 0 ≤ _), (by decide : 16 + 0 ≤ _)⟩)
                dsimp only [Pt.U, Pt.locs, Pt.cells, Pt.slots] at X72 l72 y72 z72 st72 hQ72
                subst l72 y72 z72
                obtain ⟨rfl, Nq72, e72⟩ := hQ72
                replace N := Fr.app N Nq72
                refine Go.by (T' := T72) (f' := (mkF m 355 LL71 [(.int (0 : Int32))])) (fun _ k => st72.trans k) ?_
                refine Go.by (T' := T72) (f' := (mkF m 358 LL71 [])) (fun _ k => XS.ifNo X72.here hx rfl (hb hby at_355) rfl ((if0 _ _).trans (teq (by decide : (0 : Int32) = (0 : Int32))).2) k) ?_
                refine Go.by (T' := T72) (f' := (mkF m 359 LL71 [(.int (1 : Int32))])) (fun _ k => XS.iconst X72.here hx rfl (hb hby at_358) k) ?_
                refine Go.by (T' := T72) (f' := (mkF m 363 LL71 [(.int (1 : Int32))])) (fun _ k => XS.goto X72.here hx rfl (pc0 := 359) (pc' := 363) rfl (hb hby at_359) (by decide) (by decide) k) ?_
                obtain ⟨fs, hr, hrun, hended, hW, hsame⟩ := X72.leave (v := some (.int (1 : Int32))) (fun h => by rw [Bd.returns] at h; cases h)
                refine ⟨_, _, retN X72 hx (t := .boolean) Bd.returns (by simp) (hb hby at_363) hr, hrun, hended, _, _, rfl, ?_, ⟨_, rfl⟩, hW, hsame.mono (by decide) (by decide)⟩
                show Q1 n0 (some (.int (1 : Int32))) T72.heap _
                rw [e72]
                exact ⟨rfl, N⟩
              · skip
                refine Go.by (T' := T63) (f' := (mkF m 328 LL62 [])) (fun _ k => XS.icmpYes X63.here hx rfl (pc0 := 319) (pc' := 328) rfl (hb hby at_319) rfl (feq hc319_70).2 (by decide) (by decide) k) ?_
                refine Go.by (T' := T63) (f' := (mkF m 330 LL62 [(.int (((z0.toUInt32 >>> ((1 : Int32) &&& 31).toUInt32).toInt32) &&& (3 : Int32)))])) (fun _ k => XS.iload X63.here hx rfl (hb hby at_328) rfl k) ?_
                refine Go.by (T' := T63) (f' := (mkF m 331 LL62 [(.int (2 : Int32)), (.int (((z0.toUInt32 >>> ((1 : Int32) &&& 31).toUInt32).toInt32) &&& (3 : Int32)))])) (fun _ k => XS.iconst X63.here hx rfl (hb hby at_330) k) ?_
                by_cases hc331_74 : (((z0.toUInt32 >>> ((1 : Int32) &&& 31).toUInt32).toInt32) &&& (3 : Int32)) = (2 : Int32)
                · skip
                  refine Go.by (T' := T63) (f' := (mkF m 334 LL62 [])) (fun _ k => XS.icmpNo X63.here hx rfl (hb hby at_331) rfl (teq hc331_74).2 k) ?_
                  refine Go.by (T' := T63) (f' := (mkF m 336 LL62 [(.ref b23)])) (fun _ k => XS.aload X63.here hx rfl (hb hby at_334) rfl rfl k) ?_
                  let LL75 : Array Slot := #[.val (.int z0), .val (.int z1), .val (.int z2), .val (.int z3), .val (.int z4), .val (.int z5), .val (.int ((1 : Int32) + (z0 &&& (1 : Int32)))), .val (.int ((1 : Int32) + (z1 &&& (1 : Int32)))), .val (.int c4), .val (.int c6), .val (.int c8), .val (.int c10), .val (.ref b13), .val (.ref b17), .val (.int (z4 &&& (65535 : Int32))), .val (.int (z5 &&& (3 : Int32))), .val (.int p2), .val (.ref b23), .val (.ref b26), .val (.ref b29), .val (.int (1 : Int32)), .val (.int (0 : Int32)), .val (.int (((z0.toUInt32 >>> ((1 : Int32) &&& 31).toUInt32).toInt32) &&& (3 : Int32))), .val (.ref b23)]
                  refine Go.by (T' := T63) (f' := (mkF m 338 LL75 [])) (fun _ k => XS.astore X63.here hx rfl (hb hby at_336) rfl rfl (l' := LL75) rfl k) ?_
                  refine Go.by (T' := T63) (f' := (mkF m 348 LL75 [])) (fun _ k => XS.goto X63.here hx rfl (pc0 := 338) (pc' := 348) rfl (hb hby at_338) (by decide) (by decide) k) ?_
                  refine Go.by (T' := T63) (f' := (mkF m 350 LL75 [(.ref b26)])) (fun _ k => XS.aload X63.here hx rfl (hb hby at_348) rfl rfl k) ?_
                  refine Go.by (T' := T63) (f' := (mkF m 352 LL75 [(.ref b23), (.ref b26)])) (fun _ k => XS.aload X63.here hx rfl (hb hby at_350) rfl rfl k) ?_
                  obtain ⟨cq76, kq76, q76a, q76b, q76c⟩ := isOf hZ e63 E_b26
                  obtain ⟨v76, _, ⟨T76, L76, k76, n76⟩, -, X76, ⟨Lc76, hQ76, l76, y76, z76⟩, st76⟩ := X63.virtualBack hx (y := (⟨"com/example/honest_replica/honestreplica/model/Endpoint", "equals", "(Ljava/lang/Object;)Z"⟩ : MethodName)) (z := (⟨"com/example/honest_replica/honestreplica/model/Endpoint", "equals", "(Ljava/lang/Object;)Z"⟩ : MethodName)) hown (mvT hZ (hw _ (List.mem_of_getElem? (i := 52) rfl))) (mvT hZ (hw _ (List.mem_of_getElem? (i := 53) rfl))) (notFace_of_selects (args := #[]) (mvT hZ (hw _ (List.mem_of_getElem? (i := 55) rfl)))) (mvT hZ (hw _ (List.mem_of_getElem? (i := 55) rfl))) (mvT hZ (hw _ (List.mem_of_getElem? (i := 54) rfl))) (by decide) (backOf (W := 0) (rm_qs l Z a0 hw [] b26 b23 T32.heap n0 O E_b23) hZ (hw _ (List.mem_of_getElem? (i := 56) rfl)) (hw _ (List.mem_of_getElem? (i := 37) rfl)) (by decide) (by decide)) q76a q76c (g := (mkF m 352 LL75 [(.ref b23), (.ref b26)])) rfl (by rw [hml]; rfl) (Steps.refl _) (argsL := [(.ref b23)]) (rest := []) (lenOf pd_rm1_3 rfl) rfl (by show 2 * 0 + _ ≤ _; exact Nat.le_of_eq rfl) (hb hby at_352) (fun _ _ => ⟨rfl, e63, (by decide : 8 + 0 ≤ _), (by decide : 16 + 0 ≤ _)⟩)
                  dsimp only [Pt.U, Pt.locs, Pt.cells, Pt.slots] at X76 l76 y76 z76 st76 hQ76
                  subst l76 y76 z76
                  obtain ⟨rfl, Nq76, e76⟩ := hQ76
                  replace N := Fr.app N Nq76
                  refine Go.by (T' := T76) (f' := (mkF m 355 LL75 [(.int (0 : Int32))])) (fun _ k => st76.trans k) ?_
                  refine Go.by (T' := T76) (f' := (mkF m 358 LL75 [])) (fun _ k => XS.ifNo X76.here hx rfl (hb hby at_355) rfl ((if0 _ _).trans (teq (by decide : (0 : Int32) = (0 : Int32))).2) k) ?_
                  refine Go.by (T' := T76) (f' := (mkF m 359 LL75 [(.int (1 : Int32))])) (fun _ k => XS.iconst X76.here hx rfl (hb hby at_358) k) ?_
                  refine Go.by (T' := T76) (f' := (mkF m 363 LL75 [(.int (1 : Int32))])) (fun _ k => XS.goto X76.here hx rfl (pc0 := 359) (pc' := 363) rfl (hb hby at_359) (by decide) (by decide) k) ?_
                  obtain ⟨fs, hr, hrun, hended, hW, hsame⟩ := X76.leave (v := some (.int (1 : Int32))) (fun h => by rw [Bd.returns] at h; cases h)
                  refine ⟨_, _, retN X76 hx (t := .boolean) Bd.returns (by simp) (hb hby at_363) hr, hrun, hended, _, _, rfl, ?_, ⟨_, rfl⟩, hW, hsame.mono (by decide) (by decide)⟩
                  show Q1 n0 (some (.int (1 : Int32))) T76.heap _
                  rw [e76]
                  exact ⟨rfl, N⟩
                · skip
                  refine Go.by (T' := T63) (f' := (mkF m 341 LL62 [])) (fun _ k => XS.icmpYes X63.here hx rfl (pc0 := 331) (pc' := 341) rfl (hb hby at_331) rfl (feq hc331_74).2 (by decide) (by decide) k) ?_
                  refine Go.by (T' := T63) (f' := (mkF m 343 LL62 [(.int (z4 &&& (65535 : Int32)))])) (fun _ k => XS.iload X63.here hx rfl (hb hby at_341) rfl k) ?_
                  obtain ⟨v78, _, ⟨T78, L78, k78, n78⟩, -, X78, ⟨Lc78, hQ78, l78, y78, z78⟩, st78⟩ := Jvm.LawKit.callS X63 hx (y := (⟨"java/lang/Integer", "valueOf", "(I)Ljava/lang/Integer;"⟩ : MethodName)) hown (mvT hZ (hw _ (List.mem_of_getElem? (i := 71) rfl))) (mvT hZ (hw _ (List.mem_of_getElem? (i := 72) rfl))) (mvT hZ (hw _ (List.mem_of_getElem? (i := 73) rfl))) (mvT hZ (hw _ (List.mem_of_getElem? (i := 74) rfl))) (by decide) (backOf (W := 0) (rm_vo l Z a0 hw [] (z4 &&& (65535 : Int32)) wc cl zc hS T32.heap n0 O) hZ (hw _ (List.mem_of_getElem? (i := 74) rfl)) (hw _ (List.mem_of_getElem? (i := 73) rfl)) (by decide) (by decide)) (g := (mkF m 343 LL62 [(.int (z4 &&& (65535 : Int32)))])) rfl (by rw [hml]; rfl) (argsL := [(.int (z4 &&& (65535 : Int32)))]) (rest := []) (lenOf pd_rm1_4 rfl) rfl (by show 2 * 0 + _ ≤ _; exact Nat.le_of_eq rfl) (hb hby at_343) (fun _ _ => ⟨rfl, e63, (by decide : 8 + 1 ≤ _), (by decide : 16 + 1 ≤ _)⟩)
                  dsimp only [Pt.U, Pt.locs, Pt.cells, Pt.slots] at X78 l78 y78 z78 st78 hQ78
                  subst l78 y78 z78
                  obtain ⟨bx78, rfl, Nq78, K78, E_bx78⟩ := hQ78
                  replace N := Fr.app N Nq78
                  replace V_b13 := V_b13.keep K78 nin0
                  replace V_b17 := V_b17.keep K78 nin0
                  replace E_b23 := E_b23.keep K78
                  replace Gc24 := Gc24.keep K78 nin0
                  replace Gv24 := Gv24.keep K78 nin0
                  replace Vt24 := Vt24.keep K78 nin0
                  replace E_b26 := E_b26.keep K78
                  replace Gh27 := Gh27.keep K78 nin0
                  replace Gp27 := Gp27.keep K78 nin0
                  replace E_b29 := E_b29.keep K78
                  replace E_b30 := E_b30.keep K78
                  replace Gc31 := Gc31.keep K78 nin0
                  replace Gv31 := Gv31.keep K78 nin0
                  replace Vt31 := Vt31.keep K78 nin0
                  replace Gh32 := Gh32.keep K78 nin0
                  replace Gp32 := Gp32.keep K78 nin0
                  replace O := O.keep K78 all0
                  replace K := K.trans K78 all0
                  refine Go.by (T' := T78) (f' := (mkF m 346 LL62 [(.ref bx78)])) (st78) ?_
                  let LL79 : Array Slot := #[.val (.int z0), .val (.int z1), .val (.int z2), .val (.int z3), .val (.int z4), .val (.int z5), .val (.int ((1 : Int32) + (z0 &&& (1 : Int32)))), .val (.int ((1 : Int32) + (z1 &&& (1 : Int32)))), .val (.int c4), .val (.int c6), .val (.int c8), .val (.int c10), .val (.ref b13), .val (.ref b17), .val (.int (z4 &&& (65535 : Int32))), .val (.int (z5 &&& (3 : Int32))), .val (.int p2), .val (.ref b23), .val (.ref b26), .val (.ref b29), .val (.int (1 : Int32)), .val (.int (0 : Int32)), .val (.int (((z0.toUInt32 >>> ((1 : Int32) &&& 31).toUInt32).toInt32) &&& (3 : Int32))), .val (.ref bx78)]
                  refine Go.by (T' := T78) (f' := (mkF m 348 LL79 [])) (fun _ k => XS.astore X78.here hx rfl (hb hby at_346) rfl rfl (l' := LL79) rfl k) ?_
                  refine Go.by (T' := T78) (f' := (mkF m 350 LL79 [(.ref b26)])) (fun _ k => XS.aload X78.here hx rfl (hb hby at_348) rfl rfl k) ?_
                  refine Go.by (T' := T78) (f' := (mkF m 352 LL79 [(.ref bx78), (.ref b26)])) (fun _ k => XS.aload X78.here hx rfl (hb hby at_350) rfl rfl k) ?_
                  obtain ⟨cq80, kq80, q80a, q80b, q80c⟩ := isOf hZ rfl E_b26
                  obtain ⟨v80, _, ⟨T80, L80, k80, n80⟩, -, X80, ⟨Lc80, hQ80, l80, y80, z80⟩, st80⟩ := X78.virtualBack hx (y := (⟨"com/example/honest_replica/honestreplica/model/Endpoint", "equals", "(Ljava/lang/Object;)Z"⟩ : MethodName)) (z := (⟨"com/example/honest_replica/honestreplica/model/Endpoint", "equals", "(Ljava/lang/Object;)Z"⟩ : MethodName)) hown (mvT hZ (hw _ (List.mem_of_getElem? (i := 52) rfl))) (mvT hZ (hw _ (List.mem_of_getElem? (i := 53) rfl))) (notFace_of_selects (args := #[]) (mvT hZ (hw _ (List.mem_of_getElem? (i := 55) rfl)))) (mvT hZ (hw _ (List.mem_of_getElem? (i := 55) rfl))) (mvT hZ (hw _ (List.mem_of_getElem? (i := 54) rfl))) (by decide) (backOf (W := 0) (rm_qi l Z a0 hw [] b26 bx78 T78.heap n0 O E_bx78) hZ (hw _ (List.mem_of_getElem? (i := 56) rfl)) (hw _ (List.mem_of_getElem? (i := 37) rfl)) (by decide) (by decide)) q80a q80c (g := (mkF m 352 LL79 [(.ref bx78), (.ref b26)])) rfl (by rw [hml]; rfl) (Steps.refl _) (argsL := [(.ref bx78)]) (rest := []) (lenOf pd_rm1_3 rfl) rfl (by show 2 * 0 + _ ≤ _; exact Nat.le_of_eq rfl) (hb hby at_352) (fun _ _ => ⟨rfl, rfl, (by decide : 9 + 0 ≤ _), (by decide : 17 + 0 ≤ _)⟩)
                  dsimp only [Pt.U, Pt.locs, Pt.cells, Pt.slots] at X80 l80 y80 z80 st80 hQ80
                  subst l80 y80 z80
                  obtain ⟨rfl, Nq80, e80⟩ := hQ80
                  replace N := Fr.app N Nq80
                  refine Go.by (T' := T80) (f' := (mkF m 355 LL79 [(.int (0 : Int32))])) (fun _ k => st80.trans k) ?_
                  refine Go.by (T' := T80) (f' := (mkF m 358 LL79 [])) (fun _ k => XS.ifNo X80.here hx rfl (hb hby at_355) rfl ((if0 _ _).trans (teq (by decide : (0 : Int32) = (0 : Int32))).2) k) ?_
                  refine Go.by (T' := T80) (f' := (mkF m 359 LL79 [(.int (1 : Int32))])) (fun _ k => XS.iconst X80.here hx rfl (hb hby at_358) k) ?_
                  refine Go.by (T' := T80) (f' := (mkF m 363 LL79 [(.int (1 : Int32))])) (fun _ k => XS.goto X80.here hx rfl (pc0 := 359) (pc' := 363) rfl (hb hby at_359) (by decide) (by decide) k) ?_
                  obtain ⟨fs, hr, hrun, hended, hW, hsame⟩ := X80.leave (v := some (.int (1 : Int32))) (fun h => by rw [Bd.returns] at h; cases h)
                  refine ⟨_, _, retN X80 hx (t := .boolean) Bd.returns (by simp) (hb hby at_363) hr, hrun, hended, _, _, rfl, ?_, ⟨_, rfl⟩, hW, hsame.mono (by decide) (by decide)⟩
                  show Q1 n0 (some (.int (1 : Int32))) T80.heap _
                  rw [e80]
                  exact ⟨rfl, N⟩
        · skip
          refine Go.by (T' := T32) (f' := (mkF m 240 LL33 [])) (fun _ k => XS.icmpYes X32.here hx rfl (pc0 := 220) (pc' := 240) rfl (hb hby at_220) rfl (feq hc220_35).2 (by decide) (by decide) k) ?_
          refine Go.by (T' := T32) (f' := (mkF m 241 LL33 [(.int (0 : Int32))])) (fun _ k => XS.iconst X32.here hx rfl (hb hby at_240) k) ?_
          let LL82 : Array Slot := #[.val (.int z0), .val (.int z1), .val (.int z2), .val (.int z3), .val (.int z4), .val (.int z5), .val (.int ((1 : Int32) + (z0 &&& (1 : Int32)))), .val (.int ((1 : Int32) + (z1 &&& (1 : Int32)))), .val (.int c4), .val (.int c6), .val (.int c8), .val (.int c10), .val (.ref b13), .val (.ref b17), .val (.int (z4 &&& (65535 : Int32))), .val (.int (z5 &&& (3 : Int32))), .val (.int p2), .val (.ref b23), .val (.ref b26), .val (.ref b29), .val (.int (0 : Int32)), .unset, .unset, .unset]
          refine Go.by (T' := T32) (f' := (mkF m 243 LL82 [])) (fun _ k => XS.istore X32.here hx rfl (hb hby at_241) rfl (l' := LL82) rfl k) ?_
          refine Go.by (T' := T32) (f' := (mkF m 245 LL82 [(.int (0 : Int32))])) (fun _ k => XS.iload X32.here hx rfl (hb hby at_243) rfl k) ?_
          refine Go.by (T' := T32) (f' := (mkF m 259 LL82 [])) (fun _ k => XS.ifYes X32.here hx rfl (pc0 := 245) (pc' := 259) rfl (hb hby at_245) rfl ((if0 _ _).trans (teq (by decide : (0 : Int32) = (0 : Int32))).1) (by decide) (by decide) k) ?_
          refine Go.by (T' := T32) (f' := (mkF m 260 LL82 [(.int (0 : Int32))])) (fun _ k => XS.iconst X32.here hx rfl (hb hby at_259) k) ?_
          let LL84 : Array Slot := #[.val (.int z0), .val (.int z1), .val (.int z2), .val (.int z3), .val (.int z4), .val (.int z5), .val (.int ((1 : Int32) + (z0 &&& (1 : Int32)))), .val (.int ((1 : Int32) + (z1 &&& (1 : Int32)))), .val (.int c4), .val (.int c6), .val (.int c8), .val (.int c10), .val (.ref b13), .val (.ref b17), .val (.int (z4 &&& (65535 : Int32))), .val (.int (z5 &&& (3 : Int32))), .val (.int p2), .val (.ref b23), .val (.ref b26), .val (.ref b29), .val (.int (0 : Int32)), .val (.int (0 : Int32)), .unset, .unset]
          refine Go.by (T' := T32) (f' := (mkF m 262 LL84 [])) (fun _ k => XS.istore X32.here hx rfl (hb hby at_260) rfl (l' := LL84) rfl k) ?_
          refine Go.by (T' := T32) (f' := (mkF m 263 LL84 [(.int z0)])) (fun _ k => XS.iloadN X32.here hx rfl (hb hby at_262) rfl k) ?_
          refine Go.by (T' := T32) (f' := (mkF m 264 LL84 [(.int (1 : Int32)), (.int z0)])) (fun _ k => XS.iconst X32.here hx rfl (hb hby at_263) k) ?_
          refine Go.by (T' := T32) (f' := (mkF m 265 LL84 [(.int ((z0.toUInt32 >>> ((1 : Int32) &&& 31).toUInt32).toInt32))])) (fun _ k => XS.iushr X32.here hx rfl (hb hby at_264) rfl k) ?_
          refine Go.by (T' := T32) (f' := (mkF m 266 LL84 [(.int (3 : Int32)), (.int ((z0.toUInt32 >>> ((1 : Int32) &&& 31).toUInt32).toInt32))])) (fun _ k => XS.iconst X32.here hx rfl (hb hby at_265) k) ?_
          refine Go.by (T' := T32) (f' := (mkF m 267 LL84 [(.int (((z0.toUInt32 >>> ((1 : Int32) &&& 31).toUInt32).toInt32) &&& (3 : Int32)))])) (fun _ k => XS.iand X32.here hx rfl (hb hby at_266) rfl k) ?_
          let LL85 : Array Slot := #[.val (.int z0), .val (.int z1), .val (.int z2), .val (.int z3), .val (.int z4), .val (.int z5), .val (.int ((1 : Int32) + (z0 &&& (1 : Int32)))), .val (.int ((1 : Int32) + (z1 &&& (1 : Int32)))), .val (.int c4), .val (.int c6), .val (.int c8), .val (.int c10), .val (.ref b13), .val (.ref b17), .val (.int (z4 &&& (65535 : Int32))), .val (.int (z5 &&& (3 : Int32))), .val (.int p2), .val (.ref b23), .val (.ref b26), .val (.ref b29), .val (.int (0 : Int32)), .val (.int (0 : Int32)), .val (.int (((z0.toUInt32 >>> ((1 : Int32) &&& 31).toUInt32).toInt32) &&& (3 : Int32))), .unset]
          refine Go.by (T' := T32) (f' := (mkF m 269 LL85 [])) (fun _ k => XS.istore X32.here hx rfl (hb hby at_267) rfl (l' := LL85) rfl k) ?_
          refine Go.by (T' := T32) (f' := (mkF m 271 LL85 [(.ref b26)])) (fun _ k => XS.aload X32.here hx rfl (hb hby at_269) rfl rfl k) ?_
          refine Go.by (T' := T32) (f' := (mkF m 273 LL85 [(.ref b26), (.ref b26)])) (fun _ k => XS.aload X32.here hx rfl (hb hby at_271) rfl rfl k) ?_
          obtain ⟨cq86, kq86, q86a, q86b, q86c⟩ := isOf hZ rfl E_b26
          obtain ⟨v86, _, ⟨T86, L86, k86, n86⟩, -, X86, ⟨Lc86, hQ86, l86, y86, z86⟩, st86⟩ := X32.virtualBack hx (y := (⟨"com/example/honest_replica/honestreplica/model/Endpoint", "equals", "(Ljava/lang/Object;)Z"⟩ : MethodName)) (z := (⟨"com/example/honest_replica/honestreplica/model/Endpoint", "equals", "(Ljava/lang/Object;)Z"⟩ : MethodName)) hown (mvT hZ (hw _ (List.mem_of_getElem? (i := 52) rfl))) (mvT hZ (hw _ (List.mem_of_getElem? (i := 53) rfl))) (notFace_of_selects (args := #[]) (mvT hZ (hw _ (List.mem_of_getElem? (i := 55) rfl)))) (mvT hZ (hw _ (List.mem_of_getElem? (i := 55) rfl))) (mvT hZ (hw _ (List.mem_of_getElem? (i := 54) rfl))) (by decide) (backOf (W := 0) (rm_q l Z a0 hw [] b26 b26 b23 b23 (z4 &&& (65535 : Int32)) (z4 &&& (65535 : Int32)) t24 kb24 (1 : Int32) ((([c4] : List Int32).map (fun c => c.toInt8.toInt32)).map Value.int) ([c4] : List Int32) t24 kb24 (1 : Int32) ((([c4] : List Int32).map (fun c => c.toInt8.toInt32)).map Value.int) ([c4] : List Int32) wc cl zc hS T32.heap n0 O E_b26 E_b26 Gh27 Gp27 Gh27 Gp27 E_b23 Gv24 Gc24 Vt24 hcd24 (own_up _ hp24) (Nat.le_of_ble_eq_true rfl) E_b23 Gv24 Gc24 Vt24 hcd24 (own_up _ hp24) (Nat.le_of_ble_eq_true rfl)) hZ (hw _ (List.mem_of_getElem? (i := 56) rfl)) (hw _ (List.mem_of_getElem? (i := 37) rfl)) (by decide) (by decide)) q86a q86c (g := (mkF m 273 LL85 [(.ref b26), (.ref b26)])) rfl (by rw [hml]; rfl) (Steps.refl _) (argsL := [(.ref b26)]) (rest := []) (lenOf pd_rm1_3 rfl) rfl (by show 2 * 0 + _ ≤ _; exact Nat.le_of_eq rfl) (hb hby at_273) (fun _ _ => ⟨rfl, rfl, (by decide : 8 + 0 ≤ _), (by decide : 16 + 0 ≤ _)⟩)
          dsimp only [Pt.U, Pt.locs, Pt.cells, Pt.slots] at X86 l86 y86 z86 st86 hQ86
          subst l86 y86 z86
          obtain ⟨hv86, Nq86, e86⟩ := hQ86
          have hz86 : eqs ([c4] : List Int32) (z4 &&& (65535 : Int32)) ([c4] : List Int32) (z4 &&& (65535 : Int32)) = 1 := by simp [eqs]
          rw [hz86] at hv86
          subst hv86
          replace N := Fr.app N Nq86
          refine Go.by (T' := T86) (f' := (mkF m 276 LL85 [(.int (1 : Int32))])) (fun _ k => st86.trans k) ?_
          refine Go.by (T' := T86) (f' := (mkF m 281 LL85 [])) (fun _ k => XS.ifYes X86.here hx rfl (pc0 := 276) (pc' := 281) rfl (hb hby at_276) rfl ((if0 _ _).trans (feq (by decide : ¬ ((1 : Int32) = (0 : Int32)))).2) (by decide) (by decide) k) ?_
          refine Go.by (T' := T86) (f' := (mkF m 283 LL85 [(.int (((z0.toUInt32 >>> ((1 : Int32) &&& 31).toUInt32).toInt32) &&& (3 : Int32)))])) (fun _ k => XS.iload X86.here hx rfl (hb hby at_281) rfl k) ?_
          by_cases hc283_88 : (((z0.toUInt32 >>> ((1 : Int32) &&& 31).toUInt32).toInt32) &&& (3 : Int32)) = (0 : Int32)
          · skip
            refine Go.by (T' := T86) (f' := (mkF m 286 LL85 [])) (fun _ k => XS.ifNo X86.here hx rfl (hb hby at_283) rfl ((if0 _ _).trans (teq hc283_88).2) k) ?_
            refine Go.by (T' := T86) (f' := (mkF m 288 LL85 [(.ref b26)])) (fun _ k => XS.aload X86.here hx rfl (hb hby at_286) rfl rfl k) ?_
            refine Go.by (T' := T86) (f' := (mkF m 290 LL85 [(.ref b29), (.ref b26)])) (fun _ k => XS.aload X86.here hx rfl (hb hby at_288) rfl rfl k) ?_
            obtain ⟨cq89, kq89, q89a, q89b, q89c⟩ := isOf hZ e86 E_b26
            obtain ⟨v89, _, ⟨T89, L89, k89, n89⟩, -, X89, ⟨Lc89, hQ89, l89, y89, z89⟩, st89⟩ := X86.virtualBack hx (y := (⟨"com/example/honest_replica/honestreplica/model/Endpoint", "equals", "(Ljava/lang/Object;)Z"⟩ : MethodName)) (z := (⟨"com/example/honest_replica/honestreplica/model/Endpoint", "equals", "(Ljava/lang/Object;)Z"⟩ : MethodName)) hown (mvT hZ (hw _ (List.mem_of_getElem? (i := 52) rfl))) (mvT hZ (hw _ (List.mem_of_getElem? (i := 53) rfl))) (notFace_of_selects (args := #[]) (mvT hZ (hw _ (List.mem_of_getElem? (i := 55) rfl)))) (mvT hZ (hw _ (List.mem_of_getElem? (i := 55) rfl))) (mvT hZ (hw _ (List.mem_of_getElem? (i := 54) rfl))) (by decide) (backOf (W := 0) (rm_q l Z a0 hw [] b26 b29 b23 b30 (z4 &&& (65535 : Int32)) p2 t24 kb24 (1 : Int32) ((([c4] : List Int32).map (fun c => c.toInt8.toInt32)).map Value.int) ([c4] : List Int32) t31 kb31 (1 : Int32) ((([c8] : List Int32).map (fun c => c.toInt8.toInt32)).map Value.int) ([c8] : List Int32) wc cl zc hS T32.heap n0 O E_b26 E_b29 Gh27 Gp27 Gh32 Gp32 E_b23 Gv24 Gc24 Vt24 hcd24 (own_up _ hp24) (Nat.le_of_ble_eq_true rfl) E_b30 Gv31 Gc31 Vt31 hcd31 (own_up _ hp31) (Nat.le_of_ble_eq_true rfl)) hZ (hw _ (List.mem_of_getElem? (i := 56) rfl)) (hw _ (List.mem_of_getElem? (i := 37) rfl)) (by decide) (by decide)) q89a q89c (g := (mkF m 290 LL85 [(.ref b29), (.ref b26)])) rfl (by rw [hml]; rfl) (Steps.refl _) (argsL := [(.ref b29)]) (rest := []) (lenOf pd_rm1_3 rfl) rfl (by show 2 * 0 + _ ≤ _; exact Nat.le_of_eq rfl) (hb hby at_290) (fun _ _ => ⟨rfl, e86, (by decide : 8 + 0 ≤ _), (by decide : 16 + 0 ≤ _)⟩)
            dsimp only [Pt.U, Pt.locs, Pt.cells, Pt.slots] at X89 l89 y89 z89 st89 hQ89
            subst l89 y89 z89
            obtain ⟨hv89, Nq89, e89⟩ := hQ89
            have hz89 : eqs ([c4] : List Int32) (z4 &&& (65535 : Int32)) ([c8] : List Int32) p2 = 0 := by simp [eqs, hc220_35]
            rw [hz89] at hv89
            subst hv89
            replace N := Fr.app N Nq89
            refine Go.by (T' := T89) (f' := (mkF m 293 LL85 [(.int (0 : Int32))])) (fun _ k => st89.trans k) ?_
            refine Go.by (T' := T89) (f' := (mkF m 295 LL85 [(.int (0 : Int32)), (.int (0 : Int32))])) (fun _ k => XS.iload X89.here hx rfl (hb hby at_293) rfl k) ?_
            refine Go.by (T' := T89) (f' := (mkF m 298 LL85 [])) (fun _ k => XS.icmpNo X89.here hx rfl (hb hby at_295) rfl (teq (by decide : (0 : Int32) = (0 : Int32))).2 k) ?_
            refine Go.by (T' := T89) (f' := (mkF m 300 LL85 [(.ref b29)])) (fun _ k => XS.aload X89.here hx rfl (hb hby at_298) rfl rfl k) ?_
            refine Go.by (T' := T89) (f' := (mkF m 302 LL85 [(.ref b26), (.ref b29)])) (fun _ k => XS.aload X89.here hx rfl (hb hby at_300) rfl rfl k) ?_
            obtain ⟨cq91, kq91, q91a, q91b, q91c⟩ := isOf hZ e89 E_b29
            obtain ⟨v91, _, ⟨T91, L91, k91, n91⟩, -, X91, ⟨Lc91, hQ91, l91, y91, z91⟩, st91⟩ := X89.virtualBack hx (y := (⟨"com/example/honest_replica/honestreplica/model/Endpoint", "equals", "(Ljava/lang/Object;)Z"⟩ : MethodName)) (z := (⟨"com/example/honest_replica/honestreplica/model/Endpoint", "equals", "(Ljava/lang/Object;)Z"⟩ : MethodName)) hown (mvT hZ (hw _ (List.mem_of_getElem? (i := 52) rfl))) (mvT hZ (hw _ (List.mem_of_getElem? (i := 53) rfl))) (notFace_of_selects (args := #[]) (mvT hZ (hw _ (List.mem_of_getElem? (i := 55) rfl)))) (mvT hZ (hw _ (List.mem_of_getElem? (i := 55) rfl))) (mvT hZ (hw _ (List.mem_of_getElem? (i := 54) rfl))) (by decide) (backOf (W := 0) (rm_q l Z a0 hw [] b29 b26 b30 b23 p2 (z4 &&& (65535 : Int32)) t31 kb31 (1 : Int32) ((([c8] : List Int32).map (fun c => c.toInt8.toInt32)).map Value.int) ([c8] : List Int32) t24 kb24 (1 : Int32) ((([c4] : List Int32).map (fun c => c.toInt8.toInt32)).map Value.int) ([c4] : List Int32) wc cl zc hS T32.heap n0 O E_b29 E_b26 Gh32 Gp32 Gh27 Gp27 E_b30 Gv31 Gc31 Vt31 hcd31 (own_up _ hp31) (Nat.le_of_ble_eq_true rfl) E_b23 Gv24 Gc24 Vt24 hcd24 (own_up _ hp24) (Nat.le_of_ble_eq_true rfl)) hZ (hw _ (List.mem_of_getElem? (i := 56) rfl)) (hw _ (List.mem_of_getElem? (i := 37) rfl)) (by decide) (by decide)) q91a q91c (g := (mkF m 302 LL85 [(.ref b26), (.ref b29)])) rfl (by rw [hml]; rfl) (Steps.refl _) (argsL := [(.ref b26)]) (rest := []) (lenOf pd_rm1_3 rfl) rfl (by show 2 * 0 + _ ≤ _; exact Nat.le_of_eq rfl) (hb hby at_302) (fun _ _ => ⟨rfl, e89, (by decide : 8 + 0 ≤ _), (by decide : 16 + 0 ≤ _)⟩)
            dsimp only [Pt.U, Pt.locs, Pt.cells, Pt.slots] at X91 l91 y91 z91 st91 hQ91
            subst l91 y91 z91
            obtain ⟨hv91, Nq91, e91⟩ := hQ91
            have hz91 : eqs ([c8] : List Int32) p2 ([c4] : List Int32) (z4 &&& (65535 : Int32)) = 0 := by simp [eqs, (show ¬ c8 = c4 from fun q => hc220_35 q.symm)]
            rw [hz91] at hv91
            subst hv91
            replace N := Fr.app N Nq91
            refine Go.by (T' := T91) (f' := (mkF m 305 LL85 [(.int (0 : Int32))])) (fun _ k => st91.trans k) ?_
            refine Go.by (T' := T91) (f' := (mkF m 307 LL85 [(.int (0 : Int32)), (.int (0 : Int32))])) (fun _ k => XS.iload X91.here hx rfl (hb hby at_305) rfl k) ?_
            refine Go.by (T' := T91) (f' := (mkF m 310 LL85 [])) (fun _ k => XS.icmpNo X91.here hx rfl (hb hby at_307) rfl (teq (by decide : (0 : Int32) = (0 : Int32))).2 k) ?_
            refine Go.by (T' := T91) (f' := (mkF m 311 LL85 [(.int (1 : Int32))])) (fun _ k => XS.iconst X91.here hx rfl (hb hby at_310) k) ?_
            refine Go.by (T' := T91) (f' := (mkF m 315 LL85 [(.int (1 : Int32))])) (fun _ k => XS.goto X91.here hx rfl (pc0 := 311) (pc' := 315) rfl (hb hby at_311) (by decide) (by decide) k) ?_
            obtain ⟨fs, hr, hrun, hended, hW, hsame⟩ := X91.leave (v := some (.int (1 : Int32))) (fun h => by rw [Bd.returns] at h; cases h)
            refine ⟨_, _, retN X91 hx (t := .boolean) Bd.returns (by simp) (hb hby at_315) hr, hrun, hended, _, _, rfl, ?_, ⟨_, rfl⟩, hW, hsame.mono (by decide) (by decide)⟩
            show Q1 n0 (some (.int (1 : Int32))) T91.heap _
            rw [e91]
            exact ⟨rfl, N⟩
          · skip
            refine Go.by (T' := T86) (f' := (mkF m 316 LL85 [])) (fun _ k => XS.ifYes X86.here hx rfl (pc0 := 283) (pc' := 316) rfl (hb hby at_283) rfl ((if0 _ _).trans (feq hc283_88).2) (by decide) (by decide) k) ?_
            refine Go.by (T' := T86) (f' := (mkF m 318 LL85 [(.int (((z0.toUInt32 >>> ((1 : Int32) &&& 31).toUInt32).toInt32) &&& (3 : Int32)))])) (fun _ k => XS.iload X86.here hx rfl (hb hby at_316) rfl k) ?_
            refine Go.by (T' := T86) (f' := (mkF m 319 LL85 [(.int (1 : Int32)), (.int (((z0.toUInt32 >>> ((1 : Int32) &&& 31).toUInt32).toInt32) &&& (3 : Int32)))])) (fun _ k => XS.iconst X86.here hx rfl (hb hby at_318) k) ?_
            by_cases hc319_93 : (((z0.toUInt32 >>> ((1 : Int32) &&& 31).toUInt32).toInt32) &&& (3 : Int32)) = (1 : Int32)
            · skip
              refine Go.by (T' := T86) (f' := (mkF m 322 LL85 [])) (fun _ k => XS.icmpNo X86.here hx rfl (hb hby at_319) rfl (teq hc319_93).2 k) ?_
              refine Go.by (T' := T86) (f' := (mkF m 323 LL85 [.null])) (fun _ k => XS.aconstNull X86.here hx rfl (hb hby at_322) k) ?_
              let LL94 : Array Slot := #[.val (.int z0), .val (.int z1), .val (.int z2), .val (.int z3), .val (.int z4), .val (.int z5), .val (.int ((1 : Int32) + (z0 &&& (1 : Int32)))), .val (.int ((1 : Int32) + (z1 &&& (1 : Int32)))), .val (.int c4), .val (.int c6), .val (.int c8), .val (.int c10), .val (.ref b13), .val (.ref b17), .val (.int (z4 &&& (65535 : Int32))), .val (.int (z5 &&& (3 : Int32))), .val (.int p2), .val (.ref b23), .val (.ref b26), .val (.ref b29), .val (.int (0 : Int32)), .val (.int (0 : Int32)), .val (.int (((z0.toUInt32 >>> ((1 : Int32) &&& 31).toUInt32).toInt32) &&& (3 : Int32))), .val .null]
              refine Go.by (T' := T86) (f' := (mkF m 325 LL94 [])) (fun _ k => XS.astore X86.here hx rfl (hb hby at_323) rfl rfl (l' := LL94) rfl k) ?_
              refine Go.by (T' := T86) (f' := (mkF m 348 LL94 [])) (fun _ k => XS.goto X86.here hx rfl (pc0 := 325) (pc' := 348) rfl (hb hby at_325) (by decide) (by decide) k) ?_
              refine Go.by (T' := T86) (f' := (mkF m 350 LL94 [(.ref b26)])) (fun _ k => XS.aload X86.here hx rfl (hb hby at_348) rfl rfl k) ?_
              refine Go.by (T' := T86) (f' := (mkF m 352 LL94 [.null, (.ref b26)])) (fun _ k => XS.aload X86.here hx rfl (hb hby at_350) rfl rfl k) ?_
              obtain ⟨cq95, kq95, q95a, q95b, q95c⟩ := isOf hZ e86 E_b26
              obtain ⟨v95, _, ⟨T95, L95, k95, n95⟩, -, X95, ⟨Lc95, hQ95, l95, y95, z95⟩, st95⟩ := X86.virtualBack hx (y := (⟨"com/example/honest_replica/honestreplica/model/Endpoint", "equals", "(Ljava/lang/Object;)Z"⟩ : MethodName)) (z := (⟨"com/example/honest_replica/honestreplica/model/Endpoint", "equals", "(Ljava/lang/Object;)Z"⟩ : MethodName)) hown (mvT hZ (hw _ (List.mem_of_getElem? (i := 52) rfl))) (mvT hZ (hw _ (List.mem_of_getElem? (i := 53) rfl))) (notFace_of_selects (args := #[]) (mvT hZ (hw _ (List.mem_of_getElem? (i := 55) rfl)))) (mvT hZ (hw _ (List.mem_of_getElem? (i := 55) rfl))) (mvT hZ (hw _ (List.mem_of_getElem? (i := 54) rfl))) (by decide) (backOf (W := 0) (rm_qn l Z a0 hw [] b26 T32.heap n0 O) hZ (hw _ (List.mem_of_getElem? (i := 56) rfl)) (hw _ (List.mem_of_getElem? (i := 37) rfl)) (by decide) (by decide)) q95a q95c (g := (mkF m 352 LL94 [.null, (.ref b26)])) rfl (by rw [hml]; rfl) (Steps.refl _) (argsL := [.null]) (rest := []) (lenOf pd_rm1_3 rfl) rfl (by show 2 * 0 + _ ≤ _; exact Nat.le_of_eq rfl) (hb hby at_352) (fun _ _ => ⟨rfl, e86, (by decide : 8 + 0 ≤ _), (by decide : 16 + 0 ≤ _)⟩)
              dsimp only [Pt.U, Pt.locs, Pt.cells, Pt.slots] at X95 l95 y95 z95 st95 hQ95
              subst l95 y95 z95
              obtain ⟨rfl, Nq95, e95⟩ := hQ95
              replace N := Fr.app N Nq95
              refine Go.by (T' := T95) (f' := (mkF m 355 LL94 [(.int (0 : Int32))])) (fun _ k => st95.trans k) ?_
              refine Go.by (T' := T95) (f' := (mkF m 358 LL94 [])) (fun _ k => XS.ifNo X95.here hx rfl (hb hby at_355) rfl ((if0 _ _).trans (teq (by decide : (0 : Int32) = (0 : Int32))).2) k) ?_
              refine Go.by (T' := T95) (f' := (mkF m 359 LL94 [(.int (1 : Int32))])) (fun _ k => XS.iconst X95.here hx rfl (hb hby at_358) k) ?_
              refine Go.by (T' := T95) (f' := (mkF m 363 LL94 [(.int (1 : Int32))])) (fun _ k => XS.goto X95.here hx rfl (pc0 := 359) (pc' := 363) rfl (hb hby at_359) (by decide) (by decide) k) ?_
              obtain ⟨fs, hr, hrun, hended, hW, hsame⟩ := X95.leave (v := some (.int (1 : Int32))) (fun h => by rw [Bd.returns] at h; cases h)
              refine ⟨_, _, retN X95 hx (t := .boolean) Bd.returns (by simp) (hb hby at_363) hr, hrun, hended, _, _, rfl, ?_, ⟨_, rfl⟩, hW, hsame.mono (by decide) (by decide)⟩
              show Q1 n0 (some (.int (1 : Int32))) T95.heap _
              rw [e95]
              exact ⟨rfl, N⟩
            · skip
              refine Go.by (T' := T86) (f' := (mkF m 328 LL85 [])) (fun _ k => XS.icmpYes X86.here hx rfl (pc0 := 319) (pc' := 328) rfl (hb hby at_319) rfl (feq hc319_93).2 (by decide) (by decide) k) ?_
              refine Go.by (T' := T86) (f' := (mkF m 330 LL85 [(.int (((z0.toUInt32 >>> ((1 : Int32) &&& 31).toUInt32).toInt32) &&& (3 : Int32)))])) (fun _ k => XS.iload X86.here hx rfl (hb hby at_328) rfl k) ?_
              refine Go.by (T' := T86) (f' := (mkF m 331 LL85 [(.int (2 : Int32)), (.int (((z0.toUInt32 >>> ((1 : Int32) &&& 31).toUInt32).toInt32) &&& (3 : Int32)))])) (fun _ k => XS.iconst X86.here hx rfl (hb hby at_330) k) ?_
              by_cases hc331_97 : (((z0.toUInt32 >>> ((1 : Int32) &&& 31).toUInt32).toInt32) &&& (3 : Int32)) = (2 : Int32)
              · skip
                refine Go.by (T' := T86) (f' := (mkF m 334 LL85 [])) (fun _ k => XS.icmpNo X86.here hx rfl (hb hby at_331) rfl (teq hc331_97).2 k) ?_
                refine Go.by (T' := T86) (f' := (mkF m 336 LL85 [(.ref b23)])) (fun _ k => XS.aload X86.here hx rfl (hb hby at_334) rfl rfl k) ?_
                let LL98 : Array Slot := #[.val (.int z0), .val (.int z1), .val (.int z2), .val (.int z3), .val (.int z4), .val (.int z5), .val (.int ((1 : Int32) + (z0 &&& (1 : Int32)))), .val (.int ((1 : Int32) + (z1 &&& (1 : Int32)))), .val (.int c4), .val (.int c6), .val (.int c8), .val (.int c10), .val (.ref b13), .val (.ref b17), .val (.int (z4 &&& (65535 : Int32))), .val (.int (z5 &&& (3 : Int32))), .val (.int p2), .val (.ref b23), .val (.ref b26), .val (.ref b29), .val (.int (0 : Int32)), .val (.int (0 : Int32)), .val (.int (((z0.toUInt32 >>> ((1 : Int32) &&& 31).toUInt32).toInt32) &&& (3 : Int32))), .val (.ref b23)]
                refine Go.by (T' := T86) (f' := (mkF m 338 LL98 [])) (fun _ k => XS.astore X86.here hx rfl (hb hby at_336) rfl rfl (l' := LL98) rfl k) ?_
                refine Go.by (T' := T86) (f' := (mkF m 348 LL98 [])) (fun _ k => XS.goto X86.here hx rfl (pc0 := 338) (pc' := 348) rfl (hb hby at_338) (by decide) (by decide) k) ?_
                refine Go.by (T' := T86) (f' := (mkF m 350 LL98 [(.ref b26)])) (fun _ k => XS.aload X86.here hx rfl (hb hby at_348) rfl rfl k) ?_
                refine Go.by (T' := T86) (f' := (mkF m 352 LL98 [(.ref b23), (.ref b26)])) (fun _ k => XS.aload X86.here hx rfl (hb hby at_350) rfl rfl k) ?_
                obtain ⟨cq99, kq99, q99a, q99b, q99c⟩ := isOf hZ e86 E_b26
                obtain ⟨v99, _, ⟨T99, L99, k99, n99⟩, -, X99, ⟨Lc99, hQ99, l99, y99, z99⟩, st99⟩ := X86.virtualBack hx (y := (⟨"com/example/honest_replica/honestreplica/model/Endpoint", "equals", "(Ljava/lang/Object;)Z"⟩ : MethodName)) (z := (⟨"com/example/honest_replica/honestreplica/model/Endpoint", "equals", "(Ljava/lang/Object;)Z"⟩ : MethodName)) hown (mvT hZ (hw _ (List.mem_of_getElem? (i := 52) rfl))) (mvT hZ (hw _ (List.mem_of_getElem? (i := 53) rfl))) (notFace_of_selects (args := #[]) (mvT hZ (hw _ (List.mem_of_getElem? (i := 55) rfl)))) (mvT hZ (hw _ (List.mem_of_getElem? (i := 55) rfl))) (mvT hZ (hw _ (List.mem_of_getElem? (i := 54) rfl))) (by decide) (backOf (W := 0) (rm_qs l Z a0 hw [] b26 b23 T32.heap n0 O E_b23) hZ (hw _ (List.mem_of_getElem? (i := 56) rfl)) (hw _ (List.mem_of_getElem? (i := 37) rfl)) (by decide) (by decide)) q99a q99c (g := (mkF m 352 LL98 [(.ref b23), (.ref b26)])) rfl (by rw [hml]; rfl) (Steps.refl _) (argsL := [(.ref b23)]) (rest := []) (lenOf pd_rm1_3 rfl) rfl (by show 2 * 0 + _ ≤ _; exact Nat.le_of_eq rfl) (hb hby at_352) (fun _ _ => ⟨rfl, e86, (by decide : 8 + 0 ≤ _), (by decide : 16 + 0 ≤ _)⟩)
                dsimp only [Pt.U, Pt.locs, Pt.cells, Pt.slots] at X99 l99 y99 z99 st99 hQ99
                subst l99 y99 z99
                obtain ⟨rfl, Nq99, e99⟩ := hQ99
                replace N := Fr.app N Nq99
                refine Go.by (T' := T99) (f' := (mkF m 355 LL98 [(.int (0 : Int32))])) (fun _ k => st99.trans k) ?_
                refine Go.by (T' := T99) (f' := (mkF m 358 LL98 [])) (fun _ k => XS.ifNo X99.here hx rfl (hb hby at_355) rfl ((if0 _ _).trans (teq (by decide : (0 : Int32) = (0 : Int32))).2) k) ?_
                refine Go.by (T' := T99) (f' := (mkF m 359 LL98 [(.int (1 : Int32))])) (fun _ k => XS.iconst X99.here hx rfl (hb hby at_358) k) ?_
                refine Go.by (T' := T99) (f' := (mkF m 363 LL98 [(.int (1 : Int32))])) (fun _ k => XS.goto X99.here hx rfl (pc0 := 359) (pc' := 363) rfl (hb hby at_359) (by decide) (by decide) k) ?_
                obtain ⟨fs, hr, hrun, hended, hW, hsame⟩ := X99.leave (v := some (.int (1 : Int32))) (fun h => by rw [Bd.returns] at h; cases h)
                refine ⟨_, _, retN X99 hx (t := .boolean) Bd.returns (by simp) (hb hby at_363) hr, hrun, hended, _, _, rfl, ?_, ⟨_, rfl⟩, hW, hsame.mono (by decide) (by decide)⟩
                show Q1 n0 (some (.int (1 : Int32))) T99.heap _
                rw [e99]
                exact ⟨rfl, N⟩
              · skip
                refine Go.by (T' := T86) (f' := (mkF m 341 LL85 [])) (fun _ k => XS.icmpYes X86.here hx rfl (pc0 := 331) (pc' := 341) rfl (hb hby at_331) rfl (feq hc331_97).2 (by decide) (by decide) k) ?_
                refine Go.by (T' := T86) (f' := (mkF m 343 LL85 [(.int (z4 &&& (65535 : Int32)))])) (fun _ k => XS.iload X86.here hx rfl (hb hby at_341) rfl k) ?_
                obtain ⟨v101, _, ⟨T101, L101, k101, n101⟩, -, X101, ⟨Lc101, hQ101, l101, y101, z101⟩, st101⟩ := Jvm.LawKit.callS X86 hx (y := (⟨"java/lang/Integer", "valueOf", "(I)Ljava/lang/Integer;"⟩ : MethodName)) hown (mvT hZ (hw _ (List.mem_of_getElem? (i := 71) rfl))) (mvT hZ (hw _ (List.mem_of_getElem? (i := 72) rfl))) (mvT hZ (hw _ (List.mem_of_getElem? (i := 73) rfl))) (mvT hZ (hw _ (List.mem_of_getElem? (i := 74) rfl))) (by decide) (backOf (W := 0) (rm_vo l Z a0 hw [] (z4 &&& (65535 : Int32)) wc cl zc hS T32.heap n0 O) hZ (hw _ (List.mem_of_getElem? (i := 74) rfl)) (hw _ (List.mem_of_getElem? (i := 73) rfl)) (by decide) (by decide)) (g := (mkF m 343 LL85 [(.int (z4 &&& (65535 : Int32)))])) rfl (by rw [hml]; rfl) (argsL := [(.int (z4 &&& (65535 : Int32)))]) (rest := []) (lenOf pd_rm1_4 rfl) rfl (by show 2 * 0 + _ ≤ _; exact Nat.le_of_eq rfl) (hb hby at_343) (fun _ _ => ⟨rfl, e86, (by decide : 8 + 1 ≤ _), (by decide : 16 + 1 ≤ _)⟩)
                dsimp only [Pt.U, Pt.locs, Pt.cells, Pt.slots] at X101 l101 y101 z101 st101 hQ101
                subst l101 y101 z101
                obtain ⟨bx101, rfl, Nq101, K101, E_bx101⟩ := hQ101
                replace N := Fr.app N Nq101
                replace V_b13 := V_b13.keep K101 nin0
                replace V_b17 := V_b17.keep K101 nin0
                replace E_b23 := E_b23.keep K101
                replace Gc24 := Gc24.keep K101 nin0
                replace Gv24 := Gv24.keep K101 nin0
                replace Vt24 := Vt24.keep K101 nin0
                replace E_b26 := E_b26.keep K101
                replace Gh27 := Gh27.keep K101 nin0
                replace Gp27 := Gp27.keep K101 nin0
                replace E_b29 := E_b29.keep K101
                replace E_b30 := E_b30.keep K101
                replace Gc31 := Gc31.keep K101 nin0
                replace Gv31 := Gv31.keep K101 nin0
                replace Vt31 := Vt31.keep K101 nin0
                replace Gh32 := Gh32.keep K101 nin0
                replace Gp32 := Gp32.keep K101 nin0
                replace O := O.keep K101 all0
                replace K := K.trans K101 all0
                refine Go.by (T' := T101) (f' := (mkF m 346 LL85 [(.ref bx101)])) (st101) ?_
                let LL102 : Array Slot := #[.val (.int z0), .val (.int z1), .val (.int z2), .val (.int z3), .val (.int z4), .val (.int z5), .val (.int ((1 : Int32) + (z0 &&& (1 : Int32)))), .val (.int ((1 : Int32) + (z1 &&& (1 : Int32)))), .val (.int c4), .val (.int c6), .val (.int c8), .val (.int c10), .val (.ref b13), .val (.ref b17), .val (.int (z4 &&& (65535 : Int32))), .val (.int (z5 &&& (3 : Int32))), .val (.int p2), .val (.ref b23), .val (.ref b26), .val (.ref b29), .val (.int (0 : Int32)), .val (.int (0 : Int32)), .val (.int (((z0.toUInt32 >>> ((1 : Int32) &&& 31).toUInt32).toInt32) &&& (3 : Int32))), .val (.ref bx101)]
                refine Go.by (T' := T101) (f' := (mkF m 348 LL102 [])) (fun _ k => XS.astore X101.here hx rfl (hb hby at_346) rfl rfl (l' := LL102) rfl k) ?_
                refine Go.by (T' := T101) (f' := (mkF m 350 LL102 [(.ref b26)])) (fun _ k => XS.aload X101.here hx rfl (hb hby at_348) rfl rfl k) ?_
                refine Go.by (T' := T101) (f' := (mkF m 352 LL102 [(.ref bx101), (.ref b26)])) (fun _ k => XS.aload X101.here hx rfl (hb hby at_350) rfl rfl k) ?_
                obtain ⟨cq103, kq103, q103a, q103b, q103c⟩ := isOf hZ rfl E_b26
                obtain ⟨v103, _, ⟨T103, L103, k103, n103⟩, -, X103, ⟨Lc103, hQ103, l103, y103, z103⟩, st103⟩ := X101.virtualBack hx (y := (⟨"com/example/honest_replica/honestreplica/model/Endpoint", "equals", "(Ljava/lang/Object;)Z"⟩ : MethodName)) (z := (⟨"com/example/honest_replica/honestreplica/model/Endpoint", "equals", "(Ljava/lang/Object;)Z"⟩ : MethodName)) hown (mvT hZ (hw _ (List.mem_of_getElem? (i := 52) rfl))) (mvT hZ (hw _ (List.mem_of_getElem? (i := 53) rfl))) (notFace_of_selects (args := #[]) (mvT hZ (hw _ (List.mem_of_getElem? (i := 55) rfl)))) (mvT hZ (hw _ (List.mem_of_getElem? (i := 55) rfl))) (mvT hZ (hw _ (List.mem_of_getElem? (i := 54) rfl))) (by decide) (backOf (W := 0) (rm_qi l Z a0 hw [] b26 bx101 T101.heap n0 O E_bx101) hZ (hw _ (List.mem_of_getElem? (i := 56) rfl)) (hw _ (List.mem_of_getElem? (i := 37) rfl)) (by decide) (by decide)) q103a q103c (g := (mkF m 352 LL102 [(.ref bx101), (.ref b26)])) rfl (by rw [hml]; rfl) (Steps.refl _) (argsL := [(.ref bx101)]) (rest := []) (lenOf pd_rm1_3 rfl) rfl (by show 2 * 0 + _ ≤ _; exact Nat.le_of_eq rfl) (hb hby at_352) (fun _ _ => ⟨rfl, rfl, (by decide : 9 + 0 ≤ _), (by decide : 17 + 0 ≤ _)⟩)
                dsimp only [Pt.U, Pt.locs, Pt.cells, Pt.slots] at X103 l103 y103 z103 st103 hQ103
                subst l103 y103 z103
                obtain ⟨rfl, Nq103, e103⟩ := hQ103
                replace N := Fr.app N Nq103
                refine Go.by (T' := T103) (f' := (mkF m 355 LL102 [(.int (0 : Int32))])) (fun _ k => st103.trans k) ?_
                refine Go.by (T' := T103) (f' := (mkF m 358 LL102 [])) (fun _ k => XS.ifNo X103.here hx rfl (hb hby at_355) rfl ((if0 _ _).trans (teq (by decide : (0 : Int32) = (0 : Int32))).2) k) ?_
                refine Go.by (T' := T103) (f' := (mkF m 359 LL102 [(.int (1 : Int32))])) (fun _ k => XS.iconst X103.here hx rfl (hb hby at_358) k) ?_
                refine Go.by (T' := T103) (f' := (mkF m 363 LL102 [(.int (1 : Int32))])) (fun _ k => XS.goto X103.here hx rfl (pc0 := 359) (pc' := 363) rfl (hb hby at_359) (by decide) (by decide) k) ?_
                obtain ⟨fs, hr, hrun, hended, hW, hsame⟩ := X103.leave (v := some (.int (1 : Int32))) (fun h => by rw [Bd.returns] at h; cases h)
                refine ⟨_, _, retN X103 hx (t := .boolean) Bd.returns (by simp) (hb hby at_363) hr, hrun, hended, _, _, rfl, ?_, ⟨_, rfl⟩, hW, hsame.mono (by decide) (by decide)⟩
                show Q1 n0 (some (.int (1 : Int32))) T103.heap _
                rw [e103]
                exact ⟨rfl, N⟩
      refine Go.by (T' := T18) (f' := (mkF m 123 LL21 [(.int (z5 &&& (3 : Int32)))])) (fun _ k => XS.iload X18.here hx rfl (hb hby at_121) rfl k) ?_
      by_cases hc123_105 : (z5 &&& (3 : Int32)) = (0 : Int32)
      · skip
        refine Go.by (T' := T18) (f' := (mkF m 126 LL21 [])) (fun _ k => XS.ifNo X18.here hx rfl (hb hby at_123) rfl ((if0 _ _).trans (teq hc123_105).2) k) ?_
        refine Go.by (T' := T18) (f' := (mkF m 128 LL21 [(.int (z4 &&& (65535 : Int32)))])) (fun _ k => XS.iload X18.here hx rfl (hb hby at_126) rfl k) ?_
        let LL106 : Array Slot := #[.val (.int z0), .val (.int z1), .val (.int z2), .val (.int z3), .val (.int z4), .val (.int z5), .val (.int ((1 : Int32) + (z0 &&& (1 : Int32)))), .val (.int ((1 : Int32) + (z1 &&& (1 : Int32)))), .val (.int c4), .val (.int c6), .val (.int c8), .val (.int c10), .val (.ref b13), .val (.ref b17), .val (.int (z4 &&& (65535 : Int32))), .val (.int (z5 &&& (3 : Int32))), .val (.int (z4 &&& (65535 : Int32))), .unset, .unset, .unset, .unset, .unset, .unset, .unset]
        refine Go.by (T' := T18) (f' := (mkF m 130 LL106 [])) (fun _ k => XS.istore X18.here hx rfl (hb hby at_128) rfl (l' := LL106) rfl k) ?_
        refine Go.by (T' := T18) (f' := (mkF m 165 LL106 [])) (fun _ k => XS.goto X18.here hx rfl (pc0 := 130) (pc' := 165) rfl (hb hby at_130) (by decide) (by decide) k) ?_
        exact key _ (own_p16 _)
      · skip
        refine Go.by (T' := T18) (f' := (mkF m 133 LL21 [])) (fun _ k => XS.ifYes X18.here hx rfl (pc0 := 123) (pc' := 133) rfl (hb hby at_123) rfl ((if0 _ _).trans (feq hc123_105).2) (by decide) (by decide) k) ?_
        refine Go.by (T' := T18) (f' := (mkF m 135 LL21 [(.int (z5 &&& (3 : Int32)))])) (fun _ k => XS.iload X18.here hx rfl (hb hby at_133) rfl k) ?_
        refine Go.by (T' := T18) (f' := (mkF m 136 LL21 [(.int (1 : Int32)), (.int (z5 &&& (3 : Int32)))])) (fun _ k => XS.iconst X18.here hx rfl (hb hby at_135) k) ?_
        by_cases hc136_107 : (z5 &&& (3 : Int32)) = (1 : Int32)
        · skip
          refine Go.by (T' := T18) (f' := (mkF m 139 LL21 [])) (fun _ k => XS.icmpNo X18.here hx rfl (hb hby at_136) rfl (teq hc136_107).2 k) ?_
          refine Go.by (T' := T18) (f' := (mkF m 141 LL21 [(.int (z4 &&& (65535 : Int32)))])) (fun _ k => XS.iload X18.here hx rfl (hb hby at_139) rfl k) ?_
          refine Go.by (T' := T18) (f' := (mkF m 142 LL21 [(.int (1 : Int32)), (.int (z4 &&& (65535 : Int32)))])) (fun _ k => XS.iconst X18.here hx rfl (hb hby at_141) k) ?_
          refine Go.by (T' := T18) (f' := (mkF m 144 LL21 [(.int z5), (.int (1 : Int32)), (.int (z4 &&& (65535 : Int32)))])) (fun _ k => XS.iload X18.here hx rfl (hb hby at_142) rfl k) ?_
          refine Go.by (T' := T18) (f' := (mkF m 145 LL21 [(.int (2 : Int32)), (.int z5), (.int (1 : Int32)), (.int (z4 &&& (65535 : Int32)))])) (fun _ k => XS.iconst X18.here hx rfl (hb hby at_144) k) ?_
          refine Go.by (T' := T18) (f' := (mkF m 146 LL21 [(.int ((z5.toUInt32 >>> ((2 : Int32) &&& 31).toUInt32).toInt32)), (.int (1 : Int32)), (.int (z4 &&& (65535 : Int32)))])) (fun _ k => XS.iushr X18.here hx rfl (hb hby at_145) rfl k) ?_
          refine Go.by (T' := T18) (f' := (mkF m 148 LL21 [(.int (15 : Int32)), (.int ((z5.toUInt32 >>> ((2 : Int32) &&& 31).toUInt32).toInt32)), (.int (1 : Int32)), (.int (z4 &&& (65535 : Int32)))])) (fun _ k => XS.bipush X18.here hx rfl (hb hby at_146) k) ?_
          refine Go.by (T' := T18) (f' := (mkF m 149 LL21 [(.int (((z5.toUInt32 >>> ((2 : Int32) &&& 31).toUInt32).toInt32) &&& (15 : Int32))), (.int (1 : Int32)), (.int (z4 &&& (65535 : Int32)))])) (fun _ k => XS.iand X18.here hx rfl (hb hby at_148) rfl k) ?_
          refine Go.by (T' := T18) (f' := (mkF m 150 LL21 [(.int ((1 : Int32) <<< ((((z5.toUInt32 >>> ((2 : Int32) &&& 31).toUInt32).toInt32) &&& (15 : Int32)) &&& 31))), (.int (z4 &&& (65535 : Int32)))])) (fun _ k => XS.ishl X18.here hx rfl (hb hby at_149) rfl k) ?_
          refine Go.by (T' := T18) (f' := (mkF m 151 LL21 [(.int ((z4 &&& (65535 : Int32)) ^^^ ((1 : Int32) <<< ((((z5.toUInt32 >>> ((2 : Int32) &&& 31).toUInt32).toInt32) &&& (15 : Int32)) &&& 31))))])) (fun _ k => XS.ixor X18.here hx rfl (hb hby at_150) rfl k) ?_
          let LL108 : Array Slot := #[.val (.int z0), .val (.int z1), .val (.int z2), .val (.int z3), .val (.int z4), .val (.int z5), .val (.int ((1 : Int32) + (z0 &&& (1 : Int32)))), .val (.int ((1 : Int32) + (z1 &&& (1 : Int32)))), .val (.int c4), .val (.int c6), .val (.int c8), .val (.int c10), .val (.ref b13), .val (.ref b17), .val (.int (z4 &&& (65535 : Int32))), .val (.int (z5 &&& (3 : Int32))), .val (.int ((z4 &&& (65535 : Int32)) ^^^ ((1 : Int32) <<< ((((z5.toUInt32 >>> ((2 : Int32) &&& 31).toUInt32).toInt32) &&& (15 : Int32)) &&& 31)))), .unset, .unset, .unset, .unset, .unset, .unset, .unset]
          refine Go.by (T' := T18) (f' := (mkF m 153 LL108 [])) (fun _ k => XS.istore X18.here hx rfl (hb hby at_151) rfl (l' := LL108) rfl k) ?_
          refine Go.by (T' := T18) (f' := (mkF m 165 LL108 [])) (fun _ k => XS.goto X18.here hx rfl (pc0 := 153) (pc' := 165) rfl (hb hby at_153) (by decide) (by decide) k) ?_
          exact key _ (own_x16 _ _)
        · skip
          refine Go.by (T' := T18) (f' := (mkF m 156 LL21 [])) (fun _ k => XS.icmpYes X18.here hx rfl (pc0 := 136) (pc' := 156) rfl (hb hby at_136) rfl (feq hc136_107).2 (by decide) (by decide) k) ?_
          refine Go.by (T' := T18) (f' := (mkF m 158 LL21 [(.int z5)])) (fun _ k => XS.iload X18.here hx rfl (hb hby at_156) rfl k) ?_
          refine Go.by (T' := T18) (f' := (mkF m 159 LL21 [(.int (2 : Int32)), (.int z5)])) (fun _ k => XS.iconst X18.here hx rfl (hb hby at_158) k) ?_
          refine Go.by (T' := T18) (f' := (mkF m 160 LL21 [(.int ((z5.toUInt32 >>> ((2 : Int32) &&& 31).toUInt32).toInt32))])) (fun _ k => XS.iushr X18.here hx rfl (hb hby at_159) rfl k) ?_
          refine Go.by (T' := T18) (f' := (mkF m 162 LL21 [(.int (65535 : Int32)), (.int ((z5.toUInt32 >>> ((2 : Int32) &&& 31).toUInt32).toInt32))])) (X18.ldcInt hx hown (mvT hZ (hw _ (List.mem_of_getElem? (i := 5) rfl))) (g := (mkF m 160 LL21 [(.int ((z5.toUInt32 >>> ((2 : Int32) &&& 31).toUInt32).toInt32))])) rfl (hb hby at_160)) ?_
          refine Go.by (T' := T18) (f' := (mkF m 163 LL21 [(.int (((z5.toUInt32 >>> ((2 : Int32) &&& 31).toUInt32).toInt32) &&& (65535 : Int32)))])) (fun _ k => XS.iand X18.here hx rfl (hb hby at_162) rfl k) ?_
          let LL109 : Array Slot := #[.val (.int z0), .val (.int z1), .val (.int z2), .val (.int z3), .val (.int z4), .val (.int z5), .val (.int ((1 : Int32) + (z0 &&& (1 : Int32)))), .val (.int ((1 : Int32) + (z1 &&& (1 : Int32)))), .val (.int c4), .val (.int c6), .val (.int c8), .val (.int c10), .val (.ref b13), .val (.ref b17), .val (.int (z4 &&& (65535 : Int32))), .val (.int (z5 &&& (3 : Int32))), .val (.int (((z5.toUInt32 >>> ((2 : Int32) &&& 31).toUInt32).toInt32) &&& (65535 : Int32))), .unset, .unset, .unset, .unset, .unset, .unset, .unset]
          refine Go.by (T' := T18) (f' := (mkF m 165 LL109 [])) (fun _ k => XS.istore X18.here hx rfl (hb hby at_163) rfl (l' := LL109) rfl k) ?_
          exact key _ (own_p16 _)
    · skip
      refine Go.by (T' := T14) (f' := (mkF m 93 LL15 [])) (fun _ k => XS.icmpYes X14.here hx rfl (pc0 := 79) (pc' := 93) rfl (hb hby at_79) rfl (feq hc79_16).2 (by decide) (by decide) k) ?_
      refine Go.by (T' := T14) (f' := (mkF m 94 LL15 [(.int (2 : Int32))])) (fun _ k => XS.iconst X14.here hx rfl (hb hby at_93) k) ?_
      obtain ⟨T110, h110, k110, X110, e110, E110, A110, st110⟩ := newP X14 hx hZ (hw _ (List.mem_of_getElem? (i := 4) rfl)) e14 (g := (mkF m 94 LL15 [(.int (2 : Int32))])) rfl (hb hby at_94) rfl (by decide) (cap := 2) (by decide) (by decide) (by decide) (by decide)
      obtain ⟨b110, g110⟩ : ∃ z, z = h14.size := ⟨_, rfl⟩
      rw [← g110] at A110 st110
      have ne_b13_b110 : b13 ≠ b110 := Nat.ne_of_lt (Nat.lt_of_lt_of_le V_b13.lt (Nat.le_of_eq g110.symm))
      have g_b110 : n0 ≤ b110 := Nat.le_trans (Old.le O) (Nat.le_of_eq g110.symm)
      have sz_b110 : h0.size ≤ b110 := Nat.le_trans K.1 (Nat.le_of_eq g110.symm)
      replace V_b13 := V_b13.ext E110
      replace O := O.ext E110
      replace K := K.ext E110
      have V_b110 : Arv Z h110 b110 k110 .char (2 : Int32) [(.int (0 : Int32)), (.int (0 : Int32))] (.int (0 : Int32)) := (Arv.new A110 (by decide)).pad (pad_rep [] (.int (0 : Int32)) 2)
      refine Go.by (T' := T110) (f' := (mkF m 96 LL15 [(.ref b110)])) (st110) ?_
      refine Go.by (T' := T110) (f' := (mkF m 97 LL15 [(.ref b110), (.ref b110)])) (fun _ k => XS.dup X110.here hx rfl (hb hby at_96) rfl rfl k) ?_
      refine Go.by (T' := T110) (f' := (mkF m 98 LL15 [(.int (0 : Int32)), (.ref b110), (.ref b110)])) (fun _ k => XS.iconst X110.here hx rfl (hb hby at_97) k) ?_
      refine Go.by (T' := T110) (f' := (mkF m 100 LL15 [(.int c8), (.int (0 : Int32)), (.ref b110), (.ref b110)])) (fun _ k => XS.iload X110.here hx rfl (hb hby at_98) rfl k) ?_
      obtain ⟨cl111, Ar111, q111, S111, N111', H111, G111⟩ := V_b110
      obtain ⟨T111, h111, X111, e111, W111, st111⟩ := stC X110 hx hZ e110 Ar111 (j := (0 : Int32)) (inb_of S111 ⟨by decide, by decide⟩) (g := (mkF m 100 LL15 [(.int c8), (.int (0 : Int32)), (.ref b110), (.ref b110)])) rfl rfl (hb hby at_100)
      replace V_b13 := V_b13.other W111 ne_b13_b110
      replace V_b110 := Arv.set Ar111 q111 S111 N111' H111 G111 (fits_nar_char _) W111 0 rfl (Nat.le_of_ble_eq_true rfl)
      change Arv Z h111 b110 k110 .char (2 : Int32) [(.int (nar .char c8)), (.int (0 : Int32))] _ at V_b110
      rw [own_nar c8 hb8] at V_b110
      replace O := O.wr W111 g_b110
      replace K := K.wr W111 (Or.inr sz_b110)
      replace N := Fr.snoc X111 N g_b110
      refine Go.by (T' := T111) (f' := (mkF m 101 LL15 [(.ref b110)])) (st111) ?_
      refine Go.by (T' := T111) (f' := (mkF m 102 LL15 [(.ref b110), (.ref b110)])) (fun _ k => XS.dup X111.here hx rfl (hb hby at_101) rfl rfl k) ?_
      refine Go.by (T' := T111) (f' := (mkF m 103 LL15 [(.int (1 : Int32)), (.ref b110), (.ref b110)])) (fun _ k => XS.iconst X111.here hx rfl (hb hby at_102) k) ?_
      refine Go.by (T' := T111) (f' := (mkF m 105 LL15 [(.int c10), (.int (1 : Int32)), (.ref b110), (.ref b110)])) (fun _ k => XS.iload X111.here hx rfl (hb hby at_103) rfl k) ?_
      obtain ⟨cl112, Ar112, q112, S112, N112', H112, G112⟩ := V_b110
      obtain ⟨T112, h112, X112, e112, W112, st112⟩ := stC X111 hx hZ e111 Ar112 (j := (1 : Int32)) (inb_of S112 ⟨by decide, by decide⟩) (g := (mkF m 105 LL15 [(.int c10), (.int (1 : Int32)), (.ref b110), (.ref b110)])) rfl rfl (hb hby at_105)
      replace V_b13 := V_b13.other W112 ne_b13_b110
      replace V_b110 := Arv.set Ar112 q112 S112 N112' H112 G112 (fits_nar_char _) W112 1 rfl (Nat.le_of_ble_eq_true rfl)
      change Arv Z h112 b110 k110 .char (2 : Int32) [(.int c8), (.int (nar .char c10))] _ at V_b110
      rw [own_nar c10 hb10] at V_b110
      replace O := O.wr W112 g_b110
      replace K := K.wr W112 (Or.inr sz_b110)
      replace N := Fr.snoc X112 N g_b110
      refine Go.by (T' := T112) (f' := (mkF m 106 LL15 [(.ref b110)])) (st112) ?_
      let LL113 : Array Slot := #[.val (.int z0), .val (.int z1), .val (.int z2), .val (.int z3), .val (.int z4), .val (.int z5), .val (.int ((1 : Int32) + (z0 &&& (1 : Int32)))), .val (.int ((1 : Int32) + (z1 &&& (1 : Int32)))), .val (.int c4), .val (.int c6), .val (.int c8), .val (.int c10), .val (.ref b13), .val (.ref b110), .unset, .unset, .unset, .unset, .unset, .unset, .unset, .unset, .unset, .unset]
      refine Go.by (T' := T112) (f' := (mkF m 108 LL113 [])) (fun _ k => XS.astore X112.here hx rfl (hb hby at_106) rfl rfl (l' := LL113) rfl k) ?_
      refine Go.by (T' := T112) (f' := (mkF m 110 LL113 [(.int z4)])) (fun _ k => XS.iload X112.here hx rfl (hb hby at_108) rfl k) ?_
      refine Go.by (T' := T112) (f' := (mkF m 112 LL113 [(.int (65535 : Int32)), (.int z4)])) (X112.ldcInt hx hown (mvT hZ (hw _ (List.mem_of_getElem? (i := 5) rfl))) (g := (mkF m 110 LL113 [(.int z4)])) rfl (hb hby at_110)) ?_
      refine Go.by (T' := T112) (f' := (mkF m 113 LL113 [(.int (z4 &&& (65535 : Int32)))])) (fun _ k => XS.iand X112.here hx rfl (hb hby at_112) rfl k) ?_
      let LL114 : Array Slot := #[.val (.int z0), .val (.int z1), .val (.int z2), .val (.int z3), .val (.int z4), .val (.int z5), .val (.int ((1 : Int32) + (z0 &&& (1 : Int32)))), .val (.int ((1 : Int32) + (z1 &&& (1 : Int32)))), .val (.int c4), .val (.int c6), .val (.int c8), .val (.int c10), .val (.ref b13), .val (.ref b110), .val (.int (z4 &&& (65535 : Int32))), .unset, .unset, .unset, .unset, .unset, .unset, .unset, .unset, .unset]
      refine Go.by (T' := T112) (f' := (mkF m 115 LL114 [])) (fun _ k => XS.istore X112.here hx rfl (hb hby at_113) rfl (l' := LL114) rfl k) ?_
      refine Go.by (T' := T112) (f' := (mkF m 117 LL114 [(.int z5)])) (fun _ k => XS.iload X112.here hx rfl (hb hby at_115) rfl k) ?_
      refine Go.by (T' := T112) (f' := (mkF m 118 LL114 [(.int (3 : Int32)), (.int z5)])) (fun _ k => XS.iconst X112.here hx rfl (hb hby at_117) k) ?_
      refine Go.by (T' := T112) (f' := (mkF m 119 LL114 [(.int (z5 &&& (3 : Int32)))])) (fun _ k => XS.iand X112.here hx rfl (hb hby at_118) rfl k) ?_
      let LL115 : Array Slot := #[.val (.int z0), .val (.int z1), .val (.int z2), .val (.int z3), .val (.int z4), .val (.int z5), .val (.int ((1 : Int32) + (z0 &&& (1 : Int32)))), .val (.int ((1 : Int32) + (z1 &&& (1 : Int32)))), .val (.int c4), .val (.int c6), .val (.int c8), .val (.int c10), .val (.ref b13), .val (.ref b110), .val (.int (z4 &&& (65535 : Int32))), .val (.int (z5 &&& (3 : Int32))), .unset, .unset, .unset, .unset, .unset, .unset, .unset, .unset]
      refine Go.by (T' := T112) (f' := (mkF m 121 LL115 [])) (fun _ k => XS.istore X112.here hx rfl (hb hby at_119) rfl (l' := LL115) rfl k) ?_
      have key : ∀ p2 : Int32, (¬ p2 < 0 ∧ ¬ (65535 : Int32) < p2) → Go p e below (fun o U' => ∃ v L, o = .returned v ∧ Q1 n0 v U'.heap L ∧ FrameEnd s o U' L 32 128) T112 (mkF m 165 #[.val (.int z0), .val (.int z1), .val (.int z2), .val (.int z3), .val (.int z4), .val (.int z5), .val (.int ((1 : Int32) + (z0 &&& (1 : Int32)))), .val (.int ((1 : Int32) + (z1 &&& (1 : Int32)))), .val (.int c4), .val (.int c6), .val (.int c8), .val (.int c10), .val (.ref b13), .val (.ref b110), .val (.int (z4 &&& (65535 : Int32))), .val (.int (z5 &&& (3 : Int32))), .val (.int p2), .unset, .unset, .unset, .unset, .unset, .unset, .unset] []) := by
        intro p2 hp2
        let LL116 : Array Slot := #[.val (.int z0), .val (.int z1), .val (.int z2), .val (.int z3), .val (.int z4), .val (.int z5), .val (.int ((1 : Int32) + (z0 &&& (1 : Int32)))), .val (.int ((1 : Int32) + (z1 &&& (1 : Int32)))), .val (.int c4), .val (.int c6), .val (.int c8), .val (.int c10), .val (.ref b13), .val (.ref b110), .val (.int (z4 &&& (65535 : Int32))), .val (.int (z5 &&& (3 : Int32))), .val (.int p2), .unset, .unset, .unset, .unset, .unset, .unset, .unset]
        obtain ⟨T117, h117, X117, e117, E117, A117, D117, -, st117⟩ := newO X112 hx hZ hown (hw _ (List.mem_of_getElem? (i := 6) rfl)) (hw _ (List.mem_of_getElem? (i := 7) rfl)) (hw _ (List.mem_of_getElem? (i := 8) rfl)) e112 (g := (mkF m 165 LL116 [])) rfl (hb hby at_165) (by decide) (by decide)
        obtain ⟨b117, g117⟩ : ∃ z, z = h112.size := ⟨_, rfl⟩
        rw [← g117] at A117 D117 st117
        have ne_b13_b117 : b13 ≠ b117 := Nat.ne_of_lt (Nat.lt_of_lt_of_le V_b13.lt (Nat.le_of_eq g117.symm))
        have ne_b110_b117 : b110 ≠ b117 := Nat.ne_of_lt (Nat.lt_of_lt_of_le V_b110.lt (Nat.le_of_eq g117.symm))
        have g_b117 : n0 ≤ b117 := Nat.le_trans (Old.le O) (Nat.le_of_eq g117.symm)
        have sz_b117 : h0.size ≤ b117 := Nat.le_trans K.1 (Nat.le_of_eq g117.symm)
        replace V_b13 := V_b13.ext E117
        replace V_b110 := V_b110.ext E117
        replace O := O.ext E117
        replace K := K.ext E117
        have E_b117 := A117
        have F_coder_b117 : Fld Z h117 b117 "java/lang/String" "coder" "B" (.int (0 : Int32)) := D117 (Or.inr (hw _ (List.mem_of_getElem? (i := 32) rfl))) (ty := .byte) (by decide)
        have F_value_b117 : Fld Z h117 b117 "java/lang/String" "value" "[B" .null := D117 (Or.inr (hw _ (List.mem_of_getElem? (i := 34) rfl))) (ty := (.array .byte)) (by decide)
        refine Go.by (T' := T117) (f' := (mkF m 168 LL116 [(.ref b117)])) (st117) ?_
        refine Go.by (T' := T117) (f' := (mkF m 169 LL116 [(.ref b117), (.ref b117)])) (fun _ k => XS.dup X117.here hx rfl (hb hby at_168) rfl rfl k) ?_
        refine Go.by (T' := T117) (f' := (mkF m 171 LL116 [(.ref b13), (.ref b117), (.ref b117)])) (fun _ k => XS.aload X117.here hx rfl (hb hby at_169) rfl rfl k) ?_
        have hp118 : ∀ c ∈ ([c4] : List Int32), ¬ c < 0 ∧ ¬ (255 : Int32) < c := by
          intro c hc; simp only [List.mem_cons, List.not_mem_nil, or_false] at hc
          rcases hc with rfl
          · exact hb4
        obtain ⟨v118, _, ⟨T118, L118, k118, n118⟩, -, X118, ⟨Lc118, hQ118, l118, y118, z118⟩, st118⟩ := X117.specialBack hx (y := (⟨"java/lang/String", "<init>", "([C)V"⟩ : MethodName)) rfl hown (mvT hZ (hw _ (List.mem_of_getElem? (i := 9) rfl))) (mvT hZ (hw _ (List.mem_of_getElem? (i := 10) rfl))) (mvT hZ (hw _ (List.mem_of_getElem? (i := 11) rfl))) (by decide) (StrChars.Road.backV (W := 1) hZ hws (kI := 4) (hw _ (List.mem_of_getElem? (i := 7) rfl)) (cs := ([c4] : List Int32)) (bs := ([c4] : List Int32).map (fun c => c.toInt8.toInt32)) (n := 1) g_b117 (Old.le O) E_b117 F_value_b117 F_coder_b117 V_b13 (Sta.ext O.2 hS.2.2.2.2.1) hS.2.2.2.2.2.1 rfl rfl (by decide) (by decide) hp118 rfl (by decide) (by decide)) (g := (mkF m 171 LL116 [(.ref b13), (.ref b117), (.ref b117)])) rfl (by rw [hml]; rfl) (Steps.refl _) (a := b117) (argsL := [(.ref b13)]) (rest := [(.ref b117)]) (lenOf pd_rm1_1 rfl) rfl (by show 2 * 0 + _ ≤ _; exact Nat.le_of_eq rfl) (hb hby at_171) (fun _ _ => ⟨rfl, e117, (by decide : 3 + 1 ≤ _), (by decide : 7 + 1 ≤ _)⟩)
        dsimp only [Pt.U, Pt.locs, Pt.cells, Pt.slots] at X118 l118 y118 z118 st118 hQ118
        subst l118 y118 z118
        obtain ⟨rfl, Nq118, K118, -, Gc118, t118, kb118, gt118, szt118, net118, Gv118, Vt118⟩ := hQ118
        replace N := Fr.app N Nq118
        have ne_b13_t118 : b13 ≠ t118 := Nat.ne_of_lt (Nat.lt_of_lt_of_le V_b13.lt szt118)
        have ne_b110_t118 : b110 ≠ t118 := Nat.ne_of_lt (Nat.lt_of_lt_of_le V_b110.lt szt118)
        have ne_b117_t118 : b117 ≠ t118 := Nat.ne_of_lt (Nat.lt_of_lt_of_le E_b117.lt szt118)
        have g_t118 : n0 ≤ t118 := Nat.le_trans (Old.le O) szt118
        have sz_t118 : h0.size ≤ t118 := Nat.le_trans K.1 szt118
        replace V_b13 := V_b13.keep K118 (ninS ne_b13_b117 nin0)
        replace V_b110 := V_b110.keep K118 (ninS ne_b110_b117 nin0)
        replace E_b117 := E_b117.keep K118
        replace O := O.keep K118 (allS g_b117 all0)
        replace K := K.trans K118 (allS (Or.inr sz_b117) all0)
        have hcd118 : StrChars.Road.CodA ([c4] : List Int32) 0 (1 : Int32) ((([c4] : List Int32).map (fun c => c.toInt8.toInt32)).map Value.int) := StrChars.Road.codOf (n := 1) rfl (fun c hc => (hp118 c hc).2)
        refine Go.by (T' := T118) (f' := (mkF m 174 LL116 [(.ref b117)])) (fun _ k => st118.trans k) ?_
        let LL119 : Array Slot := #[.val (.int z0), .val (.int z1), .val (.int z2), .val (.int z3), .val (.int z4), .val (.int z5), .val (.int ((1 : Int32) + (z0 &&& (1 : Int32)))), .val (.int ((1 : Int32) + (z1 &&& (1 : Int32)))), .val (.int c4), .val (.int c6), .val (.int c8), .val (.int c10), .val (.ref b13), .val (.ref b110), .val (.int (z4 &&& (65535 : Int32))), .val (.int (z5 &&& (3 : Int32))), .val (.int p2), .val (.ref b117), .unset, .unset, .unset, .unset, .unset, .unset]
        refine Go.by (T' := T118) (f' := (mkF m 176 LL119 [])) (fun _ k => XS.astore X118.here hx rfl (hb hby at_174) rfl rfl (l' := LL119) rfl k) ?_
        obtain ⟨T120, h120, X120, e120, E120, A120, D120, -, st120⟩ := newO X118 hx hZ hown (hw _ (List.mem_of_getElem? (i := 35) rfl)) (hw _ (List.mem_of_getElem? (i := 36) rfl)) (hw _ (List.mem_of_getElem? (i := 37) rfl)) rfl (g := (mkF m 176 LL119 [])) rfl (hb hby at_176) (by decide) (by decide)
        obtain ⟨b120, g120⟩ : ∃ z, z = T118.heap.size := ⟨_, rfl⟩
        rw [← g120] at A120 D120 st120
        have ne_b13_b120 : b13 ≠ b120 := Nat.ne_of_lt (Nat.lt_of_lt_of_le V_b13.lt (Nat.le_of_eq g120.symm))
        have ne_b110_b120 : b110 ≠ b120 := Nat.ne_of_lt (Nat.lt_of_lt_of_le V_b110.lt (Nat.le_of_eq g120.symm))
        have ne_b117_b120 : b117 ≠ b120 := Nat.ne_of_lt (Nat.lt_of_lt_of_le E_b117.lt (Nat.le_of_eq g120.symm))
        have ne_t118_b120 : t118 ≠ b120 := Nat.ne_of_lt (Nat.lt_of_lt_of_le Vt118.lt (Nat.le_of_eq g120.symm))
        have g_b120 : n0 ≤ b120 := Nat.le_trans (Old.le O) (Nat.le_of_eq g120.symm)
        have sz_b120 : h0.size ≤ b120 := Nat.le_trans K.1 (Nat.le_of_eq g120.symm)
        replace V_b13 := V_b13.ext E120
        replace V_b110 := V_b110.ext E120
        replace E_b117 := E_b117.ext E120
        replace Gc118 := Gc118.ext E120
        replace Gv118 := Gv118.ext E120
        replace Vt118 := Vt118.ext E120
        replace O := O.ext E120
        replace K := K.ext E120
        have E_b120 := A120
        have F_host_b120 : Fld Z h120 b120 "com/example/honest_replica/honestreplica/model/Endpoint" "host" "Ljava/lang/String;" .null := D120 (Or.inr (hw _ (List.mem_of_getElem? (i := 49) rfl))) (ty := (.object "java/lang/String")) (by decide)
        have F_port_b120 : Fld Z h120 b120 "com/example/honest_replica/honestreplica/model/Endpoint" "port" "I" (.int (0 : Int32)) := D120 (Or.inr (hw _ (List.mem_of_getElem? (i := 51) rfl))) (ty := .int) (by decide)
        refine Go.by (T' := T120) (f' := (mkF m 179 LL119 [(.ref b120)])) (st120) ?_
        refine Go.by (T' := T120) (f' := (mkF m 180 LL119 [(.ref b120), (.ref b120)])) (fun _ k => XS.dup X120.here hx rfl (hb hby at_179) rfl rfl k) ?_
        refine Go.by (T' := T120) (f' := (mkF m 182 LL119 [(.ref b117), (.ref b120), (.ref b120)])) (fun _ k => XS.aload X120.here hx rfl (hb hby at_180) rfl rfl k) ?_
        refine Go.by (T' := T120) (f' := (mkF m 184 LL119 [(.int (z4 &&& (65535 : Int32))), (.ref b117), (.ref b120), (.ref b120)])) (fun _ k => XS.iload X120.here hx rfl (hb hby at_182) rfl k) ?_
        obtain ⟨v121, _, ⟨T121, L121, k121, n121⟩, -, X121, ⟨Lc121, hQ121, l121, y121, z121⟩, st121⟩ := X120.specialBack hx (y := (⟨"com/example/honest_replica/honestreplica/model/Endpoint", "<init>", "(Ljava/lang/String;I)V"⟩ : MethodName)) rfl hown (mvT hZ (hw _ (List.mem_of_getElem? (i := 38) rfl))) (mvT hZ (hw _ (List.mem_of_getElem? (i := 39) rfl))) (mvT hZ (hw _ (List.mem_of_getElem? (i := 40) rfl))) (by decide) (backOf (W := 1) (rm_e l Z a0 hw [] b120 b117 (z4 &&& (65535 : Int32)) t118 kb118 (1 : Int32) ((([c4] : List Int32).map (fun c => c.toInt8.toInt32)).map Value.int) ([c4] : List Int32) (by simp) (own_p16 _) ne_t118_b120 h120 n0 O E_b120 F_host_b120 F_port_b120 g_b120 E_b117 Gv118 Gc118 Vt118 hcd118 (own_up _ hp118) (Nat.le_of_ble_eq_true rfl)) hZ (hw _ (List.mem_of_getElem? (i := 40) rfl)) (hw _ (List.mem_of_getElem? (i := 37) rfl)) (by decide) (by decide)) (g := (mkF m 184 LL119 [(.int (z4 &&& (65535 : Int32))), (.ref b117), (.ref b120), (.ref b120)])) rfl (by rw [hml]; rfl) (Steps.refl _) (a := b120) (argsL := [(.ref b117), (.int (z4 &&& (65535 : Int32)))]) (rest := [(.ref b120)]) (lenOf pd_rm1_2 rfl) rfl (by show 2 * 0 + _ ≤ _; exact Nat.le_of_eq rfl) (hb hby at_184) (fun _ _ => ⟨rfl, e120, (by decide : 5 + 0 ≤ _), (by decide : 10 + 0 ≤ _)⟩)
        dsimp only [Pt.U, Pt.locs, Pt.cells, Pt.slots] at X121 l121 y121 z121 st121 hQ121
        subst l121 y121 z121
        obtain ⟨rfl, Nq121, K121, Gh121, Gp121⟩ := hQ121
        replace N := Fr.app N Nq121
        replace V_b13 := V_b13.keep K121 (ninS ne_b13_b120 nin0)
        replace V_b110 := V_b110.keep K121 (ninS ne_b110_b120 nin0)
        replace E_b117 := E_b117.keep K121
        replace Gc118 := Gc118.keep K121 (ninS ne_b117_b120 nin0)
        replace Gv118 := Gv118.keep K121 (ninS ne_b117_b120 nin0)
        replace Vt118 := Vt118.keep K121 (ninS ne_t118_b120 nin0)
        replace E_b120 := E_b120.keep K121
        replace O := O.keep K121 (allS g_b120 all0)
        replace K := K.trans K121 (allS (Or.inr sz_b120) all0)
        refine Go.by (T' := T121) (f' := (mkF m 187 LL119 [(.ref b120)])) (fun _ k => st121.trans k) ?_
        let LL122 : Array Slot := #[.val (.int z0), .val (.int z1), .val (.int z2), .val (.int z3), .val (.int z4), .val (.int z5), .val (.int ((1 : Int32) + (z0 &&& (1 : Int32)))), .val (.int ((1 : Int32) + (z1 &&& (1 : Int32)))), .val (.int c4), .val (.int c6), .val (.int c8), .val (.int c10), .val (.ref b13), .val (.ref b110), .val (.int (z4 &&& (65535 : Int32))), .val (.int (z5 &&& (3 : Int32))), .val (.int p2), .val (.ref b117), .val (.ref b120), .unset, .unset, .unset, .unset, .unset]
        refine Go.by (T' := T121) (f' := (mkF m 189 LL122 [])) (fun _ k => XS.astore X121.here hx rfl (hb hby at_187) rfl rfl (l' := LL122) rfl k) ?_
        obtain ⟨T123, h123, X123, e123, E123, A123, D123, -, st123⟩ := newO X121 hx hZ hown (hw _ (List.mem_of_getElem? (i := 35) rfl)) (hw _ (List.mem_of_getElem? (i := 36) rfl)) (hw _ (List.mem_of_getElem? (i := 37) rfl)) rfl (g := (mkF m 189 LL122 [])) rfl (hb hby at_189) (by decide) (by decide)
        obtain ⟨b123, g123⟩ : ∃ z, z = T121.heap.size := ⟨_, rfl⟩
        rw [← g123] at A123 D123 st123
        have ne_b13_b123 : b13 ≠ b123 := Nat.ne_of_lt (Nat.lt_of_lt_of_le V_b13.lt (Nat.le_of_eq g123.symm))
        have ne_b110_b123 : b110 ≠ b123 := Nat.ne_of_lt (Nat.lt_of_lt_of_le V_b110.lt (Nat.le_of_eq g123.symm))
        have ne_b117_b123 : b117 ≠ b123 := Nat.ne_of_lt (Nat.lt_of_lt_of_le E_b117.lt (Nat.le_of_eq g123.symm))
        have ne_t118_b123 : t118 ≠ b123 := Nat.ne_of_lt (Nat.lt_of_lt_of_le Vt118.lt (Nat.le_of_eq g123.symm))
        have ne_b120_b123 : b120 ≠ b123 := Nat.ne_of_lt (Nat.lt_of_lt_of_le E_b120.lt (Nat.le_of_eq g123.symm))
        have g_b123 : n0 ≤ b123 := Nat.le_trans (Old.le O) (Nat.le_of_eq g123.symm)
        have sz_b123 : h0.size ≤ b123 := Nat.le_trans K.1 (Nat.le_of_eq g123.symm)
        replace V_b13 := V_b13.ext E123
        replace V_b110 := V_b110.ext E123
        replace E_b117 := E_b117.ext E123
        replace Gc118 := Gc118.ext E123
        replace Gv118 := Gv118.ext E123
        replace Vt118 := Vt118.ext E123
        replace E_b120 := E_b120.ext E123
        replace Gh121 := Gh121.ext E123
        replace Gp121 := Gp121.ext E123
        replace O := O.ext E123
        replace K := K.ext E123
        have E_b123 := A123
        have F_host_b123 : Fld Z h123 b123 "com/example/honest_replica/honestreplica/model/Endpoint" "host" "Ljava/lang/String;" .null := D123 (Or.inr (hw _ (List.mem_of_getElem? (i := 49) rfl))) (ty := (.object "java/lang/String")) (by decide)
        have F_port_b123 : Fld Z h123 b123 "com/example/honest_replica/honestreplica/model/Endpoint" "port" "I" (.int (0 : Int32)) := D123 (Or.inr (hw _ (List.mem_of_getElem? (i := 51) rfl))) (ty := .int) (by decide)
        refine Go.by (T' := T123) (f' := (mkF m 192 LL122 [(.ref b123)])) (st123) ?_
        refine Go.by (T' := T123) (f' := (mkF m 193 LL122 [(.ref b123), (.ref b123)])) (fun _ k => XS.dup X123.here hx rfl (hb hby at_192) rfl rfl k) ?_
        obtain ⟨T124, h124, X124, e124, E124, A124, D124, -, st124⟩ := newO X123 hx hZ hown (hw _ (List.mem_of_getElem? (i := 6) rfl)) (hw _ (List.mem_of_getElem? (i := 7) rfl)) (hw _ (List.mem_of_getElem? (i := 8) rfl)) e123 (g := (mkF m 193 LL122 [(.ref b123), (.ref b123)])) rfl (hb hby at_193) (by decide) (by decide)
        obtain ⟨b124, g124⟩ : ∃ z, z = h123.size := ⟨_, rfl⟩
        rw [← g124] at A124 D124 st124
        have ne_b13_b124 : b13 ≠ b124 := Nat.ne_of_lt (Nat.lt_of_lt_of_le V_b13.lt (Nat.le_of_eq g124.symm))
        have ne_b110_b124 : b110 ≠ b124 := Nat.ne_of_lt (Nat.lt_of_lt_of_le V_b110.lt (Nat.le_of_eq g124.symm))
        have ne_b117_b124 : b117 ≠ b124 := Nat.ne_of_lt (Nat.lt_of_lt_of_le E_b117.lt (Nat.le_of_eq g124.symm))
        have ne_t118_b124 : t118 ≠ b124 := Nat.ne_of_lt (Nat.lt_of_lt_of_le Vt118.lt (Nat.le_of_eq g124.symm))
        have ne_b120_b124 : b120 ≠ b124 := Nat.ne_of_lt (Nat.lt_of_lt_of_le E_b120.lt (Nat.le_of_eq g124.symm))
        have ne_b123_b124 : b123 ≠ b124 := Nat.ne_of_lt (Nat.lt_of_lt_of_le E_b123.lt (Nat.le_of_eq g124.symm))
        have g_b124 : n0 ≤ b124 := Nat.le_trans (Old.le O) (Nat.le_of_eq g124.symm)
        have sz_b124 : h0.size ≤ b124 := Nat.le_trans K.1 (Nat.le_of_eq g124.symm)
        replace V_b13 := V_b13.ext E124
        replace V_b110 := V_b110.ext E124
        replace E_b117 := E_b117.ext E124
        replace Gc118 := Gc118.ext E124
        replace Gv118 := Gv118.ext E124
        replace Vt118 := Vt118.ext E124
        replace E_b120 := E_b120.ext E124
        replace Gh121 := Gh121.ext E124
        replace Gp121 := Gp121.ext E124
        replace E_b123 := E_b123.ext E124
        replace F_host_b123 := F_host_b123.ext E124
        replace F_port_b123 := F_port_b123.ext E124
        replace O := O.ext E124
        replace K := K.ext E124
        have E_b124 := A124
        have F_coder_b124 : Fld Z h124 b124 "java/lang/String" "coder" "B" (.int (0 : Int32)) := D124 (Or.inr (hw _ (List.mem_of_getElem? (i := 32) rfl))) (ty := .byte) (by decide)
        have F_value_b124 : Fld Z h124 b124 "java/lang/String" "value" "[B" .null := D124 (Or.inr (hw _ (List.mem_of_getElem? (i := 34) rfl))) (ty := (.array .byte)) (by decide)
        refine Go.by (T' := T124) (f' := (mkF m 196 LL122 [(.ref b124), (.ref b123), (.ref b123)])) (st124) ?_
        refine Go.by (T' := T124) (f' := (mkF m 197 LL122 [(.ref b124), (.ref b124), (.ref b123), (.ref b123)])) (fun _ k => XS.dup X124.here hx rfl (hb hby at_196) rfl rfl k) ?_
        refine Go.by (T' := T124) (f' := (mkF m 199 LL122 [(.ref b110), (.ref b124), (.ref b124), (.ref b123), (.ref b123)])) (fun _ k => XS.aload X124.here hx rfl (hb hby at_197) rfl rfl k) ?_
        have hp125 : ∀ c ∈ ([c8, c10] : List Int32), ¬ c < 0 ∧ ¬ (255 : Int32) < c := by
          intro c hc; simp only [List.mem_cons, List.not_mem_nil, or_false] at hc
          rcases hc with rfl | rfl
          · exact hb8
          · exact hb10
        obtain ⟨v125, _, ⟨T125, L125, k125, n125⟩, -, X125, ⟨Lc125, hQ125, l125, y125, z125⟩, st125⟩ := X124.specialBack hx (y := (⟨"java/lang/String", "<init>", "([C)V"⟩ : MethodName)) rfl hown (mvT hZ (hw _ (List.mem_of_getElem? (i := 9) rfl))) (mvT hZ (hw _ (List.mem_of_getElem? (i := 10) rfl))) (mvT hZ (hw _ (List.mem_of_getElem? (i := 11) rfl))) (by decide) (StrChars.Road.backV (W := 3) hZ hws (kI := 4) (hw _ (List.mem_of_getElem? (i := 7) rfl)) (cs := ([c8, c10] : List Int32)) (bs := ([c8, c10] : List Int32).map (fun c => c.toInt8.toInt32)) (n := 2) g_b124 (Old.le O) E_b124 F_value_b124 F_coder_b124 V_b110 (Sta.ext O.2 hS.2.2.2.2.1) hS.2.2.2.2.2.1 rfl rfl (by decide) (by decide) hp125 rfl (by decide) (by decide)) (g := (mkF m 199 LL122 [(.ref b110), (.ref b124), (.ref b124), (.ref b123), (.ref b123)])) rfl (by rw [hml]; rfl) (Steps.refl _) (a := b124) (argsL := [(.ref b110)]) (rest := [(.ref b124), (.ref b123), (.ref b123)]) (lenOf pd_rm1_1 rfl) rfl (by show 2 * 0 + _ ≤ _; exact Nat.le_of_eq rfl) (hb hby at_199) (fun _ _ => ⟨rfl, e124, (by decide : 7 + 1 ≤ _), (by decide : 16 + 2 ≤ _)⟩)
        dsimp only [Pt.U, Pt.locs, Pt.cells, Pt.slots] at X125 l125 y125 z125 st125 hQ125
        subst l125 y125 z125
        obtain ⟨rfl, Nq125, K125, -, Gc125, t125, kb125, gt125, szt125, net125, Gv125, Vt125⟩ := hQ125
        replace N := Fr.app N Nq125
        have ne_b13_t125 : b13 ≠ t125 := Nat.ne_of_lt (Nat.lt_of_lt_of_le V_b13.lt szt125)
        have ne_b110_t125 : b110 ≠ t125 := Nat.ne_of_lt (Nat.lt_of_lt_of_le V_b110.lt szt125)
        have ne_b117_t125 : b117 ≠ t125 := Nat.ne_of_lt (Nat.lt_of_lt_of_le E_b117.lt szt125)
        have ne_t118_t125 : t118 ≠ t125 := Nat.ne_of_lt (Nat.lt_of_lt_of_le Vt118.lt szt125)
        have ne_b120_t125 : b120 ≠ t125 := Nat.ne_of_lt (Nat.lt_of_lt_of_le E_b120.lt szt125)
        have ne_b123_t125 : b123 ≠ t125 := Nat.ne_of_lt (Nat.lt_of_lt_of_le E_b123.lt szt125)
        have ne_b124_t125 : b124 ≠ t125 := Nat.ne_of_lt (Nat.lt_of_lt_of_le E_b124.lt szt125)
        have g_t125 : n0 ≤ t125 := Nat.le_trans (Old.le O) szt125
        have sz_t125 : h0.size ≤ t125 := Nat.le_trans K.1 szt125
        replace V_b13 := V_b13.keep K125 (ninS ne_b13_b124 nin0)
        replace V_b110 := V_b110.keep K125 (ninS ne_b110_b124 nin0)
        replace E_b117 := E_b117.keep K125
        replace Gc118 := Gc118.keep K125 (ninS ne_b117_b124 nin0)
        replace Gv118 := Gv118.keep K125 (ninS ne_b117_b124 nin0)
        replace Vt118 := Vt118.keep K125 (ninS ne_t118_b124 nin0)
        replace E_b120 := E_b120.keep K125
        replace Gh121 := Gh121.keep K125 (ninS ne_b120_b124 nin0)
        replace Gp121 := Gp121.keep K125 (ninS ne_b120_b124 nin0)
        replace E_b123 := E_b123.keep K125
        replace F_host_b123 := F_host_b123.keep K125 (ninS ne_b123_b124 nin0)
        replace F_port_b123 := F_port_b123.keep K125 (ninS ne_b123_b124 nin0)
        replace E_b124 := E_b124.keep K125
        replace O := O.keep K125 (allS g_b124 all0)
        replace K := K.trans K125 (allS (Or.inr sz_b124) all0)
        have hcd125 : StrChars.Road.CodA ([c8, c10] : List Int32) 0 (2 : Int32) ((([c8, c10] : List Int32).map (fun c => c.toInt8.toInt32)).map Value.int) := StrChars.Road.codOf (n := 2) rfl (fun c hc => (hp125 c hc).2)
        refine Go.by (T' := T125) (f' := (mkF m 202 LL122 [(.ref b124), (.ref b123), (.ref b123)])) (fun _ k => st125.trans k) ?_
        refine Go.by (T' := T125) (f' := (mkF m 204 LL122 [(.int p2), (.ref b124), (.ref b123), (.ref b123)])) (fun _ k => XS.iload X125.here hx rfl (hb hby at_202) rfl k) ?_
        obtain ⟨v126, _, ⟨T126, L126, k126, n126⟩, -, X126, ⟨Lc126, hQ126, l126, y126, z126⟩, st126⟩ := X125.specialBack hx (y := (⟨"com/example/honest_replica/honestreplica/model/Endpoint", "<init>", "(Ljava/lang/String;I)V"⟩ : MethodName)) rfl hown (mvT hZ (hw _ (List.mem_of_getElem? (i := 38) rfl))) (mvT hZ (hw _ (List.mem_of_getElem? (i := 39) rfl))) (mvT hZ (hw _ (List.mem_of_getElem? (i := 40) rfl))) (by decide) (backOf (W := 1) (rm_e l Z a0 hw [] b123 b124 p2 t125 kb125 (2 : Int32) ((([c8, c10] : List Int32).map (fun c => c.toInt8.toInt32)).map Value.int) ([c8, c10] : List Int32) (by simp) hp2 (Ne.symm ne_b123_t125) T125.heap n0 O E_b123 F_host_b123 F_port_b123 g_b123 E_b124 Gv125 Gc125 Vt125 hcd125 (own_up _ hp125) (Nat.le_of_ble_eq_true rfl)) hZ (hw _ (List.mem_of_getElem? (i := 40) rfl)) (hw _ (List.mem_of_getElem? (i := 37) rfl)) (by decide) (by decide)) (g := (mkF m 204 LL122 [(.int p2), (.ref b124), (.ref b123), (.ref b123)])) rfl (by rw [hml]; rfl) (Steps.refl _) (a := b123) (argsL := [(.ref b124), (.int p2)]) (rest := [(.ref b123)]) (lenOf pd_rm1_2 rfl) rfl (by show 2 * 0 + _ ≤ _; exact Nat.le_of_eq rfl) (hb hby at_204) (fun _ _ => ⟨rfl, rfl, (by decide : 8 + 0 ≤ _), (by decide : 18 + 0 ≤ _)⟩)
        dsimp only [Pt.U, Pt.locs, Pt.cells, Pt.slots] at X126 l126 y126 z126 st126 hQ126
        subst l126 y126 z126
        obtain ⟨rfl, Nq126, K126, Gh126, Gp126⟩ := hQ126
        replace N := Fr.app N Nq126
        replace V_b13 := V_b13.keep K126 (ninS ne_b13_b123 nin0)
        replace V_b110 := V_b110.keep K126 (ninS ne_b110_b123 nin0)
        replace E_b117 := E_b117.keep K126
        replace Gc118 := Gc118.keep K126 (ninS ne_b117_b123 nin0)
        replace Gv118 := Gv118.keep K126 (ninS ne_b117_b123 nin0)
        replace Vt118 := Vt118.keep K126 (ninS ne_t118_b123 nin0)
        replace E_b120 := E_b120.keep K126
        replace Gh121 := Gh121.keep K126 (ninS ne_b120_b123 nin0)
        replace Gp121 := Gp121.keep K126 (ninS ne_b120_b123 nin0)
        replace E_b123 := E_b123.keep K126
        replace E_b124 := E_b124.keep K126
        replace Gc125 := Gc125.keep K126 (ninS (Ne.symm ne_b123_b124) nin0)
        replace Gv125 := Gv125.keep K126 (ninS (Ne.symm ne_b123_b124) nin0)
        replace Vt125 := Vt125.keep K126 (ninS (Ne.symm ne_b123_t125) nin0)
        replace O := O.keep K126 (allS g_b123 all0)
        replace K := K.trans K126 (allS (Or.inr sz_b123) all0)
        refine Go.by (T' := T126) (f' := (mkF m 207 LL122 [(.ref b123)])) (fun _ k => st126.trans k) ?_
        let LL127 : Array Slot := #[.val (.int z0), .val (.int z1), .val (.int z2), .val (.int z3), .val (.int z4), .val (.int z5), .val (.int ((1 : Int32) + (z0 &&& (1 : Int32)))), .val (.int ((1 : Int32) + (z1 &&& (1 : Int32)))), .val (.int c4), .val (.int c6), .val (.int c8), .val (.int c10), .val (.ref b13), .val (.ref b110), .val (.int (z4 &&& (65535 : Int32))), .val (.int (z5 &&& (3 : Int32))), .val (.int p2), .val (.ref b117), .val (.ref b120), .val (.ref b123), .unset, .unset, .unset, .unset]
        refine Go.by (T' := T126) (f' := (mkF m 209 LL127 [])) (fun _ k => XS.astore X126.here hx rfl (hb hby at_207) rfl rfl (l' := LL127) rfl k) ?_
        refine Go.by (T' := T126) (f' := (mkF m 211 LL127 [(.int ((1 : Int32) + (z0 &&& (1 : Int32))))])) (fun _ k => XS.iload X126.here hx rfl (hb hby at_209) rfl k) ?_
        refine Go.by (T' := T126) (f' := (mkF m 213 LL127 [(.int ((1 : Int32) + (z1 &&& (1 : Int32)))), (.int ((1 : Int32) + (z0 &&& (1 : Int32))))])) (fun _ k => XS.iload X126.here hx rfl (hb hby at_211) rfl k) ?_
        refine Go.by (T' := T126) (f' := (mkF m 240 LL127 [])) (fun _ k => XS.icmpYes X126.here hx rfl (pc0 := 213) (pc' := 240) rfl (hb hby at_213) rfl (feq (fun q => hc79_16 (q.symm.trans hc47_12))).2 (by decide) (by decide) k) ?_
        refine Go.by (T' := T126) (f' := (mkF m 241 LL127 [(.int (0 : Int32))])) (fun _ k => XS.iconst X126.here hx rfl (hb hby at_240) k) ?_
        let LL129 : Array Slot := #[.val (.int z0), .val (.int z1), .val (.int z2), .val (.int z3), .val (.int z4), .val (.int z5), .val (.int ((1 : Int32) + (z0 &&& (1 : Int32)))), .val (.int ((1 : Int32) + (z1 &&& (1 : Int32)))), .val (.int c4), .val (.int c6), .val (.int c8), .val (.int c10), .val (.ref b13), .val (.ref b110), .val (.int (z4 &&& (65535 : Int32))), .val (.int (z5 &&& (3 : Int32))), .val (.int p2), .val (.ref b117), .val (.ref b120), .val (.ref b123), .val (.int (0 : Int32)), .unset, .unset, .unset]
        refine Go.by (T' := T126) (f' := (mkF m 243 LL129 [])) (fun _ k => XS.istore X126.here hx rfl (hb hby at_241) rfl (l' := LL129) rfl k) ?_
        refine Go.by (T' := T126) (f' := (mkF m 245 LL129 [(.int (0 : Int32))])) (fun _ k => XS.iload X126.here hx rfl (hb hby at_243) rfl k) ?_
        refine Go.by (T' := T126) (f' := (mkF m 259 LL129 [])) (fun _ k => XS.ifYes X126.here hx rfl (pc0 := 245) (pc' := 259) rfl (hb hby at_245) rfl ((if0 _ _).trans (teq (by decide : (0 : Int32) = (0 : Int32))).1) (by decide) (by decide) k) ?_
        refine Go.by (T' := T126) (f' := (mkF m 260 LL129 [(.int (0 : Int32))])) (fun _ k => XS.iconst X126.here hx rfl (hb hby at_259) k) ?_
        let LL131 : Array Slot := #[.val (.int z0), .val (.int z1), .val (.int z2), .val (.int z3), .val (.int z4), .val (.int z5), .val (.int ((1 : Int32) + (z0 &&& (1 : Int32)))), .val (.int ((1 : Int32) + (z1 &&& (1 : Int32)))), .val (.int c4), .val (.int c6), .val (.int c8), .val (.int c10), .val (.ref b13), .val (.ref b110), .val (.int (z4 &&& (65535 : Int32))), .val (.int (z5 &&& (3 : Int32))), .val (.int p2), .val (.ref b117), .val (.ref b120), .val (.ref b123), .val (.int (0 : Int32)), .val (.int (0 : Int32)), .unset, .unset]
        refine Go.by (T' := T126) (f' := (mkF m 262 LL131 [])) (fun _ k => XS.istore X126.here hx rfl (hb hby at_260) rfl (l' := LL131) rfl k) ?_
        refine Go.by (T' := T126) (f' := (mkF m 263 LL131 [(.int z0)])) (fun _ k => XS.iloadN X126.here hx rfl (hb hby at_262) rfl k) ?_
        refine Go.by (T' := T126) (f' := (mkF m 264 LL131 [(.int (1 : Int32)), (.int z0)])) (fun _ k => XS.iconst X126.here hx rfl (hb hby at_263) k) ?_
        refine Go.by (T' := T126) (f' := (mkF m 265 LL131 [(.int ((z0.toUInt32 >>> ((1 : Int32) &&& 31).toUInt32).toInt32))])) (fun _ k => XS.iushr X126.here hx rfl (hb hby at_264) rfl k) ?_
        refine Go.by (T' := T126) (f' := (mkF m 266 LL131 [(.int (3 : Int32)), (.int ((z0.toUInt32 >>> ((1 : Int32) &&& 31).toUInt32).toInt32))])) (fun _ k => XS.iconst X126.here hx rfl (hb hby at_265) k) ?_
        refine Go.by (T' := T126) (f' := (mkF m 267 LL131 [(.int (((z0.toUInt32 >>> ((1 : Int32) &&& 31).toUInt32).toInt32) &&& (3 : Int32)))])) (fun _ k => XS.iand X126.here hx rfl (hb hby at_266) rfl k) ?_
        let LL132 : Array Slot := #[.val (.int z0), .val (.int z1), .val (.int z2), .val (.int z3), .val (.int z4), .val (.int z5), .val (.int ((1 : Int32) + (z0 &&& (1 : Int32)))), .val (.int ((1 : Int32) + (z1 &&& (1 : Int32)))), .val (.int c4), .val (.int c6), .val (.int c8), .val (.int c10), .val (.ref b13), .val (.ref b110), .val (.int (z4 &&& (65535 : Int32))), .val (.int (z5 &&& (3 : Int32))), .val (.int p2), .val (.ref b117), .val (.ref b120), .val (.ref b123), .val (.int (0 : Int32)), .val (.int (0 : Int32)), .val (.int (((z0.toUInt32 >>> ((1 : Int32) &&& 31).toUInt32).toInt32) &&& (3 : Int32))), .unset]
        refine Go.by (T' := T126) (f' := (mkF m 269 LL132 [])) (fun _ k => XS.istore X126.here hx rfl (hb hby at_267) rfl (l' := LL132) rfl k) ?_
        refine Go.by (T' := T126) (f' := (mkF m 271 LL132 [(.ref b120)])) (fun _ k => XS.aload X126.here hx rfl (hb hby at_269) rfl rfl k) ?_
        refine Go.by (T' := T126) (f' := (mkF m 273 LL132 [(.ref b120), (.ref b120)])) (fun _ k => XS.aload X126.here hx rfl (hb hby at_271) rfl rfl k) ?_
        obtain ⟨cq133, kq133, q133a, q133b, q133c⟩ := isOf hZ rfl E_b120
        obtain ⟨v133, _, ⟨T133, L133, k133, n133⟩, -, X133, ⟨Lc133, hQ133, l133, y133, z133⟩, st133⟩ := X126.virtualBack hx (y := (⟨"com/example/honest_replica/honestreplica/model/Endpoint", "equals", "(Ljava/lang/Object;)Z"⟩ : MethodName)) (z := (⟨"com/example/honest_replica/honestreplica/model/Endpoint", "equals", "(Ljava/lang/Object;)Z"⟩ : MethodName)) hown (mvT hZ (hw _ (List.mem_of_getElem? (i := 52) rfl))) (mvT hZ (hw _ (List.mem_of_getElem? (i := 53) rfl))) (notFace_of_selects (args := #[]) (mvT hZ (hw _ (List.mem_of_getElem? (i := 55) rfl)))) (mvT hZ (hw _ (List.mem_of_getElem? (i := 55) rfl))) (mvT hZ (hw _ (List.mem_of_getElem? (i := 54) rfl))) (by decide) (backOf (W := 0) (rm_q l Z a0 hw [] b120 b120 b117 b117 (z4 &&& (65535 : Int32)) (z4 &&& (65535 : Int32)) t118 kb118 (1 : Int32) ((([c4] : List Int32).map (fun c => c.toInt8.toInt32)).map Value.int) ([c4] : List Int32) t118 kb118 (1 : Int32) ((([c4] : List Int32).map (fun c => c.toInt8.toInt32)).map Value.int) ([c4] : List Int32) wc cl zc hS T126.heap n0 O E_b120 E_b120 Gh121 Gp121 Gh121 Gp121 E_b117 Gv118 Gc118 Vt118 hcd118 (own_up _ hp118) (Nat.le_of_ble_eq_true rfl) E_b117 Gv118 Gc118 Vt118 hcd118 (own_up _ hp118) (Nat.le_of_ble_eq_true rfl)) hZ (hw _ (List.mem_of_getElem? (i := 56) rfl)) (hw _ (List.mem_of_getElem? (i := 37) rfl)) (by decide) (by decide)) q133a q133c (g := (mkF m 273 LL132 [(.ref b120), (.ref b120)])) rfl (by rw [hml]; rfl) (Steps.refl _) (argsL := [(.ref b120)]) (rest := []) (lenOf pd_rm1_3 rfl) rfl (by show 2 * 0 + _ ≤ _; exact Nat.le_of_eq rfl) (hb hby at_273) (fun _ _ => ⟨rfl, rfl, (by decide : 8 + 0 ≤ _), (by decide : 18 + 0 ≤ _)⟩)
        dsimp only [Pt.U, Pt.locs, Pt.cells, Pt.slots] at X133 l133 y133 z133 st133 hQ133
        subst l133 y133 z133
        obtain ⟨hv133, Nq133, e133⟩ := hQ133
        have hz133 : eqs ([c4] : List Int32) (z4 &&& (65535 : Int32)) ([c4] : List Int32) (z4 &&& (65535 : Int32)) = 1 := by simp [eqs]
        rw [hz133] at hv133
        subst hv133
        replace N := Fr.app N Nq133
        refine Go.by (T' := T133) (f' := (mkF m 276 LL132 [(.int (1 : Int32))])) (fun _ k => st133.trans k) ?_
        refine Go.by (T' := T133) (f' := (mkF m 281 LL132 [])) (fun _ k => XS.ifYes X133.here hx rfl (pc0 := 276) (pc' := 281) rfl (hb hby at_276) rfl ((if0 _ _).trans (feq (by decide : ¬ ((1 : Int32) = (0 : Int32)))).2) (by decide) (by decide) k) ?_
        refine Go.by (T' := T133) (f' := (mkF m 283 LL132 [(.int (((z0.toUInt32 >>> ((1 : Int32) &&& 31).toUInt32).toInt32) &&& (3 : Int32)))])) (fun _ k => XS.iload X133.here hx rfl (hb hby at_281) rfl k) ?_
        by_cases hc283_135 : (((z0.toUInt32 >>> ((1 : Int32) &&& 31).toUInt32).toInt32) &&& (3 : Int32)) = (0 : Int32)
        · skip
          refine Go.by (T' := T133) (f' := (mkF m 286 LL132 [])) (fun _ k => XS.ifNo X133.here hx rfl (hb hby at_283) rfl ((if0 _ _).trans (teq hc283_135).2) k) ?_
          refine Go.by (T' := T133) (f' := (mkF m 288 LL132 [(.ref b120)])) (fun _ k => XS.aload X133.here hx rfl (hb hby at_286) rfl rfl k) ?_
          refine Go.by (T' := T133) (f' := (mkF m 290 LL132 [(.ref b123), (.ref b120)])) (fun _ k => XS.aload X133.here hx rfl (hb hby at_288) rfl rfl k) ?_
          obtain ⟨cq136, kq136, q136a, q136b, q136c⟩ := isOf hZ e133 E_b120
          obtain ⟨v136, _, ⟨T136, L136, k136, n136⟩, -, X136, ⟨Lc136, hQ136, l136, y136, z136⟩, st136⟩ := X133.virtualBack hx (y := (⟨"com/example/honest_replica/honestreplica/model/Endpoint", "equals", "(Ljava/lang/Object;)Z"⟩ : MethodName)) (z := (⟨"com/example/honest_replica/honestreplica/model/Endpoint", "equals", "(Ljava/lang/Object;)Z"⟩ : MethodName)) hown (mvT hZ (hw _ (List.mem_of_getElem? (i := 52) rfl))) (mvT hZ (hw _ (List.mem_of_getElem? (i := 53) rfl))) (notFace_of_selects (args := #[]) (mvT hZ (hw _ (List.mem_of_getElem? (i := 55) rfl)))) (mvT hZ (hw _ (List.mem_of_getElem? (i := 55) rfl))) (mvT hZ (hw _ (List.mem_of_getElem? (i := 54) rfl))) (by decide) (backOf (W := 0) (rm_q l Z a0 hw [] b120 b123 b117 b124 (z4 &&& (65535 : Int32)) p2 t118 kb118 (1 : Int32) ((([c4] : List Int32).map (fun c => c.toInt8.toInt32)).map Value.int) ([c4] : List Int32) t125 kb125 (2 : Int32) ((([c8, c10] : List Int32).map (fun c => c.toInt8.toInt32)).map Value.int) ([c8, c10] : List Int32) wc cl zc hS T126.heap n0 O E_b120 E_b123 Gh121 Gp121 Gh126 Gp126 E_b117 Gv118 Gc118 Vt118 hcd118 (own_up _ hp118) (Nat.le_of_ble_eq_true rfl) E_b124 Gv125 Gc125 Vt125 hcd125 (own_up _ hp125) (Nat.le_of_ble_eq_true rfl)) hZ (hw _ (List.mem_of_getElem? (i := 56) rfl)) (hw _ (List.mem_of_getElem? (i := 37) rfl)) (by decide) (by decide)) q136a q136c (g := (mkF m 290 LL132 [(.ref b123), (.ref b120)])) rfl (by rw [hml]; rfl) (Steps.refl _) (argsL := [(.ref b123)]) (rest := []) (lenOf pd_rm1_3 rfl) rfl (by show 2 * 0 + _ ≤ _; exact Nat.le_of_eq rfl) (hb hby at_290) (fun _ _ => ⟨rfl, e133, (by decide : 8 + 0 ≤ _), (by decide : 18 + 0 ≤ _)⟩)
          dsimp only [Pt.U, Pt.locs, Pt.cells, Pt.slots] at X136 l136 y136 z136 st136 hQ136
          subst l136 y136 z136
          obtain ⟨hv136, Nq136, e136⟩ := hQ136
          have hz136 : eqs ([c4] : List Int32) (z4 &&& (65535 : Int32)) ([c8, c10] : List Int32) p2 = 0 := by simp [eqs]
          rw [hz136] at hv136
          subst hv136
          replace N := Fr.app N Nq136
          refine Go.by (T' := T136) (f' := (mkF m 293 LL132 [(.int (0 : Int32))])) (fun _ k => st136.trans k) ?_
          refine Go.by (T' := T136) (f' := (mkF m 295 LL132 [(.int (0 : Int32)), (.int (0 : Int32))])) (fun _ k => XS.iload X136.here hx rfl (hb hby at_293) rfl k) ?_
          refine Go.by (T' := T136) (f' := (mkF m 298 LL132 [])) (fun _ k => XS.icmpNo X136.here hx rfl (hb hby at_295) rfl (teq (by decide : (0 : Int32) = (0 : Int32))).2 k) ?_
          refine Go.by (T' := T136) (f' := (mkF m 300 LL132 [(.ref b123)])) (fun _ k => XS.aload X136.here hx rfl (hb hby at_298) rfl rfl k) ?_
          refine Go.by (T' := T136) (f' := (mkF m 302 LL132 [(.ref b120), (.ref b123)])) (fun _ k => XS.aload X136.here hx rfl (hb hby at_300) rfl rfl k) ?_
          obtain ⟨cq138, kq138, q138a, q138b, q138c⟩ := isOf hZ e136 E_b123
          obtain ⟨v138, _, ⟨T138, L138, k138, n138⟩, -, X138, ⟨Lc138, hQ138, l138, y138, z138⟩, st138⟩ := X136.virtualBack hx (y := (⟨"com/example/honest_replica/honestreplica/model/Endpoint", "equals", "(Ljava/lang/Object;)Z"⟩ : MethodName)) (z := (⟨"com/example/honest_replica/honestreplica/model/Endpoint", "equals", "(Ljava/lang/Object;)Z"⟩ : MethodName)) hown (mvT hZ (hw _ (List.mem_of_getElem? (i := 52) rfl))) (mvT hZ (hw _ (List.mem_of_getElem? (i := 53) rfl))) (notFace_of_selects (args := #[]) (mvT hZ (hw _ (List.mem_of_getElem? (i := 55) rfl)))) (mvT hZ (hw _ (List.mem_of_getElem? (i := 55) rfl))) (mvT hZ (hw _ (List.mem_of_getElem? (i := 54) rfl))) (by decide) (backOf (W := 0) (rm_q l Z a0 hw [] b123 b120 b124 b117 p2 (z4 &&& (65535 : Int32)) t125 kb125 (2 : Int32) ((([c8, c10] : List Int32).map (fun c => c.toInt8.toInt32)).map Value.int) ([c8, c10] : List Int32) t118 kb118 (1 : Int32) ((([c4] : List Int32).map (fun c => c.toInt8.toInt32)).map Value.int) ([c4] : List Int32) wc cl zc hS T126.heap n0 O E_b123 E_b120 Gh126 Gp126 Gh121 Gp121 E_b124 Gv125 Gc125 Vt125 hcd125 (own_up _ hp125) (Nat.le_of_ble_eq_true rfl) E_b117 Gv118 Gc118 Vt118 hcd118 (own_up _ hp118) (Nat.le_of_ble_eq_true rfl)) hZ (hw _ (List.mem_of_getElem? (i := 56) rfl)) (hw _ (List.mem_of_getElem? (i := 37) rfl)) (by decide) (by decide)) q138a q138c (g := (mkF m 302 LL132 [(.ref b120), (.ref b123)])) rfl (by rw [hml]; rfl) (Steps.refl _) (argsL := [(.ref b120)]) (rest := []) (lenOf pd_rm1_3 rfl) rfl (by show 2 * 0 + _ ≤ _; exact Nat.le_of_eq rfl) (hb hby at_302) (fun _ _ => ⟨rfl, e136, (by decide : 8 + 0 ≤ _), (by decide : 18 + 0 ≤ _)⟩)
          dsimp only [Pt.U, Pt.locs, Pt.cells, Pt.slots] at X138 l138 y138 z138 st138 hQ138
          subst l138 y138 z138
          obtain ⟨hv138, Nq138, e138⟩ := hQ138
          have hz138 : eqs ([c8, c10] : List Int32) p2 ([c4] : List Int32) (z4 &&& (65535 : Int32)) = 0 := by simp [eqs]
          rw [hz138] at hv138
          subst hv138
          replace N := Fr.app N Nq138
          refine Go.by (T' := T138) (f' := (mkF m 305 LL132 [(.int (0 : Int32))])) (fun _ k => st138.trans k) ?_
          refine Go.by (T' := T138) (f' := (mkF m 307 LL132 [(.int (0 : Int32)), (.int (0 : Int32))])) (fun _ k => XS.iload X138.here hx rfl (hb hby at_305) rfl k) ?_
          refine Go.by (T' := T138) (f' := (mkF m 310 LL132 [])) (fun _ k => XS.icmpNo X138.here hx rfl (hb hby at_307) rfl (teq (by decide : (0 : Int32) = (0 : Int32))).2 k) ?_
          refine Go.by (T' := T138) (f' := (mkF m 311 LL132 [(.int (1 : Int32))])) (fun _ k => XS.iconst X138.here hx rfl (hb hby at_310) k) ?_
          refine Go.by (T' := T138) (f' := (mkF m 315 LL132 [(.int (1 : Int32))])) (fun _ k => XS.goto X138.here hx rfl (pc0 := 311) (pc' := 315) rfl (hb hby at_311) (by decide) (by decide) k) ?_
          obtain ⟨fs, hr, hrun, hended, hW, hsame⟩ := X138.leave (v := some (.int (1 : Int32))) (fun h => by rw [Bd.returns] at h; cases h)
          refine ⟨_, _, retN X138 hx (t := .boolean) Bd.returns (by simp) (hb hby at_315) hr, hrun, hended, _, _, rfl, ?_, ⟨_, rfl⟩, hW, hsame.mono (by decide) (by decide)⟩
          show Q1 n0 (some (.int (1 : Int32))) T138.heap _
          rw [e138]
          exact ⟨rfl, N⟩
        · skip
          refine Go.by (T' := T133) (f' := (mkF m 316 LL132 [])) (fun _ k => XS.ifYes X133.here hx rfl (pc0 := 283) (pc' := 316) rfl (hb hby at_283) rfl ((if0 _ _).trans (feq hc283_135).2) (by decide) (by decide) k) ?_
          refine Go.by (T' := T133) (f' := (mkF m 318 LL132 [(.int (((z0.toUInt32 >>> ((1 : Int32) &&& 31).toUInt32).toInt32) &&& (3 : Int32)))])) (fun _ k => XS.iload X133.here hx rfl (hb hby at_316) rfl k) ?_
          refine Go.by (T' := T133) (f' := (mkF m 319 LL132 [(.int (1 : Int32)), (.int (((z0.toUInt32 >>> ((1 : Int32) &&& 31).toUInt32).toInt32) &&& (3 : Int32)))])) (fun _ k => XS.iconst X133.here hx rfl (hb hby at_318) k) ?_
          by_cases hc319_140 : (((z0.toUInt32 >>> ((1 : Int32) &&& 31).toUInt32).toInt32) &&& (3 : Int32)) = (1 : Int32)
          · skip
            refine Go.by (T' := T133) (f' := (mkF m 322 LL132 [])) (fun _ k => XS.icmpNo X133.here hx rfl (hb hby at_319) rfl (teq hc319_140).2 k) ?_
            refine Go.by (T' := T133) (f' := (mkF m 323 LL132 [.null])) (fun _ k => XS.aconstNull X133.here hx rfl (hb hby at_322) k) ?_
            let LL141 : Array Slot := #[.val (.int z0), .val (.int z1), .val (.int z2), .val (.int z3), .val (.int z4), .val (.int z5), .val (.int ((1 : Int32) + (z0 &&& (1 : Int32)))), .val (.int ((1 : Int32) + (z1 &&& (1 : Int32)))), .val (.int c4), .val (.int c6), .val (.int c8), .val (.int c10), .val (.ref b13), .val (.ref b110), .val (.int (z4 &&& (65535 : Int32))), .val (.int (z5 &&& (3 : Int32))), .val (.int p2), .val (.ref b117), .val (.ref b120), .val (.ref b123), .val (.int (0 : Int32)), .val (.int (0 : Int32)), .val (.int (((z0.toUInt32 >>> ((1 : Int32) &&& 31).toUInt32).toInt32) &&& (3 : Int32))), .val .null]
            refine Go.by (T' := T133) (f' := (mkF m 325 LL141 [])) (fun _ k => XS.astore X133.here hx rfl (hb hby at_323) rfl rfl (l' := LL141) rfl k) ?_
            refine Go.by (T' := T133) (f' := (mkF m 348 LL141 [])) (fun _ k => XS.goto X133.here hx rfl (pc0 := 325) (pc' := 348) rfl (hb hby at_325) (by decide) (by decide) k) ?_
            refine Go.by (T' := T133) (f' := (mkF m 350 LL141 [(.ref b120)])) (fun _ k => XS.aload X133.here hx rfl (hb hby at_348) rfl rfl k) ?_
            refine Go.by (T' := T133) (f' := (mkF m 352 LL141 [.null, (.ref b120)])) (fun _ k => XS.aload X133.here hx rfl (hb hby at_350) rfl rfl k) ?_
            obtain ⟨cq142, kq142, q142a, q142b, q142c⟩ := isOf hZ e133 E_b120
            obtain ⟨v142, _, ⟨T142, L142, k142, n142⟩, -, X142, ⟨Lc142, hQ142, l142, y142, z142⟩, st142⟩ := X133.virtualBack hx (y := (⟨"com/example/honest_replica/honestreplica/model/Endpoint", "equals", "(Ljava/lang/Object;)Z"⟩ : MethodName)) (z := (⟨"com/example/honest_replica/honestreplica/model/Endpoint", "equals", "(Ljava/lang/Object;)Z"⟩ : MethodName)) hown (mvT hZ (hw _ (List.mem_of_getElem? (i := 52) rfl))) (mvT hZ (hw _ (List.mem_of_getElem? (i := 53) rfl))) (notFace_of_selects (args := #[]) (mvT hZ (hw _ (List.mem_of_getElem? (i := 55) rfl)))) (mvT hZ (hw _ (List.mem_of_getElem? (i := 55) rfl))) (mvT hZ (hw _ (List.mem_of_getElem? (i := 54) rfl))) (by decide) (backOf (W := 0) (rm_qn l Z a0 hw [] b120 T126.heap n0 O) hZ (hw _ (List.mem_of_getElem? (i := 56) rfl)) (hw _ (List.mem_of_getElem? (i := 37) rfl)) (by decide) (by decide)) q142a q142c (g := (mkF m 352 LL141 [.null, (.ref b120)])) rfl (by rw [hml]; rfl) (Steps.refl _) (argsL := [.null]) (rest := []) (lenOf pd_rm1_3 rfl) rfl (by show 2 * 0 + _ ≤ _; exact Nat.le_of_eq rfl) (hb hby at_352) (fun _ _ => ⟨rfl, e133, (by decide : 8 + 0 ≤ _), (by decide : 18 + 0 ≤ _)⟩)
            dsimp only [Pt.U, Pt.locs, Pt.cells, Pt.slots] at X142 l142 y142 z142 st142 hQ142
            subst l142 y142 z142
            obtain ⟨rfl, Nq142, e142⟩ := hQ142
            replace N := Fr.app N Nq142
            refine Go.by (T' := T142) (f' := (mkF m 355 LL141 [(.int (0 : Int32))])) (fun _ k => st142.trans k) ?_
            refine Go.by (T' := T142) (f' := (mkF m 358 LL141 [])) (fun _ k => XS.ifNo X142.here hx rfl (hb hby at_355) rfl ((if0 _ _).trans (teq (by decide : (0 : Int32) = (0 : Int32))).2) k) ?_
            refine Go.by (T' := T142) (f' := (mkF m 359 LL141 [(.int (1 : Int32))])) (fun _ k => XS.iconst X142.here hx rfl (hb hby at_358) k) ?_
            refine Go.by (T' := T142) (f' := (mkF m 363 LL141 [(.int (1 : Int32))])) (fun _ k => XS.goto X142.here hx rfl (pc0 := 359) (pc' := 363) rfl (hb hby at_359) (by decide) (by decide) k) ?_
            obtain ⟨fs, hr, hrun, hended, hW, hsame⟩ := X142.leave (v := some (.int (1 : Int32))) (fun h => by rw [Bd.returns] at h; cases h)
            refine ⟨_, _, retN X142 hx (t := .boolean) Bd.returns (by simp) (hb hby at_363) hr, hrun, hended, _, _, rfl, ?_, ⟨_, rfl⟩, hW, hsame.mono (by decide) (by decide)⟩
            show Q1 n0 (some (.int (1 : Int32))) T142.heap _
            rw [e142]
            exact ⟨rfl, N⟩
          · skip
            refine Go.by (T' := T133) (f' := (mkF m 328 LL132 [])) (fun _ k => XS.icmpYes X133.here hx rfl (pc0 := 319) (pc' := 328) rfl (hb hby at_319) rfl (feq hc319_140).2 (by decide) (by decide) k) ?_
            refine Go.by (T' := T133) (f' := (mkF m 330 LL132 [(.int (((z0.toUInt32 >>> ((1 : Int32) &&& 31).toUInt32).toInt32) &&& (3 : Int32)))])) (fun _ k => XS.iload X133.here hx rfl (hb hby at_328) rfl k) ?_
            refine Go.by (T' := T133) (f' := (mkF m 331 LL132 [(.int (2 : Int32)), (.int (((z0.toUInt32 >>> ((1 : Int32) &&& 31).toUInt32).toInt32) &&& (3 : Int32)))])) (fun _ k => XS.iconst X133.here hx rfl (hb hby at_330) k) ?_
            by_cases hc331_144 : (((z0.toUInt32 >>> ((1 : Int32) &&& 31).toUInt32).toInt32) &&& (3 : Int32)) = (2 : Int32)
            · skip
              refine Go.by (T' := T133) (f' := (mkF m 334 LL132 [])) (fun _ k => XS.icmpNo X133.here hx rfl (hb hby at_331) rfl (teq hc331_144).2 k) ?_
              refine Go.by (T' := T133) (f' := (mkF m 336 LL132 [(.ref b117)])) (fun _ k => XS.aload X133.here hx rfl (hb hby at_334) rfl rfl k) ?_
              let LL145 : Array Slot := #[.val (.int z0), .val (.int z1), .val (.int z2), .val (.int z3), .val (.int z4), .val (.int z5), .val (.int ((1 : Int32) + (z0 &&& (1 : Int32)))), .val (.int ((1 : Int32) + (z1 &&& (1 : Int32)))), .val (.int c4), .val (.int c6), .val (.int c8), .val (.int c10), .val (.ref b13), .val (.ref b110), .val (.int (z4 &&& (65535 : Int32))), .val (.int (z5 &&& (3 : Int32))), .val (.int p2), .val (.ref b117), .val (.ref b120), .val (.ref b123), .val (.int (0 : Int32)), .val (.int (0 : Int32)), .val (.int (((z0.toUInt32 >>> ((1 : Int32) &&& 31).toUInt32).toInt32) &&& (3 : Int32))), .val (.ref b117)]
              refine Go.by (T' := T133) (f' := (mkF m 338 LL145 [])) (fun _ k => XS.astore X133.here hx rfl (hb hby at_336) rfl rfl (l' := LL145) rfl k) ?_
              refine Go.by (T' := T133) (f' := (mkF m 348 LL145 [])) (fun _ k => XS.goto X133.here hx rfl (pc0 := 338) (pc' := 348) rfl (hb hby at_338) (by decide) (by decide) k) ?_
              refine Go.by (T' := T133) (f' := (mkF m 350 LL145 [(.ref b120)])) (fun _ k => XS.aload X133.here hx rfl (hb hby at_348) rfl rfl k) ?_
              refine Go.by (T' := T133) (f' := (mkF m 352 LL145 [(.ref b117), (.ref b120)])) (fun _ k => XS.aload X133.here hx rfl (hb hby at_350) rfl rfl k) ?_
              obtain ⟨cq146, kq146, q146a, q146b, q146c⟩ := isOf hZ e133 E_b120
              obtain ⟨v146, _, ⟨T146, L146, k146, n146⟩, -, X146, ⟨Lc146, hQ146, l146, y146, z146⟩, st146⟩ := X133.virtualBack hx (y := (⟨"com/example/honest_replica/honestreplica/model/Endpoint", "equals", "(Ljava/lang/Object;)Z"⟩ : MethodName)) (z := (⟨"com/example/honest_replica/honestreplica/model/Endpoint", "equals", "(Ljava/lang/Object;)Z"⟩ : MethodName)) hown (mvT hZ (hw _ (List.mem_of_getElem? (i := 52) rfl))) (mvT hZ (hw _ (List.mem_of_getElem? (i := 53) rfl))) (notFace_of_selects (args := #[]) (mvT hZ (hw _ (List.mem_of_getElem? (i := 55) rfl)))) (mvT hZ (hw _ (List.mem_of_getElem? (i := 55) rfl))) (mvT hZ (hw _ (List.mem_of_getElem? (i := 54) rfl))) (by decide) (backOf (W := 0) (rm_qs l Z a0 hw [] b120 b117 T126.heap n0 O E_b117) hZ (hw _ (List.mem_of_getElem? (i := 56) rfl)) (hw _ (List.mem_of_getElem? (i := 37) rfl)) (by decide) (by decide)) q146a q146c (g := (mkF m 352 LL145 [(.ref b117), (.ref b120)])) rfl (by rw [hml]; rfl) (Steps.refl _) (argsL := [(.ref b117)]) (rest := []) (lenOf pd_rm1_3 rfl) rfl (by show 2 * 0 + _ ≤ _; exact Nat.le_of_eq rfl) (hb hby at_352) (fun _ _ => ⟨rfl, e133, (by decide : 8 + 0 ≤ _), (by decide : 18 + 0 ≤ _)⟩)
              dsimp only [Pt.U, Pt.locs, Pt.cells, Pt.slots] at X146 l146 y146 z146 st146 hQ146
              subst l146 y146 z146
              obtain ⟨rfl, Nq146, e146⟩ := hQ146
              replace N := Fr.app N Nq146
              refine Go.by (T' := T146) (f' := (mkF m 355 LL145 [(.int (0 : Int32))])) (fun _ k => st146.trans k) ?_
              refine Go.by (T' := T146) (f' := (mkF m 358 LL145 [])) (fun _ k => XS.ifNo X146.here hx rfl (hb hby at_355) rfl ((if0 _ _).trans (teq (by decide : (0 : Int32) = (0 : Int32))).2) k) ?_
              refine Go.by (T' := T146) (f' := (mkF m 359 LL145 [(.int (1 : Int32))])) (fun _ k => XS.iconst X146.here hx rfl (hb hby at_358) k) ?_
              refine Go.by (T' := T146) (f' := (mkF m 363 LL145 [(.int (1 : Int32))])) (fun _ k => XS.goto X146.here hx rfl (pc0 := 359) (pc' := 363) rfl (hb hby at_359) (by decide) (by decide) k) ?_
              obtain ⟨fs, hr, hrun, hended, hW, hsame⟩ := X146.leave (v := some (.int (1 : Int32))) (fun h => by rw [Bd.returns] at h; cases h)
              refine ⟨_, _, retN X146 hx (t := .boolean) Bd.returns (by simp) (hb hby at_363) hr, hrun, hended, _, _, rfl, ?_, ⟨_, rfl⟩, hW, hsame.mono (by decide) (by decide)⟩
              show Q1 n0 (some (.int (1 : Int32))) T146.heap _
              rw [e146]
              exact ⟨rfl, N⟩
            · skip
              refine Go.by (T' := T133) (f' := (mkF m 341 LL132 [])) (fun _ k => XS.icmpYes X133.here hx rfl (pc0 := 331) (pc' := 341) rfl (hb hby at_331) rfl (feq hc331_144).2 (by decide) (by decide) k) ?_
              refine Go.by (T' := T133) (f' := (mkF m 343 LL132 [(.int (z4 &&& (65535 : Int32)))])) (fun _ k => XS.iload X133.here hx rfl (hb hby at_341) rfl k) ?_
              obtain ⟨v148, _, ⟨T148, L148, k148, n148⟩, -, X148, ⟨Lc148, hQ148, l148, y148, z148⟩, st148⟩ := Jvm.LawKit.callS X133 hx (y := (⟨"java/lang/Integer", "valueOf", "(I)Ljava/lang/Integer;"⟩ : MethodName)) hown (mvT hZ (hw _ (List.mem_of_getElem? (i := 71) rfl))) (mvT hZ (hw _ (List.mem_of_getElem? (i := 72) rfl))) (mvT hZ (hw _ (List.mem_of_getElem? (i := 73) rfl))) (mvT hZ (hw _ (List.mem_of_getElem? (i := 74) rfl))) (by decide) (backOf (W := 0) (rm_vo l Z a0 hw [] (z4 &&& (65535 : Int32)) wc cl zc hS T126.heap n0 O) hZ (hw _ (List.mem_of_getElem? (i := 74) rfl)) (hw _ (List.mem_of_getElem? (i := 73) rfl)) (by decide) (by decide)) (g := (mkF m 343 LL132 [(.int (z4 &&& (65535 : Int32)))])) rfl (by rw [hml]; rfl) (argsL := [(.int (z4 &&& (65535 : Int32)))]) (rest := []) (lenOf pd_rm1_4 rfl) rfl (by show 2 * 0 + _ ≤ _; exact Nat.le_of_eq rfl) (hb hby at_343) (fun _ _ => ⟨rfl, e133, (by decide : 8 + 1 ≤ _), (by decide : 18 + 1 ≤ _)⟩)
              dsimp only [Pt.U, Pt.locs, Pt.cells, Pt.slots] at X148 l148 y148 z148 st148 hQ148
              subst l148 y148 z148
              obtain ⟨bx148, rfl, Nq148, K148, E_bx148⟩ := hQ148
              replace N := Fr.app N Nq148
              replace V_b13 := V_b13.keep K148 nin0
              replace V_b110 := V_b110.keep K148 nin0
              replace E_b117 := E_b117.keep K148
              replace Gc118 := Gc118.keep K148 nin0
              replace Gv118 := Gv118.keep K148 nin0
              replace Vt118 := Vt118.keep K148 nin0
              replace E_b120 := E_b120.keep K148
              replace Gh121 := Gh121.keep K148 nin0
              replace Gp121 := Gp121.keep K148 nin0
              replace E_b123 := E_b123.keep K148
              replace E_b124 := E_b124.keep K148
              replace Gc125 := Gc125.keep K148 nin0
              replace Gv125 := Gv125.keep K148 nin0
              replace Vt125 := Vt125.keep K148 nin0
              replace Gh126 := Gh126.keep K148 nin0
              replace Gp126 := Gp126.keep K148 nin0
              replace O := O.keep K148 all0
              replace K := K.trans K148 all0
              refine Go.by (T' := T148) (f' := (mkF m 346 LL132 [(.ref bx148)])) (st148) ?_
              let LL149 : Array Slot := #[.val (.int z0), .val (.int z1), .val (.int z2), .val (.int z3), .val (.int z4), .val (.int z5), .val (.int ((1 : Int32) + (z0 &&& (1 : Int32)))), .val (.int ((1 : Int32) + (z1 &&& (1 : Int32)))), .val (.int c4), .val (.int c6), .val (.int c8), .val (.int c10), .val (.ref b13), .val (.ref b110), .val (.int (z4 &&& (65535 : Int32))), .val (.int (z5 &&& (3 : Int32))), .val (.int p2), .val (.ref b117), .val (.ref b120), .val (.ref b123), .val (.int (0 : Int32)), .val (.int (0 : Int32)), .val (.int (((z0.toUInt32 >>> ((1 : Int32) &&& 31).toUInt32).toInt32) &&& (3 : Int32))), .val (.ref bx148)]
              refine Go.by (T' := T148) (f' := (mkF m 348 LL149 [])) (fun _ k => XS.astore X148.here hx rfl (hb hby at_346) rfl rfl (l' := LL149) rfl k) ?_
              refine Go.by (T' := T148) (f' := (mkF m 350 LL149 [(.ref b120)])) (fun _ k => XS.aload X148.here hx rfl (hb hby at_348) rfl rfl k) ?_
              refine Go.by (T' := T148) (f' := (mkF m 352 LL149 [(.ref bx148), (.ref b120)])) (fun _ k => XS.aload X148.here hx rfl (hb hby at_350) rfl rfl k) ?_
              obtain ⟨cq150, kq150, q150a, q150b, q150c⟩ := isOf hZ rfl E_b120
              obtain ⟨v150, _, ⟨T150, L150, k150, n150⟩, -, X150, ⟨Lc150, hQ150, l150, y150, z150⟩, st150⟩ := X148.virtualBack hx (y := (⟨"com/example/honest_replica/honestreplica/model/Endpoint", "equals", "(Ljava/lang/Object;)Z"⟩ : MethodName)) (z := (⟨"com/example/honest_replica/honestreplica/model/Endpoint", "equals", "(Ljava/lang/Object;)Z"⟩ : MethodName)) hown (mvT hZ (hw _ (List.mem_of_getElem? (i := 52) rfl))) (mvT hZ (hw _ (List.mem_of_getElem? (i := 53) rfl))) (notFace_of_selects (args := #[]) (mvT hZ (hw _ (List.mem_of_getElem? (i := 55) rfl)))) (mvT hZ (hw _ (List.mem_of_getElem? (i := 55) rfl))) (mvT hZ (hw _ (List.mem_of_getElem? (i := 54) rfl))) (by decide) (backOf (W := 0) (rm_qi l Z a0 hw [] b120 bx148 T148.heap n0 O E_bx148) hZ (hw _ (List.mem_of_getElem? (i := 56) rfl)) (hw _ (List.mem_of_getElem? (i := 37) rfl)) (by decide) (by decide)) q150a q150c (g := (mkF m 352 LL149 [(.ref bx148), (.ref b120)])) rfl (by rw [hml]; rfl) (Steps.refl _) (argsL := [(.ref bx148)]) (rest := []) (lenOf pd_rm1_3 rfl) rfl (by show 2 * 0 + _ ≤ _; exact Nat.le_of_eq rfl) (hb hby at_352) (fun _ _ => ⟨rfl, rfl, (by decide : 9 + 0 ≤ _), (by decide : 19 + 0 ≤ _)⟩)
              dsimp only [Pt.U, Pt.locs, Pt.cells, Pt.slots] at X150 l150 y150 z150 st150 hQ150
              subst l150 y150 z150
              obtain ⟨rfl, Nq150, e150⟩ := hQ150
              replace N := Fr.app N Nq150
              refine Go.by (T' := T150) (f' := (mkF m 355 LL149 [(.int (0 : Int32))])) (fun _ k => st150.trans k) ?_
              refine Go.by (T' := T150) (f' := (mkF m 358 LL149 [])) (fun _ k => XS.ifNo X150.here hx rfl (hb hby at_355) rfl ((if0 _ _).trans (teq (by decide : (0 : Int32) = (0 : Int32))).2) k) ?_
              refine Go.by (T' := T150) (f' := (mkF m 359 LL149 [(.int (1 : Int32))])) (fun _ k => XS.iconst X150.here hx rfl (hb hby at_358) k) ?_
              refine Go.by (T' := T150) (f' := (mkF m 363 LL149 [(.int (1 : Int32))])) (fun _ k => XS.goto X150.here hx rfl (pc0 := 359) (pc' := 363) rfl (hb hby at_359) (by decide) (by decide) k) ?_
              obtain ⟨fs, hr, hrun, hended, hW, hsame⟩ := X150.leave (v := some (.int (1 : Int32))) (fun h => by rw [Bd.returns] at h; cases h)
              refine ⟨_, _, retN X150 hx (t := .boolean) Bd.returns (by simp) (hb hby at_363) hr, hrun, hended, _, _, rfl, ?_, ⟨_, rfl⟩, hW, hsame.mono (by decide) (by decide)⟩
              show Q1 n0 (some (.int (1 : Int32))) T150.heap _
              rw [e150]
              exact ⟨rfl, N⟩
      refine Go.by (T' := T112) (f' := (mkF m 123 LL115 [(.int (z5 &&& (3 : Int32)))])) (fun _ k => XS.iload X112.here hx rfl (hb hby at_121) rfl k) ?_
      by_cases hc123_152 : (z5 &&& (3 : Int32)) = (0 : Int32)
      · skip
        refine Go.by (T' := T112) (f' := (mkF m 126 LL115 [])) (fun _ k => XS.ifNo X112.here hx rfl (hb hby at_123) rfl ((if0 _ _).trans (teq hc123_152).2) k) ?_
        refine Go.by (T' := T112) (f' := (mkF m 128 LL115 [(.int (z4 &&& (65535 : Int32)))])) (fun _ k => XS.iload X112.here hx rfl (hb hby at_126) rfl k) ?_
        let LL153 : Array Slot := #[.val (.int z0), .val (.int z1), .val (.int z2), .val (.int z3), .val (.int z4), .val (.int z5), .val (.int ((1 : Int32) + (z0 &&& (1 : Int32)))), .val (.int ((1 : Int32) + (z1 &&& (1 : Int32)))), .val (.int c4), .val (.int c6), .val (.int c8), .val (.int c10), .val (.ref b13), .val (.ref b110), .val (.int (z4 &&& (65535 : Int32))), .val (.int (z5 &&& (3 : Int32))), .val (.int (z4 &&& (65535 : Int32))), .unset, .unset, .unset, .unset, .unset, .unset, .unset]
        refine Go.by (T' := T112) (f' := (mkF m 130 LL153 [])) (fun _ k => XS.istore X112.here hx rfl (hb hby at_128) rfl (l' := LL153) rfl k) ?_
        refine Go.by (T' := T112) (f' := (mkF m 165 LL153 [])) (fun _ k => XS.goto X112.here hx rfl (pc0 := 130) (pc' := 165) rfl (hb hby at_130) (by decide) (by decide) k) ?_
        exact key _ (own_p16 _)
      · skip
        refine Go.by (T' := T112) (f' := (mkF m 133 LL115 [])) (fun _ k => XS.ifYes X112.here hx rfl (pc0 := 123) (pc' := 133) rfl (hb hby at_123) rfl ((if0 _ _).trans (feq hc123_152).2) (by decide) (by decide) k) ?_
        refine Go.by (T' := T112) (f' := (mkF m 135 LL115 [(.int (z5 &&& (3 : Int32)))])) (fun _ k => XS.iload X112.here hx rfl (hb hby at_133) rfl k) ?_
        refine Go.by (T' := T112) (f' := (mkF m 136 LL115 [(.int (1 : Int32)), (.int (z5 &&& (3 : Int32)))])) (fun _ k => XS.iconst X112.here hx rfl (hb hby at_135) k) ?_
        by_cases hc136_154 : (z5 &&& (3 : Int32)) = (1 : Int32)
        · skip
          refine Go.by (T' := T112) (f' := (mkF m 139 LL115 [])) (fun _ k => XS.icmpNo X112.here hx rfl (hb hby at_136) rfl (teq hc136_154).2 k) ?_
          refine Go.by (T' := T112) (f' := (mkF m 141 LL115 [(.int (z4 &&& (65535 : Int32)))])) (fun _ k => XS.iload X112.here hx rfl (hb hby at_139) rfl k) ?_
          refine Go.by (T' := T112) (f' := (mkF m 142 LL115 [(.int (1 : Int32)), (.int (z4 &&& (65535 : Int32)))])) (fun _ k => XS.iconst X112.here hx rfl (hb hby at_141) k) ?_
          refine Go.by (T' := T112) (f' := (mkF m 144 LL115 [(.int z5), (.int (1 : Int32)), (.int (z4 &&& (65535 : Int32)))])) (fun _ k => XS.iload X112.here hx rfl (hb hby at_142) rfl k) ?_
          refine Go.by (T' := T112) (f' := (mkF m 145 LL115 [(.int (2 : Int32)), (.int z5), (.int (1 : Int32)), (.int (z4 &&& (65535 : Int32)))])) (fun _ k => XS.iconst X112.here hx rfl (hb hby at_144) k) ?_
          refine Go.by (T' := T112) (f' := (mkF m 146 LL115 [(.int ((z5.toUInt32 >>> ((2 : Int32) &&& 31).toUInt32).toInt32)), (.int (1 : Int32)), (.int (z4 &&& (65535 : Int32)))])) (fun _ k => XS.iushr X112.here hx rfl (hb hby at_145) rfl k) ?_
          refine Go.by (T' := T112) (f' := (mkF m 148 LL115 [(.int (15 : Int32)), (.int ((z5.toUInt32 >>> ((2 : Int32) &&& 31).toUInt32).toInt32)), (.int (1 : Int32)), (.int (z4 &&& (65535 : Int32)))])) (fun _ k => XS.bipush X112.here hx rfl (hb hby at_146) k) ?_
          refine Go.by (T' := T112) (f' := (mkF m 149 LL115 [(.int (((z5.toUInt32 >>> ((2 : Int32) &&& 31).toUInt32).toInt32) &&& (15 : Int32))), (.int (1 : Int32)), (.int (z4 &&& (65535 : Int32)))])) (fun _ k => XS.iand X112.here hx rfl (hb hby at_148) rfl k) ?_
          refine Go.by (T' := T112) (f' := (mkF m 150 LL115 [(.int ((1 : Int32) <<< ((((z5.toUInt32 >>> ((2 : Int32) &&& 31).toUInt32).toInt32) &&& (15 : Int32)) &&& 31))), (.int (z4 &&& (65535 : Int32)))])) (fun _ k => XS.ishl X112.here hx rfl (hb hby at_149) rfl k) ?_
          refine Go.by (T' := T112) (f' := (mkF m 151 LL115 [(.int ((z4 &&& (65535 : Int32)) ^^^ ((1 : Int32) <<< ((((z5.toUInt32 >>> ((2 : Int32) &&& 31).toUInt32).toInt32) &&& (15 : Int32)) &&& 31))))])) (fun _ k => XS.ixor X112.here hx rfl (hb hby at_150) rfl k) ?_
          let LL155 : Array Slot := #[.val (.int z0), .val (.int z1), .val (.int z2), .val (.int z3), .val (.int z4), .val (.int z5), .val (.int ((1 : Int32) + (z0 &&& (1 : Int32)))), .val (.int ((1 : Int32) + (z1 &&& (1 : Int32)))), .val (.int c4), .val (.int c6), .val (.int c8), .val (.int c10), .val (.ref b13), .val (.ref b110), .val (.int (z4 &&& (65535 : Int32))), .val (.int (z5 &&& (3 : Int32))), .val (.int ((z4 &&& (65535 : Int32)) ^^^ ((1 : Int32) <<< ((((z5.toUInt32 >>> ((2 : Int32) &&& 31).toUInt32).toInt32) &&& (15 : Int32)) &&& 31)))), .unset, .unset, .unset, .unset, .unset, .unset, .unset]
          refine Go.by (T' := T112) (f' := (mkF m 153 LL155 [])) (fun _ k => XS.istore X112.here hx rfl (hb hby at_151) rfl (l' := LL155) rfl k) ?_
          refine Go.by (T' := T112) (f' := (mkF m 165 LL155 [])) (fun _ k => XS.goto X112.here hx rfl (pc0 := 153) (pc' := 165) rfl (hb hby at_153) (by decide) (by decide) k) ?_
          exact key _ (own_x16 _ _)
        · skip
          refine Go.by (T' := T112) (f' := (mkF m 156 LL115 [])) (fun _ k => XS.icmpYes X112.here hx rfl (pc0 := 136) (pc' := 156) rfl (hb hby at_136) rfl (feq hc136_154).2 (by decide) (by decide) k) ?_
          refine Go.by (T' := T112) (f' := (mkF m 158 LL115 [(.int z5)])) (fun _ k => XS.iload X112.here hx rfl (hb hby at_156) rfl k) ?_
          refine Go.by (T' := T112) (f' := (mkF m 159 LL115 [(.int (2 : Int32)), (.int z5)])) (fun _ k => XS.iconst X112.here hx rfl (hb hby at_158) k) ?_
          refine Go.by (T' := T112) (f' := (mkF m 160 LL115 [(.int ((z5.toUInt32 >>> ((2 : Int32) &&& 31).toUInt32).toInt32))])) (fun _ k => XS.iushr X112.here hx rfl (hb hby at_159) rfl k) ?_
          refine Go.by (T' := T112) (f' := (mkF m 162 LL115 [(.int (65535 : Int32)), (.int ((z5.toUInt32 >>> ((2 : Int32) &&& 31).toUInt32).toInt32))])) (X112.ldcInt hx hown (mvT hZ (hw _ (List.mem_of_getElem? (i := 5) rfl))) (g := (mkF m 160 LL115 [(.int ((z5.toUInt32 >>> ((2 : Int32) &&& 31).toUInt32).toInt32))])) rfl (hb hby at_160)) ?_
          refine Go.by (T' := T112) (f' := (mkF m 163 LL115 [(.int (((z5.toUInt32 >>> ((2 : Int32) &&& 31).toUInt32).toInt32) &&& (65535 : Int32)))])) (fun _ k => XS.iand X112.here hx rfl (hb hby at_162) rfl k) ?_
          let LL156 : Array Slot := #[.val (.int z0), .val (.int z1), .val (.int z2), .val (.int z3), .val (.int z4), .val (.int z5), .val (.int ((1 : Int32) + (z0 &&& (1 : Int32)))), .val (.int ((1 : Int32) + (z1 &&& (1 : Int32)))), .val (.int c4), .val (.int c6), .val (.int c8), .val (.int c10), .val (.ref b13), .val (.ref b110), .val (.int (z4 &&& (65535 : Int32))), .val (.int (z5 &&& (3 : Int32))), .val (.int (((z5.toUInt32 >>> ((2 : Int32) &&& 31).toUInt32).toInt32) &&& (65535 : Int32))), .unset, .unset, .unset, .unset, .unset, .unset, .unset]
          refine Go.by (T' := T112) (f' := (mkF m 165 LL156 [])) (fun _ k => XS.istore X112.here hx rfl (hb hby at_163) rfl (l' := LL156) rfl k) ?_
          exact key _ (own_p16 _)
  · skip
    refine Go.by (T' := T10) (f' := (mkF m 61 LL11 [])) (fun _ k => XS.icmpYes X10.here hx rfl (pc0 := 47) (pc' := 61) rfl (hb hby at_47) rfl (feq hc47_12).2 (by decide) (by decide) k) ?_
    refine Go.by (T' := T10) (f' := (mkF m 62 LL11 [(.int (2 : Int32))])) (fun _ k => XS.iconst X10.here hx rfl (hb hby at_61) k) ?_
    obtain ⟨T157, h157, k157, X157, e157, E157, A157, st157⟩ := newP X10 hx hZ (hw _ (List.mem_of_getElem? (i := 4) rfl)) e10 (g := (mkF m 62 LL11 [(.int (2 : Int32))])) rfl (hb hby at_62) rfl (by decide) (cap := 2) (by decide) (by decide) (by decide) (by decide)
    obtain ⟨b157, g157⟩ : ∃ z, z = h0.size := ⟨_, rfl⟩
    rw [← g157] at A157 st157
    have g_b157 : n0 ≤ b157 := Nat.le_trans (Old.le O) (Nat.le_of_eq g157.symm)
    have sz_b157 : h0.size ≤ b157 := Nat.le_trans K.1 (Nat.le_of_eq g157.symm)
    replace O := O.ext E157
    replace K := K.ext E157
    have V_b157 : Arv Z h157 b157 k157 .char (2 : Int32) [(.int (0 : Int32)), (.int (0 : Int32))] (.int (0 : Int32)) := (Arv.new A157 (by decide)).pad (pad_rep [] (.int (0 : Int32)) 2)
    refine Go.by (T' := T157) (f' := (mkF m 64 LL11 [(.ref b157)])) (st157) ?_
    refine Go.by (T' := T157) (f' := (mkF m 65 LL11 [(.ref b157), (.ref b157)])) (fun _ k => XS.dup X157.here hx rfl (hb hby at_64) rfl rfl k) ?_
    refine Go.by (T' := T157) (f' := (mkF m 66 LL11 [(.int (0 : Int32)), (.ref b157), (.ref b157)])) (fun _ k => XS.iconst X157.here hx rfl (hb hby at_65) k) ?_
    refine Go.by (T' := T157) (f' := (mkF m 68 LL11 [(.int c4), (.int (0 : Int32)), (.ref b157), (.ref b157)])) (fun _ k => XS.iload X157.here hx rfl (hb hby at_66) rfl k) ?_
    obtain ⟨cl158, Ar158, q158, S158, N158', H158, G158⟩ := V_b157
    obtain ⟨T158, h158, X158, e158, W158, st158⟩ := stC X157 hx hZ e157 Ar158 (j := (0 : Int32)) (inb_of S158 ⟨by decide, by decide⟩) (g := (mkF m 68 LL11 [(.int c4), (.int (0 : Int32)), (.ref b157), (.ref b157)])) rfl rfl (hb hby at_68)
    replace V_b157 := Arv.set Ar158 q158 S158 N158' H158 G158 (fits_nar_char _) W158 0 rfl (Nat.le_of_ble_eq_true rfl)
    change Arv Z h158 b157 k157 .char (2 : Int32) [(.int (nar .char c4)), (.int (0 : Int32))] _ at V_b157
    rw [own_nar c4 hb4] at V_b157
    replace O := O.wr W158 g_b157
    replace K := K.wr W158 (Or.inr sz_b157)
    replace N := Fr.snoc X158 N g_b157
    refine Go.by (T' := T158) (f' := (mkF m 69 LL11 [(.ref b157)])) (st158) ?_
    refine Go.by (T' := T158) (f' := (mkF m 70 LL11 [(.ref b157), (.ref b157)])) (fun _ k => XS.dup X158.here hx rfl (hb hby at_69) rfl rfl k) ?_
    refine Go.by (T' := T158) (f' := (mkF m 71 LL11 [(.int (1 : Int32)), (.ref b157), (.ref b157)])) (fun _ k => XS.iconst X158.here hx rfl (hb hby at_70) k) ?_
    refine Go.by (T' := T158) (f' := (mkF m 73 LL11 [(.int c6), (.int (1 : Int32)), (.ref b157), (.ref b157)])) (fun _ k => XS.iload X158.here hx rfl (hb hby at_71) rfl k) ?_
    obtain ⟨cl159, Ar159, q159, S159, N159', H159, G159⟩ := V_b157
    obtain ⟨T159, h159, X159, e159, W159, st159⟩ := stC X158 hx hZ e158 Ar159 (j := (1 : Int32)) (inb_of S159 ⟨by decide, by decide⟩) (g := (mkF m 73 LL11 [(.int c6), (.int (1 : Int32)), (.ref b157), (.ref b157)])) rfl rfl (hb hby at_73)
    replace V_b157 := Arv.set Ar159 q159 S159 N159' H159 G159 (fits_nar_char _) W159 1 rfl (Nat.le_of_ble_eq_true rfl)
    change Arv Z h159 b157 k157 .char (2 : Int32) [(.int c4), (.int (nar .char c6))] _ at V_b157
    rw [own_nar c6 hb6] at V_b157
    replace O := O.wr W159 g_b157
    replace K := K.wr W159 (Or.inr sz_b157)
    replace N := Fr.snoc X159 N g_b157
    refine Go.by (T' := T159) (f' := (mkF m 74 LL11 [(.ref b157)])) (st159) ?_
    let LL160 : Array Slot := #[.val (.int z0), .val (.int z1), .val (.int z2), .val (.int z3), .val (.int z4), .val (.int z5), .val (.int ((1 : Int32) + (z0 &&& (1 : Int32)))), .val (.int ((1 : Int32) + (z1 &&& (1 : Int32)))), .val (.int c4), .val (.int c6), .val (.int c8), .val (.int c10), .val (.ref b157), .unset, .unset, .unset, .unset, .unset, .unset, .unset, .unset, .unset, .unset, .unset]
    refine Go.by (T' := T159) (f' := (mkF m 76 LL160 [])) (fun _ k => XS.astore X159.here hx rfl (hb hby at_74) rfl rfl (l' := LL160) rfl k) ?_
    refine Go.by (T' := T159) (f' := (mkF m 78 LL160 [(.int ((1 : Int32) + (z1 &&& (1 : Int32))))])) (fun _ k => XS.iload X159.here hx rfl (hb hby at_76) rfl k) ?_
    refine Go.by (T' := T159) (f' := (mkF m 79 LL160 [(.int (1 : Int32)), (.int ((1 : Int32) + (z1 &&& (1 : Int32))))])) (fun _ k => XS.iconst X159.here hx rfl (hb hby at_78) k) ?_
    by_cases hc79_161 : ((1 : Int32) + (z1 &&& (1 : Int32))) = (1 : Int32)
    · skip
      refine Go.by (T' := T159) (f' := (mkF m 82 LL160 [])) (fun _ k => XS.icmpNo X159.here hx rfl (hb hby at_79) rfl (teq hc79_161).2 k) ?_
      refine Go.by (T' := T159) (f' := (mkF m 83 LL160 [(.int (1 : Int32))])) (fun _ k => XS.iconst X159.here hx rfl (hb hby at_82) k) ?_
      obtain ⟨T162, h162, k162, X162, e162, E162, A162, st162⟩ := newP X159 hx hZ (hw _ (List.mem_of_getElem? (i := 4) rfl)) e159 (g := (mkF m 83 LL160 [(.int (1 : Int32))])) rfl (hb hby at_83) rfl (by decide) (cap := 1) (by decide) (by decide) (by decide) (by decide)
      obtain ⟨b162, g162⟩ : ∃ z, z = h159.size := ⟨_, rfl⟩
      rw [← g162] at A162 st162
      have ne_b157_b162 : b157 ≠ b162 := Nat.ne_of_lt (Nat.lt_of_lt_of_le V_b157.lt (Nat.le_of_eq g162.symm))
      have g_b162 : n0 ≤ b162 := Nat.le_trans (Old.le O) (Nat.le_of_eq g162.symm)
      have sz_b162 : h0.size ≤ b162 := Nat.le_trans K.1 (Nat.le_of_eq g162.symm)
      replace V_b157 := V_b157.ext E162
      replace O := O.ext E162
      replace K := K.ext E162
      have V_b162 : Arv Z h162 b162 k162 .char (1 : Int32) [(.int (0 : Int32))] (.int (0 : Int32)) := (Arv.new A162 (by decide)).pad (pad_rep [] (.int (0 : Int32)) 1)
      refine Go.by (T' := T162) (f' := (mkF m 85 LL160 [(.ref b162)])) (st162) ?_
      refine Go.by (T' := T162) (f' := (mkF m 86 LL160 [(.ref b162), (.ref b162)])) (fun _ k => XS.dup X162.here hx rfl (hb hby at_85) rfl rfl k) ?_
      refine Go.by (T' := T162) (f' := (mkF m 87 LL160 [(.int (0 : Int32)), (.ref b162), (.ref b162)])) (fun _ k => XS.iconst X162.here hx rfl (hb hby at_86) k) ?_
      refine Go.by (T' := T162) (f' := (mkF m 89 LL160 [(.int c8), (.int (0 : Int32)), (.ref b162), (.ref b162)])) (fun _ k => XS.iload X162.here hx rfl (hb hby at_87) rfl k) ?_
      obtain ⟨cl163, Ar163, q163, S163, N163', H163, G163⟩ := V_b162
      obtain ⟨T163, h163, X163, e163, W163, st163⟩ := stC X162 hx hZ e162 Ar163 (j := (0 : Int32)) (inb_of S163 ⟨by decide, by decide⟩) (g := (mkF m 89 LL160 [(.int c8), (.int (0 : Int32)), (.ref b162), (.ref b162)])) rfl rfl (hb hby at_89)
      replace V_b157 := V_b157.other W163 ne_b157_b162
      replace V_b162 := Arv.set Ar163 q163 S163 N163' H163 G163 (fits_nar_char _) W163 0 rfl (Nat.le_of_ble_eq_true rfl)
      change Arv Z h163 b162 k162 .char (1 : Int32) [(.int (nar .char c8))] _ at V_b162
      rw [own_nar c8 hb8] at V_b162
      replace O := O.wr W163 g_b162
      replace K := K.wr W163 (Or.inr sz_b162)
      replace N := Fr.snoc X163 N g_b162
      refine Go.by (T' := T163) (f' := (mkF m 90 LL160 [(.ref b162)])) (st163) ?_
      refine Go.by (T' := T163) (f' := (mkF m 106 LL160 [(.ref b162)])) (fun _ k => XS.goto X163.here hx rfl (pc0 := 90) (pc' := 106) rfl (hb hby at_90) (by decide) (by decide) k) ?_
      let LL164 : Array Slot := #[.val (.int z0), .val (.int z1), .val (.int z2), .val (.int z3), .val (.int z4), .val (.int z5), .val (.int ((1 : Int32) + (z0 &&& (1 : Int32)))), .val (.int ((1 : Int32) + (z1 &&& (1 : Int32)))), .val (.int c4), .val (.int c6), .val (.int c8), .val (.int c10), .val (.ref b157), .val (.ref b162), .unset, .unset, .unset, .unset, .unset, .unset, .unset, .unset, .unset, .unset]
      refine Go.by (T' := T163) (f' := (mkF m 108 LL164 [])) (fun _ k => XS.astore X163.here hx rfl (hb hby at_106) rfl rfl (l' := LL164) rfl k) ?_
      refine Go.by (T' := T163) (f' := (mkF m 110 LL164 [(.int z4)])) (fun _ k => XS.iload X163.here hx rfl (hb hby at_108) rfl k) ?_
      refine Go.by (T' := T163) (f' := (mkF m 112 LL164 [(.int (65535 : Int32)), (.int z4)])) (X163.ldcInt hx hown (mvT hZ (hw _ (List.mem_of_getElem? (i := 5) rfl))) (g := (mkF m 110 LL164 [(.int z4)])) rfl (hb hby at_110)) ?_
      refine Go.by (T' := T163) (f' := (mkF m 113 LL164 [(.int (z4 &&& (65535 : Int32)))])) (fun _ k => XS.iand X163.here hx rfl (hb hby at_112) rfl k) ?_
      let LL165 : Array Slot := #[.val (.int z0), .val (.int z1), .val (.int z2), .val (.int z3), .val (.int z4), .val (.int z5), .val (.int ((1 : Int32) + (z0 &&& (1 : Int32)))), .val (.int ((1 : Int32) + (z1 &&& (1 : Int32)))), .val (.int c4), .val (.int c6), .val (.int c8), .val (.int c10), .val (.ref b157), .val (.ref b162), .val (.int (z4 &&& (65535 : Int32))), .unset, .unset, .unset, .unset, .unset, .unset, .unset, .unset, .unset]
      refine Go.by (T' := T163) (f' := (mkF m 115 LL165 [])) (fun _ k => XS.istore X163.here hx rfl (hb hby at_113) rfl (l' := LL165) rfl k) ?_
      refine Go.by (T' := T163) (f' := (mkF m 117 LL165 [(.int z5)])) (fun _ k => XS.iload X163.here hx rfl (hb hby at_115) rfl k) ?_
      refine Go.by (T' := T163) (f' := (mkF m 118 LL165 [(.int (3 : Int32)), (.int z5)])) (fun _ k => XS.iconst X163.here hx rfl (hb hby at_117) k) ?_
      refine Go.by (T' := T163) (f' := (mkF m 119 LL165 [(.int (z5 &&& (3 : Int32)))])) (fun _ k => XS.iand X163.here hx rfl (hb hby at_118) rfl k) ?_
      let LL166 : Array Slot := #[.val (.int z0), .val (.int z1), .val (.int z2), .val (.int z3), .val (.int z4), .val (.int z5), .val (.int ((1 : Int32) + (z0 &&& (1 : Int32)))), .val (.int ((1 : Int32) + (z1 &&& (1 : Int32)))), .val (.int c4), .val (.int c6), .val (.int c8), .val (.int c10), .val (.ref b157), .val (.ref b162), .val (.int (z4 &&& (65535 : Int32))), .val (.int (z5 &&& (3 : Int32))), .unset, .unset, .unset, .unset, .unset, .unset, .unset, .unset]
      refine Go.by (T' := T163) (f' := (mkF m 121 LL166 [])) (fun _ k => XS.istore X163.here hx rfl (hb hby at_119) rfl (l' := LL166) rfl k) ?_
      have key : ∀ p2 : Int32, (¬ p2 < 0 ∧ ¬ (65535 : Int32) < p2) → Go p e below (fun o U' => ∃ v L, o = .returned v ∧ Q1 n0 v U'.heap L ∧ FrameEnd s o U' L 32 128) T163 (mkF m 165 #[.val (.int z0), .val (.int z1), .val (.int z2), .val (.int z3), .val (.int z4), .val (.int z5), .val (.int ((1 : Int32) + (z0 &&& (1 : Int32)))), .val (.int ((1 : Int32) + (z1 &&& (1 : Int32)))), .val (.int c4), .val (.int c6), .val (.int c8), .val (.int c10), .val (.ref b157), .val (.ref b162), .val (.int (z4 &&& (65535 : Int32))), .val (.int (z5 &&& (3 : Int32))), .val (.int p2), .unset, .unset, .unset, .unset, .unset, .unset, .unset] []) := by
        intro p2 hp2
        let LL167 : Array Slot := #[.val (.int z0), .val (.int z1), .val (.int z2), .val (.int z3), .val (.int z4), .val (.int z5), .val (.int ((1 : Int32) + (z0 &&& (1 : Int32)))), .val (.int ((1 : Int32) + (z1 &&& (1 : Int32)))), .val (.int c4), .val (.int c6), .val (.int c8), .val (.int c10), .val (.ref b157), .val (.ref b162), .val (.int (z4 &&& (65535 : Int32))), .val (.int (z5 &&& (3 : Int32))), .val (.int p2), .unset, .unset, .unset, .unset, .unset, .unset, .unset]
        obtain ⟨T168, h168, X168, e168, E168, A168, D168, -, st168⟩ := newO X163 hx hZ hown (hw _ (List.mem_of_getElem? (i := 6) rfl)) (hw _ (List.mem_of_getElem? (i := 7) rfl)) (hw _ (List.mem_of_getElem? (i := 8) rfl)) e163 (g := (mkF m 165 LL167 [])) rfl (hb hby at_165) (by decide) (by decide)
        obtain ⟨b168, g168⟩ : ∃ z, z = h163.size := ⟨_, rfl⟩
        rw [← g168] at A168 D168 st168
        have ne_b157_b168 : b157 ≠ b168 := Nat.ne_of_lt (Nat.lt_of_lt_of_le V_b157.lt (Nat.le_of_eq g168.symm))
        have ne_b162_b168 : b162 ≠ b168 := Nat.ne_of_lt (Nat.lt_of_lt_of_le V_b162.lt (Nat.le_of_eq g168.symm))
        have g_b168 : n0 ≤ b168 := Nat.le_trans (Old.le O) (Nat.le_of_eq g168.symm)
        have sz_b168 : h0.size ≤ b168 := Nat.le_trans K.1 (Nat.le_of_eq g168.symm)
        replace V_b157 := V_b157.ext E168
        replace V_b162 := V_b162.ext E168
        replace O := O.ext E168
        replace K := K.ext E168
        have E_b168 := A168
        have F_coder_b168 : Fld Z h168 b168 "java/lang/String" "coder" "B" (.int (0 : Int32)) := D168 (Or.inr (hw _ (List.mem_of_getElem? (i := 32) rfl))) (ty := .byte) (by decide)
        have F_value_b168 : Fld Z h168 b168 "java/lang/String" "value" "[B" .null := D168 (Or.inr (hw _ (List.mem_of_getElem? (i := 34) rfl))) (ty := (.array .byte)) (by decide)
        refine Go.by (T' := T168) (f' := (mkF m 168 LL167 [(.ref b168)])) (st168) ?_
        refine Go.by (T' := T168) (f' := (mkF m 169 LL167 [(.ref b168), (.ref b168)])) (fun _ k => XS.dup X168.here hx rfl (hb hby at_168) rfl rfl k) ?_
        refine Go.by (T' := T168) (f' := (mkF m 171 LL167 [(.ref b157), (.ref b168), (.ref b168)])) (fun _ k => XS.aload X168.here hx rfl (hb hby at_169) rfl rfl k) ?_
        have hp169 : ∀ c ∈ ([c4, c6] : List Int32), ¬ c < 0 ∧ ¬ (255 : Int32) < c := by
          intro c hc; simp only [List.mem_cons, List.not_mem_nil, or_false] at hc
          rcases hc with rfl | rfl
          · exact hb4
          · exact hb6
        obtain ⟨v169, _, ⟨T169, L169, k169, n169⟩, -, X169, ⟨Lc169, hQ169, l169, y169, z169⟩, st169⟩ := X168.specialBack hx (y := (⟨"java/lang/String", "<init>", "([C)V"⟩ : MethodName)) rfl hown (mvT hZ (hw _ (List.mem_of_getElem? (i := 9) rfl))) (mvT hZ (hw _ (List.mem_of_getElem? (i := 10) rfl))) (mvT hZ (hw _ (List.mem_of_getElem? (i := 11) rfl))) (by decide) (StrChars.Road.backV (W := 1) hZ hws (kI := 4) (hw _ (List.mem_of_getElem? (i := 7) rfl)) (cs := ([c4, c6] : List Int32)) (bs := ([c4, c6] : List Int32).map (fun c => c.toInt8.toInt32)) (n := 2) g_b168 (Old.le O) E_b168 F_value_b168 F_coder_b168 V_b157 (Sta.ext O.2 hS.2.2.2.2.1) hS.2.2.2.2.2.1 rfl rfl (by decide) (by decide) hp169 rfl (by decide) (by decide)) (g := (mkF m 171 LL167 [(.ref b157), (.ref b168), (.ref b168)])) rfl (by rw [hml]; rfl) (Steps.refl _) (a := b168) (argsL := [(.ref b157)]) (rest := [(.ref b168)]) (lenOf pd_rm1_1 rfl) rfl (by show 2 * 0 + _ ≤ _; exact Nat.le_of_eq rfl) (hb hby at_171) (fun _ _ => ⟨rfl, e168, (by decide : 3 + 1 ≤ _), (by decide : 7 + 2 ≤ _)⟩)
        dsimp only [Pt.U, Pt.locs, Pt.cells, Pt.slots] at X169 l169 y169 z169 st169 hQ169
        subst l169 y169 z169
        obtain ⟨rfl, Nq169, K169, -, Gc169, t169, kb169, gt169, szt169, net169, Gv169, Vt169⟩ := hQ169
        replace N := Fr.app N Nq169
        have ne_b157_t169 : b157 ≠ t169 := Nat.ne_of_lt (Nat.lt_of_lt_of_le V_b157.lt szt169)
        have ne_b162_t169 : b162 ≠ t169 := Nat.ne_of_lt (Nat.lt_of_lt_of_le V_b162.lt szt169)
        have ne_b168_t169 : b168 ≠ t169 := Nat.ne_of_lt (Nat.lt_of_lt_of_le E_b168.lt szt169)
        have g_t169 : n0 ≤ t169 := Nat.le_trans (Old.le O) szt169
        have sz_t169 : h0.size ≤ t169 := Nat.le_trans K.1 szt169
        replace V_b157 := V_b157.keep K169 (ninS ne_b157_b168 nin0)
        replace V_b162 := V_b162.keep K169 (ninS ne_b162_b168 nin0)
        replace E_b168 := E_b168.keep K169
        replace O := O.keep K169 (allS g_b168 all0)
        replace K := K.trans K169 (allS (Or.inr sz_b168) all0)
        have hcd169 : StrChars.Road.CodA ([c4, c6] : List Int32) 0 (2 : Int32) ((([c4, c6] : List Int32).map (fun c => c.toInt8.toInt32)).map Value.int) := StrChars.Road.codOf (n := 2) rfl (fun c hc => (hp169 c hc).2)
        refine Go.by (T' := T169) (f' := (mkF m 174 LL167 [(.ref b168)])) (fun _ k => st169.trans k) ?_
        let LL170 : Array Slot := #[.val (.int z0), .val (.int z1), .val (.int z2), .val (.int z3), .val (.int z4), .val (.int z5), .val (.int ((1 : Int32) + (z0 &&& (1 : Int32)))), .val (.int ((1 : Int32) + (z1 &&& (1 : Int32)))), .val (.int c4), .val (.int c6), .val (.int c8), .val (.int c10), .val (.ref b157), .val (.ref b162), .val (.int (z4 &&& (65535 : Int32))), .val (.int (z5 &&& (3 : Int32))), .val (.int p2), .val (.ref b168), .unset, .unset, .unset, .unset, .unset, .unset]
        refine Go.by (T' := T169) (f' := (mkF m 176 LL170 [])) (fun _ k => XS.astore X169.here hx rfl (hb hby at_174) rfl rfl (l' := LL170) rfl k) ?_
        obtain ⟨T171, h171, X171, e171, E171, A171, D171, -, st171⟩ := newO X169 hx hZ hown (hw _ (List.mem_of_getElem? (i := 35) rfl)) (hw _ (List.mem_of_getElem? (i := 36) rfl)) (hw _ (List.mem_of_getElem? (i := 37) rfl)) rfl (g := (mkF m 176 LL170 [])) rfl (hb hby at_176) (by decide) (by decide)
        obtain ⟨b171, g171⟩ : ∃ z, z = T169.heap.size := ⟨_, rfl⟩
        rw [← g171] at A171 D171 st171
        have ne_b157_b171 : b157 ≠ b171 := Nat.ne_of_lt (Nat.lt_of_lt_of_le V_b157.lt (Nat.le_of_eq g171.symm))
        have ne_b162_b171 : b162 ≠ b171 := Nat.ne_of_lt (Nat.lt_of_lt_of_le V_b162.lt (Nat.le_of_eq g171.symm))
        have ne_b168_b171 : b168 ≠ b171 := Nat.ne_of_lt (Nat.lt_of_lt_of_le E_b168.lt (Nat.le_of_eq g171.symm))
        have ne_t169_b171 : t169 ≠ b171 := Nat.ne_of_lt (Nat.lt_of_lt_of_le Vt169.lt (Nat.le_of_eq g171.symm))
        have g_b171 : n0 ≤ b171 := Nat.le_trans (Old.le O) (Nat.le_of_eq g171.symm)
        have sz_b171 : h0.size ≤ b171 := Nat.le_trans K.1 (Nat.le_of_eq g171.symm)
        replace V_b157 := V_b157.ext E171
        replace V_b162 := V_b162.ext E171
        replace E_b168 := E_b168.ext E171
        replace Gc169 := Gc169.ext E171
        replace Gv169 := Gv169.ext E171
        replace Vt169 := Vt169.ext E171
        replace O := O.ext E171
        replace K := K.ext E171
        have E_b171 := A171
        have F_host_b171 : Fld Z h171 b171 "com/example/honest_replica/honestreplica/model/Endpoint" "host" "Ljava/lang/String;" .null := D171 (Or.inr (hw _ (List.mem_of_getElem? (i := 49) rfl))) (ty := (.object "java/lang/String")) (by decide)
        have F_port_b171 : Fld Z h171 b171 "com/example/honest_replica/honestreplica/model/Endpoint" "port" "I" (.int (0 : Int32)) := D171 (Or.inr (hw _ (List.mem_of_getElem? (i := 51) rfl))) (ty := .int) (by decide)
        refine Go.by (T' := T171) (f' := (mkF m 179 LL170 [(.ref b171)])) (st171) ?_
        refine Go.by (T' := T171) (f' := (mkF m 180 LL170 [(.ref b171), (.ref b171)])) (fun _ k => XS.dup X171.here hx rfl (hb hby at_179) rfl rfl k) ?_
        refine Go.by (T' := T171) (f' := (mkF m 182 LL170 [(.ref b168), (.ref b171), (.ref b171)])) (fun _ k => XS.aload X171.here hx rfl (hb hby at_180) rfl rfl k) ?_
        refine Go.by (T' := T171) (f' := (mkF m 184 LL170 [(.int (z4 &&& (65535 : Int32))), (.ref b168), (.ref b171), (.ref b171)])) (fun _ k => XS.iload X171.here hx rfl (hb hby at_182) rfl k) ?_
        obtain ⟨v172, _, ⟨T172, L172, k172, n172⟩, -, X172, ⟨Lc172, hQ172, l172, y172, z172⟩, st172⟩ := X171.specialBack hx (y := (⟨"com/example/honest_replica/honestreplica/model/Endpoint", "<init>", "(Ljava/lang/String;I)V"⟩ : MethodName)) rfl hown (mvT hZ (hw _ (List.mem_of_getElem? (i := 38) rfl))) (mvT hZ (hw _ (List.mem_of_getElem? (i := 39) rfl))) (mvT hZ (hw _ (List.mem_of_getElem? (i := 40) rfl))) (by decide) (backOf (W := 1) (rm_e l Z a0 hw [] b171 b168 (z4 &&& (65535 : Int32)) t169 kb169 (2 : Int32) ((([c4, c6] : List Int32).map (fun c => c.toInt8.toInt32)).map Value.int) ([c4, c6] : List Int32) (by simp) (own_p16 _) ne_t169_b171 h171 n0 O E_b171 F_host_b171 F_port_b171 g_b171 E_b168 Gv169 Gc169 Vt169 hcd169 (own_up _ hp169) (Nat.le_of_ble_eq_true rfl)) hZ (hw _ (List.mem_of_getElem? (i := 40) rfl)) (hw _ (List.mem_of_getElem? (i := 37) rfl)) (by decide) (by decide)) (g := (mkF m 184 LL170 [(.int (z4 &&& (65535 : Int32))), (.ref b168), (.ref b171), (.ref b171)])) rfl (by rw [hml]; rfl) (Steps.refl _) (a := b171) (argsL := [(.ref b168), (.int (z4 &&& (65535 : Int32)))]) (rest := [(.ref b171)]) (lenOf pd_rm1_2 rfl) rfl (by show 2 * 0 + _ ≤ _; exact Nat.le_of_eq rfl) (hb hby at_184) (fun _ _ => ⟨rfl, e171, (by decide : 5 + 0 ≤ _), (by decide : 11 + 0 ≤ _)⟩)
        dsimp only [Pt.U, Pt.locs, Pt.cells, Pt.slots] at X172 l172 y172 z172 st172 hQ172
        subst l172 y172 z172
        obtain ⟨rfl, Nq172, K172, Gh172, Gp172⟩ := hQ172
        replace N := Fr.app N Nq172
        replace V_b157 := V_b157.keep K172 (ninS ne_b157_b171 nin0)
        replace V_b162 := V_b162.keep K172 (ninS ne_b162_b171 nin0)
        replace E_b168 := E_b168.keep K172
        replace Gc169 := Gc169.keep K172 (ninS ne_b168_b171 nin0)
        replace Gv169 := Gv169.keep K172 (ninS ne_b168_b171 nin0)
        replace Vt169 := Vt169.keep K172 (ninS ne_t169_b171 nin0)
        replace E_b171 := E_b171.keep K172
        replace O := O.keep K172 (allS g_b171 all0)
        replace K := K.trans K172 (allS (Or.inr sz_b171) all0)
        refine Go.by (T' := T172) (f' := (mkF m 187 LL170 [(.ref b171)])) (fun _ k => st172.trans k) ?_
        let LL173 : Array Slot := #[.val (.int z0), .val (.int z1), .val (.int z2), .val (.int z3), .val (.int z4), .val (.int z5), .val (.int ((1 : Int32) + (z0 &&& (1 : Int32)))), .val (.int ((1 : Int32) + (z1 &&& (1 : Int32)))), .val (.int c4), .val (.int c6), .val (.int c8), .val (.int c10), .val (.ref b157), .val (.ref b162), .val (.int (z4 &&& (65535 : Int32))), .val (.int (z5 &&& (3 : Int32))), .val (.int p2), .val (.ref b168), .val (.ref b171), .unset, .unset, .unset, .unset, .unset]
        refine Go.by (T' := T172) (f' := (mkF m 189 LL173 [])) (fun _ k => XS.astore X172.here hx rfl (hb hby at_187) rfl rfl (l' := LL173) rfl k) ?_
        obtain ⟨T174, h174, X174, e174, E174, A174, D174, -, st174⟩ := newO X172 hx hZ hown (hw _ (List.mem_of_getElem? (i := 35) rfl)) (hw _ (List.mem_of_getElem? (i := 36) rfl)) (hw _ (List.mem_of_getElem? (i := 37) rfl)) rfl (g := (mkF m 189 LL173 [])) rfl (hb hby at_189) (by decide) (by decide)
        obtain ⟨b174, g174⟩ : ∃ z, z = T172.heap.size := ⟨_, rfl⟩
        rw [← g174] at A174 D174 st174
        have ne_b157_b174 : b157 ≠ b174 := Nat.ne_of_lt (Nat.lt_of_lt_of_le V_b157.lt (Nat.le_of_eq g174.symm))
        have ne_b162_b174 : b162 ≠ b174 := Nat.ne_of_lt (Nat.lt_of_lt_of_le V_b162.lt (Nat.le_of_eq g174.symm))
        have ne_b168_b174 : b168 ≠ b174 := Nat.ne_of_lt (Nat.lt_of_lt_of_le E_b168.lt (Nat.le_of_eq g174.symm))
        have ne_t169_b174 : t169 ≠ b174 := Nat.ne_of_lt (Nat.lt_of_lt_of_le Vt169.lt (Nat.le_of_eq g174.symm))
        have ne_b171_b174 : b171 ≠ b174 := Nat.ne_of_lt (Nat.lt_of_lt_of_le E_b171.lt (Nat.le_of_eq g174.symm))
        have g_b174 : n0 ≤ b174 := Nat.le_trans (Old.le O) (Nat.le_of_eq g174.symm)
        have sz_b174 : h0.size ≤ b174 := Nat.le_trans K.1 (Nat.le_of_eq g174.symm)
        replace V_b157 := V_b157.ext E174
        replace V_b162 := V_b162.ext E174
        replace E_b168 := E_b168.ext E174
        replace Gc169 := Gc169.ext E174
        replace Gv169 := Gv169.ext E174
        replace Vt169 := Vt169.ext E174
        replace E_b171 := E_b171.ext E174
        replace Gh172 := Gh172.ext E174
        replace Gp172 := Gp172.ext E174
        replace O := O.ext E174
        replace K := K.ext E174
        have E_b174 := A174
        have F_host_b174 : Fld Z h174 b174 "com/example/honest_replica/honestreplica/model/Endpoint" "host" "Ljava/lang/String;" .null := D174 (Or.inr (hw _ (List.mem_of_getElem? (i := 49) rfl))) (ty := (.object "java/lang/String")) (by decide)
        have F_port_b174 : Fld Z h174 b174 "com/example/honest_replica/honestreplica/model/Endpoint" "port" "I" (.int (0 : Int32)) := D174 (Or.inr (hw _ (List.mem_of_getElem? (i := 51) rfl))) (ty := .int) (by decide)
        refine Go.by (T' := T174) (f' := (mkF m 192 LL173 [(.ref b174)])) (st174) ?_
        refine Go.by (T' := T174) (f' := (mkF m 193 LL173 [(.ref b174), (.ref b174)])) (fun _ k => XS.dup X174.here hx rfl (hb hby at_192) rfl rfl k) ?_
        obtain ⟨T175, h175, X175, e175, E175, A175, D175, -, st175⟩ := newO X174 hx hZ hown (hw _ (List.mem_of_getElem? (i := 6) rfl)) (hw _ (List.mem_of_getElem? (i := 7) rfl)) (hw _ (List.mem_of_getElem? (i := 8) rfl)) e174 (g := (mkF m 193 LL173 [(.ref b174), (.ref b174)])) rfl (hb hby at_193) (by decide) (by decide)
        obtain ⟨b175, g175⟩ : ∃ z, z = h174.size := ⟨_, rfl⟩
        rw [← g175] at A175 D175 st175
        have ne_b157_b175 : b157 ≠ b175 := Nat.ne_of_lt (Nat.lt_of_lt_of_le V_b157.lt (Nat.le_of_eq g175.symm))
        have ne_b162_b175 : b162 ≠ b175 := Nat.ne_of_lt (Nat.lt_of_lt_of_le V_b162.lt (Nat.le_of_eq g175.symm))
        have ne_b168_b175 : b168 ≠ b175 := Nat.ne_of_lt (Nat.lt_of_lt_of_le E_b168.lt (Nat.le_of_eq g175.symm))
        have ne_t169_b175 : t169 ≠ b175 := Nat.ne_of_lt (Nat.lt_of_lt_of_le Vt169.lt (Nat.le_of_eq g175.symm))
        have ne_b171_b175 : b171 ≠ b175 := Nat.ne_of_lt (Nat.lt_of_lt_of_le E_b171.lt (Nat.le_of_eq g175.symm))
        have ne_b174_b175 : b174 ≠ b175 := Nat.ne_of_lt (Nat.lt_of_lt_of_le E_b174.lt (Nat.le_of_eq g175.symm))
        have g_b175 : n0 ≤ b175 := Nat.le_trans (Old.le O) (Nat.le_of_eq g175.symm)
        have sz_b175 : h0.size ≤ b175 := Nat.le_trans K.1 (Nat.le_of_eq g175.symm)
        replace V_b157 := V_b157.ext E175
        replace V_b162 := V_b162.ext E175
        replace E_b168 := E_b168.ext E175
        replace Gc169 := Gc169.ext E175
        replace Gv169 := Gv169.ext E175
        replace Vt169 := Vt169.ext E175
        replace E_b171 := E_b171.ext E175
        replace Gh172 := Gh172.ext E175
        replace Gp172 := Gp172.ext E175
        replace E_b174 := E_b174.ext E175
        replace F_host_b174 := F_host_b174.ext E175
        replace F_port_b174 := F_port_b174.ext E175
        replace O := O.ext E175
        replace K := K.ext E175
        have E_b175 := A175
        have F_coder_b175 : Fld Z h175 b175 "java/lang/String" "coder" "B" (.int (0 : Int32)) := D175 (Or.inr (hw _ (List.mem_of_getElem? (i := 32) rfl))) (ty := .byte) (by decide)
        have F_value_b175 : Fld Z h175 b175 "java/lang/String" "value" "[B" .null := D175 (Or.inr (hw _ (List.mem_of_getElem? (i := 34) rfl))) (ty := (.array .byte)) (by decide)
        refine Go.by (T' := T175) (f' := (mkF m 196 LL173 [(.ref b175), (.ref b174), (.ref b174)])) (st175) ?_
        refine Go.by (T' := T175) (f' := (mkF m 197 LL173 [(.ref b175), (.ref b175), (.ref b174), (.ref b174)])) (fun _ k => XS.dup X175.here hx rfl (hb hby at_196) rfl rfl k) ?_
        refine Go.by (T' := T175) (f' := (mkF m 199 LL173 [(.ref b162), (.ref b175), (.ref b175), (.ref b174), (.ref b174)])) (fun _ k => XS.aload X175.here hx rfl (hb hby at_197) rfl rfl k) ?_
        have hp176 : ∀ c ∈ ([c8] : List Int32), ¬ c < 0 ∧ ¬ (255 : Int32) < c := by
          intro c hc; simp only [List.mem_cons, List.not_mem_nil, or_false] at hc
          rcases hc with rfl
          · exact hb8
        obtain ⟨v176, _, ⟨T176, L176, k176, n176⟩, -, X176, ⟨Lc176, hQ176, l176, y176, z176⟩, st176⟩ := X175.specialBack hx (y := (⟨"java/lang/String", "<init>", "([C)V"⟩ : MethodName)) rfl hown (mvT hZ (hw _ (List.mem_of_getElem? (i := 9) rfl))) (mvT hZ (hw _ (List.mem_of_getElem? (i := 10) rfl))) (mvT hZ (hw _ (List.mem_of_getElem? (i := 11) rfl))) (by decide) (StrChars.Road.backV (W := 3) hZ hws (kI := 4) (hw _ (List.mem_of_getElem? (i := 7) rfl)) (cs := ([c8] : List Int32)) (bs := ([c8] : List Int32).map (fun c => c.toInt8.toInt32)) (n := 1) g_b175 (Old.le O) E_b175 F_value_b175 F_coder_b175 V_b162 (Sta.ext O.2 hS.2.2.2.2.1) hS.2.2.2.2.2.1 rfl rfl (by decide) (by decide) hp176 rfl (by decide) (by decide)) (g := (mkF m 199 LL173 [(.ref b162), (.ref b175), (.ref b175), (.ref b174), (.ref b174)])) rfl (by rw [hml]; rfl) (Steps.refl _) (a := b175) (argsL := [(.ref b162)]) (rest := [(.ref b175), (.ref b174), (.ref b174)]) (lenOf pd_rm1_1 rfl) rfl (by show 2 * 0 + _ ≤ _; exact Nat.le_of_eq rfl) (hb hby at_199) (fun _ _ => ⟨rfl, e175, (by decide : 7 + 1 ≤ _), (by decide : 17 + 1 ≤ _)⟩)
        dsimp only [Pt.U, Pt.locs, Pt.cells, Pt.slots] at X176 l176 y176 z176 st176 hQ176
        subst l176 y176 z176
        obtain ⟨rfl, Nq176, K176, -, Gc176, t176, kb176, gt176, szt176, net176, Gv176, Vt176⟩ := hQ176
        replace N := Fr.app N Nq176
        have ne_b157_t176 : b157 ≠ t176 := Nat.ne_of_lt (Nat.lt_of_lt_of_le V_b157.lt szt176)
        have ne_b162_t176 : b162 ≠ t176 := Nat.ne_of_lt (Nat.lt_of_lt_of_le V_b162.lt szt176)
        have ne_b168_t176 : b168 ≠ t176 := Nat.ne_of_lt (Nat.lt_of_lt_of_le E_b168.lt szt176)
        have ne_t169_t176 : t169 ≠ t176 := Nat.ne_of_lt (Nat.lt_of_lt_of_le Vt169.lt szt176)
        have ne_b171_t176 : b171 ≠ t176 := Nat.ne_of_lt (Nat.lt_of_lt_of_le E_b171.lt szt176)
        have ne_b174_t176 : b174 ≠ t176 := Nat.ne_of_lt (Nat.lt_of_lt_of_le E_b174.lt szt176)
        have ne_b175_t176 : b175 ≠ t176 := Nat.ne_of_lt (Nat.lt_of_lt_of_le E_b175.lt szt176)
        have g_t176 : n0 ≤ t176 := Nat.le_trans (Old.le O) szt176
        have sz_t176 : h0.size ≤ t176 := Nat.le_trans K.1 szt176
        replace V_b157 := V_b157.keep K176 (ninS ne_b157_b175 nin0)
        replace V_b162 := V_b162.keep K176 (ninS ne_b162_b175 nin0)
        replace E_b168 := E_b168.keep K176
        replace Gc169 := Gc169.keep K176 (ninS ne_b168_b175 nin0)
        replace Gv169 := Gv169.keep K176 (ninS ne_b168_b175 nin0)
        replace Vt169 := Vt169.keep K176 (ninS ne_t169_b175 nin0)
        replace E_b171 := E_b171.keep K176
        replace Gh172 := Gh172.keep K176 (ninS ne_b171_b175 nin0)
        replace Gp172 := Gp172.keep K176 (ninS ne_b171_b175 nin0)
        replace E_b174 := E_b174.keep K176
        replace F_host_b174 := F_host_b174.keep K176 (ninS ne_b174_b175 nin0)
        replace F_port_b174 := F_port_b174.keep K176 (ninS ne_b174_b175 nin0)
        replace E_b175 := E_b175.keep K176
        replace O := O.keep K176 (allS g_b175 all0)
        replace K := K.trans K176 (allS (Or.inr sz_b175) all0)
        have hcd176 : StrChars.Road.CodA ([c8] : List Int32) 0 (1 : Int32) ((([c8] : List Int32).map (fun c => c.toInt8.toInt32)).map Value.int) := StrChars.Road.codOf (n := 1) rfl (fun c hc => (hp176 c hc).2)
        refine Go.by (T' := T176) (f' := (mkF m 202 LL173 [(.ref b175), (.ref b174), (.ref b174)])) (fun _ k => st176.trans k) ?_
        refine Go.by (T' := T176) (f' := (mkF m 204 LL173 [(.int p2), (.ref b175), (.ref b174), (.ref b174)])) (fun _ k => XS.iload X176.here hx rfl (hb hby at_202) rfl k) ?_
        obtain ⟨v177, _, ⟨T177, L177, k177, n177⟩, -, X177, ⟨Lc177, hQ177, l177, y177, z177⟩, st177⟩ := X176.specialBack hx (y := (⟨"com/example/honest_replica/honestreplica/model/Endpoint", "<init>", "(Ljava/lang/String;I)V"⟩ : MethodName)) rfl hown (mvT hZ (hw _ (List.mem_of_getElem? (i := 38) rfl))) (mvT hZ (hw _ (List.mem_of_getElem? (i := 39) rfl))) (mvT hZ (hw _ (List.mem_of_getElem? (i := 40) rfl))) (by decide) (backOf (W := 1) (rm_e l Z a0 hw [] b174 b175 p2 t176 kb176 (1 : Int32) ((([c8] : List Int32).map (fun c => c.toInt8.toInt32)).map Value.int) ([c8] : List Int32) (by simp) hp2 (Ne.symm ne_b174_t176) T176.heap n0 O E_b174 F_host_b174 F_port_b174 g_b174 E_b175 Gv176 Gc176 Vt176 hcd176 (own_up _ hp176) (Nat.le_of_ble_eq_true rfl)) hZ (hw _ (List.mem_of_getElem? (i := 40) rfl)) (hw _ (List.mem_of_getElem? (i := 37) rfl)) (by decide) (by decide)) (g := (mkF m 204 LL173 [(.int p2), (.ref b175), (.ref b174), (.ref b174)])) rfl (by rw [hml]; rfl) (Steps.refl _) (a := b174) (argsL := [(.ref b175), (.int p2)]) (rest := [(.ref b174)]) (lenOf pd_rm1_2 rfl) rfl (by show 2 * 0 + _ ≤ _; exact Nat.le_of_eq rfl) (hb hby at_204) (fun _ _ => ⟨rfl, rfl, (by decide : 8 + 0 ≤ _), (by decide : 18 + 0 ≤ _)⟩)
        dsimp only [Pt.U, Pt.locs, Pt.cells, Pt.slots] at X177 l177 y177 z177 st177 hQ177
        subst l177 y177 z177
        obtain ⟨rfl, Nq177, K177, Gh177, Gp177⟩ := hQ177
        replace N := Fr.app N Nq177
        replace V_b157 := V_b157.keep K177 (ninS ne_b157_b174 nin0)
        replace V_b162 := V_b162.keep K177 (ninS ne_b162_b174 nin0)
        replace E_b168 := E_b168.keep K177
        replace Gc169 := Gc169.keep K177 (ninS ne_b168_b174 nin0)
        replace Gv169 := Gv169.keep K177 (ninS ne_b168_b174 nin0)
        replace Vt169 := Vt169.keep K177 (ninS ne_t169_b174 nin0)
        replace E_b171 := E_b171.keep K177
        replace Gh172 := Gh172.keep K177 (ninS ne_b171_b174 nin0)
        replace Gp172 := Gp172.keep K177 (ninS ne_b171_b174 nin0)
        replace E_b174 := E_b174.keep K177
        replace E_b175 := E_b175.keep K177
        replace Gc176 := Gc176.keep K177 (ninS (Ne.symm ne_b174_b175) nin0)
        replace Gv176 := Gv176.keep K177 (ninS (Ne.symm ne_b174_b175) nin0)
        replace Vt176 := Vt176.keep K177 (ninS (Ne.symm ne_b174_t176) nin0)
        replace O := O.keep K177 (allS g_b174 all0)
        replace K := K.trans K177 (allS (Or.inr sz_b174) all0)
        refine Go.by (T' := T177) (f' := (mkF m 207 LL173 [(.ref b174)])) (fun _ k => st177.trans k) ?_
        let LL178 : Array Slot := #[.val (.int z0), .val (.int z1), .val (.int z2), .val (.int z3), .val (.int z4), .val (.int z5), .val (.int ((1 : Int32) + (z0 &&& (1 : Int32)))), .val (.int ((1 : Int32) + (z1 &&& (1 : Int32)))), .val (.int c4), .val (.int c6), .val (.int c8), .val (.int c10), .val (.ref b157), .val (.ref b162), .val (.int (z4 &&& (65535 : Int32))), .val (.int (z5 &&& (3 : Int32))), .val (.int p2), .val (.ref b168), .val (.ref b171), .val (.ref b174), .unset, .unset, .unset, .unset]
        refine Go.by (T' := T177) (f' := (mkF m 209 LL178 [])) (fun _ k => XS.astore X177.here hx rfl (hb hby at_207) rfl rfl (l' := LL178) rfl k) ?_
        refine Go.by (T' := T177) (f' := (mkF m 211 LL178 [(.int ((1 : Int32) + (z0 &&& (1 : Int32))))])) (fun _ k => XS.iload X177.here hx rfl (hb hby at_209) rfl k) ?_
        refine Go.by (T' := T177) (f' := (mkF m 213 LL178 [(.int ((1 : Int32) + (z1 &&& (1 : Int32)))), (.int ((1 : Int32) + (z0 &&& (1 : Int32))))])) (fun _ k => XS.iload X177.here hx rfl (hb hby at_211) rfl k) ?_
        refine Go.by (T' := T177) (f' := (mkF m 240 LL178 [])) (fun _ k => XS.icmpYes X177.here hx rfl (pc0 := 213) (pc' := 240) rfl (hb hby at_213) rfl (feq (fun q => hc47_12 (q.trans hc79_161))).2 (by decide) (by decide) k) ?_
        refine Go.by (T' := T177) (f' := (mkF m 241 LL178 [(.int (0 : Int32))])) (fun _ k => XS.iconst X177.here hx rfl (hb hby at_240) k) ?_
        let LL180 : Array Slot := #[.val (.int z0), .val (.int z1), .val (.int z2), .val (.int z3), .val (.int z4), .val (.int z5), .val (.int ((1 : Int32) + (z0 &&& (1 : Int32)))), .val (.int ((1 : Int32) + (z1 &&& (1 : Int32)))), .val (.int c4), .val (.int c6), .val (.int c8), .val (.int c10), .val (.ref b157), .val (.ref b162), .val (.int (z4 &&& (65535 : Int32))), .val (.int (z5 &&& (3 : Int32))), .val (.int p2), .val (.ref b168), .val (.ref b171), .val (.ref b174), .val (.int (0 : Int32)), .unset, .unset, .unset]
        refine Go.by (T' := T177) (f' := (mkF m 243 LL180 [])) (fun _ k => XS.istore X177.here hx rfl (hb hby at_241) rfl (l' := LL180) rfl k) ?_
        refine Go.by (T' := T177) (f' := (mkF m 245 LL180 [(.int (0 : Int32))])) (fun _ k => XS.iload X177.here hx rfl (hb hby at_243) rfl k) ?_
        refine Go.by (T' := T177) (f' := (mkF m 259 LL180 [])) (fun _ k => XS.ifYes X177.here hx rfl (pc0 := 245) (pc' := 259) rfl (hb hby at_245) rfl ((if0 _ _).trans (teq (by decide : (0 : Int32) = (0 : Int32))).1) (by decide) (by decide) k) ?_
        refine Go.by (T' := T177) (f' := (mkF m 260 LL180 [(.int (0 : Int32))])) (fun _ k => XS.iconst X177.here hx rfl (hb hby at_259) k) ?_
        let LL182 : Array Slot := #[.val (.int z0), .val (.int z1), .val (.int z2), .val (.int z3), .val (.int z4), .val (.int z5), .val (.int ((1 : Int32) + (z0 &&& (1 : Int32)))), .val (.int ((1 : Int32) + (z1 &&& (1 : Int32)))), .val (.int c4), .val (.int c6), .val (.int c8), .val (.int c10), .val (.ref b157), .val (.ref b162), .val (.int (z4 &&& (65535 : Int32))), .val (.int (z5 &&& (3 : Int32))), .val (.int p2), .val (.ref b168), .val (.ref b171), .val (.ref b174), .val (.int (0 : Int32)), .val (.int (0 : Int32)), .unset, .unset]
        refine Go.by (T' := T177) (f' := (mkF m 262 LL182 [])) (fun _ k => XS.istore X177.here hx rfl (hb hby at_260) rfl (l' := LL182) rfl k) ?_
        refine Go.by (T' := T177) (f' := (mkF m 263 LL182 [(.int z0)])) (fun _ k => XS.iloadN X177.here hx rfl (hb hby at_262) rfl k) ?_
        refine Go.by (T' := T177) (f' := (mkF m 264 LL182 [(.int (1 : Int32)), (.int z0)])) (fun _ k => XS.iconst X177.here hx rfl (hb hby at_263) k) ?_
        refine Go.by (T' := T177) (f' := (mkF m 265 LL182 [(.int ((z0.toUInt32 >>> ((1 : Int32) &&& 31).toUInt32).toInt32))])) (fun _ k => XS.iushr X177.here hx rfl (hb hby at_264) rfl k) ?_
        refine Go.by (T' := T177) (f' := (mkF m 266 LL182 [(.int (3 : Int32)), (.int ((z0.toUInt32 >>> ((1 : Int32) &&& 31).toUInt32).toInt32))])) (fun _ k => XS.iconst X177.here hx rfl (hb hby at_265) k) ?_
        refine Go.by (T' := T177) (f' := (mkF m 267 LL182 [(.int (((z0.toUInt32 >>> ((1 : Int32) &&& 31).toUInt32).toInt32) &&& (3 : Int32)))])) (fun _ k => XS.iand X177.here hx rfl (hb hby at_266) rfl k) ?_
        let LL183 : Array Slot := #[.val (.int z0), .val (.int z1), .val (.int z2), .val (.int z3), .val (.int z4), .val (.int z5), .val (.int ((1 : Int32) + (z0 &&& (1 : Int32)))), .val (.int ((1 : Int32) + (z1 &&& (1 : Int32)))), .val (.int c4), .val (.int c6), .val (.int c8), .val (.int c10), .val (.ref b157), .val (.ref b162), .val (.int (z4 &&& (65535 : Int32))), .val (.int (z5 &&& (3 : Int32))), .val (.int p2), .val (.ref b168), .val (.ref b171), .val (.ref b174), .val (.int (0 : Int32)), .val (.int (0 : Int32)), .val (.int (((z0.toUInt32 >>> ((1 : Int32) &&& 31).toUInt32).toInt32) &&& (3 : Int32))), .unset]
        refine Go.by (T' := T177) (f' := (mkF m 269 LL183 [])) (fun _ k => XS.istore X177.here hx rfl (hb hby at_267) rfl (l' := LL183) rfl k) ?_
        refine Go.by (T' := T177) (f' := (mkF m 271 LL183 [(.ref b171)])) (fun _ k => XS.aload X177.here hx rfl (hb hby at_269) rfl rfl k) ?_
        refine Go.by (T' := T177) (f' := (mkF m 273 LL183 [(.ref b171), (.ref b171)])) (fun _ k => XS.aload X177.here hx rfl (hb hby at_271) rfl rfl k) ?_
        obtain ⟨cq184, kq184, q184a, q184b, q184c⟩ := isOf hZ rfl E_b171
        obtain ⟨v184, _, ⟨T184, L184, k184, n184⟩, -, X184, ⟨Lc184, hQ184, l184, y184, z184⟩, st184⟩ := X177.virtualBack hx (y := (⟨"com/example/honest_replica/honestreplica/model/Endpoint", "equals", "(Ljava/lang/Object;)Z"⟩ : MethodName)) (z := (⟨"com/example/honest_replica/honestreplica/model/Endpoint", "equals", "(Ljava/lang/Object;)Z"⟩ : MethodName)) hown (mvT hZ (hw _ (List.mem_of_getElem? (i := 52) rfl))) (mvT hZ (hw _ (List.mem_of_getElem? (i := 53) rfl))) (notFace_of_selects (args := #[]) (mvT hZ (hw _ (List.mem_of_getElem? (i := 55) rfl)))) (mvT hZ (hw _ (List.mem_of_getElem? (i := 55) rfl))) (mvT hZ (hw _ (List.mem_of_getElem? (i := 54) rfl))) (by decide) (backOf (W := 0) (rm_q l Z a0 hw [] b171 b171 b168 b168 (z4 &&& (65535 : Int32)) (z4 &&& (65535 : Int32)) t169 kb169 (2 : Int32) ((([c4, c6] : List Int32).map (fun c => c.toInt8.toInt32)).map Value.int) ([c4, c6] : List Int32) t169 kb169 (2 : Int32) ((([c4, c6] : List Int32).map (fun c => c.toInt8.toInt32)).map Value.int) ([c4, c6] : List Int32) wc cl zc hS T177.heap n0 O E_b171 E_b171 Gh172 Gp172 Gh172 Gp172 E_b168 Gv169 Gc169 Vt169 hcd169 (own_up _ hp169) (Nat.le_of_ble_eq_true rfl) E_b168 Gv169 Gc169 Vt169 hcd169 (own_up _ hp169) (Nat.le_of_ble_eq_true rfl)) hZ (hw _ (List.mem_of_getElem? (i := 56) rfl)) (hw _ (List.mem_of_getElem? (i := 37) rfl)) (by decide) (by decide)) q184a q184c (g := (mkF m 273 LL183 [(.ref b171), (.ref b171)])) rfl (by rw [hml]; rfl) (Steps.refl _) (argsL := [(.ref b171)]) (rest := []) (lenOf pd_rm1_3 rfl) rfl (by show 2 * 0 + _ ≤ _; exact Nat.le_of_eq rfl) (hb hby at_273) (fun _ _ => ⟨rfl, rfl, (by decide : 8 + 0 ≤ _), (by decide : 18 + 0 ≤ _)⟩)
        dsimp only [Pt.U, Pt.locs, Pt.cells, Pt.slots] at X184 l184 y184 z184 st184 hQ184
        subst l184 y184 z184
        obtain ⟨hv184, Nq184, e184⟩ := hQ184
        have hz184 : eqs ([c4, c6] : List Int32) (z4 &&& (65535 : Int32)) ([c4, c6] : List Int32) (z4 &&& (65535 : Int32)) = 1 := by simp [eqs]
        rw [hz184] at hv184
        subst hv184
        replace N := Fr.app N Nq184
        refine Go.by (T' := T184) (f' := (mkF m 276 LL183 [(.int (1 : Int32))])) (fun _ k => st184.trans k) ?_
        refine Go.by (T' := T184) (f' := (mkF m 281 LL183 [])) (fun _ k => XS.ifYes X184.here hx rfl (pc0 := 276) (pc' := 281) rfl (hb hby at_276) rfl ((if0 _ _).trans (feq (by decide : ¬ ((1 : Int32) = (0 : Int32)))).2) (by decide) (by decide) k) ?_
        refine Go.by (T' := T184) (f' := (mkF m 283 LL183 [(.int (((z0.toUInt32 >>> ((1 : Int32) &&& 31).toUInt32).toInt32) &&& (3 : Int32)))])) (fun _ k => XS.iload X184.here hx rfl (hb hby at_281) rfl k) ?_
        by_cases hc283_186 : (((z0.toUInt32 >>> ((1 : Int32) &&& 31).toUInt32).toInt32) &&& (3 : Int32)) = (0 : Int32)
        · skip
          refine Go.by (T' := T184) (f' := (mkF m 286 LL183 [])) (fun _ k => XS.ifNo X184.here hx rfl (hb hby at_283) rfl ((if0 _ _).trans (teq hc283_186).2) k) ?_
          refine Go.by (T' := T184) (f' := (mkF m 288 LL183 [(.ref b171)])) (fun _ k => XS.aload X184.here hx rfl (hb hby at_286) rfl rfl k) ?_
          refine Go.by (T' := T184) (f' := (mkF m 290 LL183 [(.ref b174), (.ref b171)])) (fun _ k => XS.aload X184.here hx rfl (hb hby at_288) rfl rfl k) ?_
          obtain ⟨cq187, kq187, q187a, q187b, q187c⟩ := isOf hZ e184 E_b171
          obtain ⟨v187, _, ⟨T187, L187, k187, n187⟩, -, X187, ⟨Lc187, hQ187, l187, y187, z187⟩, st187⟩ := X184.virtualBack hx (y := (⟨"com/example/honest_replica/honestreplica/model/Endpoint", "equals", "(Ljava/lang/Object;)Z"⟩ : MethodName)) (z := (⟨"com/example/honest_replica/honestreplica/model/Endpoint", "equals", "(Ljava/lang/Object;)Z"⟩ : MethodName)) hown (mvT hZ (hw _ (List.mem_of_getElem? (i := 52) rfl))) (mvT hZ (hw _ (List.mem_of_getElem? (i := 53) rfl))) (notFace_of_selects (args := #[]) (mvT hZ (hw _ (List.mem_of_getElem? (i := 55) rfl)))) (mvT hZ (hw _ (List.mem_of_getElem? (i := 55) rfl))) (mvT hZ (hw _ (List.mem_of_getElem? (i := 54) rfl))) (by decide) (backOf (W := 0) (rm_q l Z a0 hw [] b171 b174 b168 b175 (z4 &&& (65535 : Int32)) p2 t169 kb169 (2 : Int32) ((([c4, c6] : List Int32).map (fun c => c.toInt8.toInt32)).map Value.int) ([c4, c6] : List Int32) t176 kb176 (1 : Int32) ((([c8] : List Int32).map (fun c => c.toInt8.toInt32)).map Value.int) ([c8] : List Int32) wc cl zc hS T177.heap n0 O E_b171 E_b174 Gh172 Gp172 Gh177 Gp177 E_b168 Gv169 Gc169 Vt169 hcd169 (own_up _ hp169) (Nat.le_of_ble_eq_true rfl) E_b175 Gv176 Gc176 Vt176 hcd176 (own_up _ hp176) (Nat.le_of_ble_eq_true rfl)) hZ (hw _ (List.mem_of_getElem? (i := 56) rfl)) (hw _ (List.mem_of_getElem? (i := 37) rfl)) (by decide) (by decide)) q187a q187c (g := (mkF m 290 LL183 [(.ref b174), (.ref b171)])) rfl (by rw [hml]; rfl) (Steps.refl _) (argsL := [(.ref b174)]) (rest := []) (lenOf pd_rm1_3 rfl) rfl (by show 2 * 0 + _ ≤ _; exact Nat.le_of_eq rfl) (hb hby at_290) (fun _ _ => ⟨rfl, e184, (by decide : 8 + 0 ≤ _), (by decide : 18 + 0 ≤ _)⟩)
          dsimp only [Pt.U, Pt.locs, Pt.cells, Pt.slots] at X187 l187 y187 z187 st187 hQ187
          subst l187 y187 z187
          obtain ⟨hv187, Nq187, e187⟩ := hQ187
          have hz187 : eqs ([c4, c6] : List Int32) (z4 &&& (65535 : Int32)) ([c8] : List Int32) p2 = 0 := by simp [eqs]
          rw [hz187] at hv187
          subst hv187
          replace N := Fr.app N Nq187
          refine Go.by (T' := T187) (f' := (mkF m 293 LL183 [(.int (0 : Int32))])) (fun _ k => st187.trans k) ?_
          refine Go.by (T' := T187) (f' := (mkF m 295 LL183 [(.int (0 : Int32)), (.int (0 : Int32))])) (fun _ k => XS.iload X187.here hx rfl (hb hby at_293) rfl k) ?_
          refine Go.by (T' := T187) (f' := (mkF m 298 LL183 [])) (fun _ k => XS.icmpNo X187.here hx rfl (hb hby at_295) rfl (teq (by decide : (0 : Int32) = (0 : Int32))).2 k) ?_
          refine Go.by (T' := T187) (f' := (mkF m 300 LL183 [(.ref b174)])) (fun _ k => XS.aload X187.here hx rfl (hb hby at_298) rfl rfl k) ?_
          refine Go.by (T' := T187) (f' := (mkF m 302 LL183 [(.ref b171), (.ref b174)])) (fun _ k => XS.aload X187.here hx rfl (hb hby at_300) rfl rfl k) ?_
          obtain ⟨cq189, kq189, q189a, q189b, q189c⟩ := isOf hZ e187 E_b174
          obtain ⟨v189, _, ⟨T189, L189, k189, n189⟩, -, X189, ⟨Lc189, hQ189, l189, y189, z189⟩, st189⟩ := X187.virtualBack hx (y := (⟨"com/example/honest_replica/honestreplica/model/Endpoint", "equals", "(Ljava/lang/Object;)Z"⟩ : MethodName)) (z := (⟨"com/example/honest_replica/honestreplica/model/Endpoint", "equals", "(Ljava/lang/Object;)Z"⟩ : MethodName)) hown (mvT hZ (hw _ (List.mem_of_getElem? (i := 52) rfl))) (mvT hZ (hw _ (List.mem_of_getElem? (i := 53) rfl))) (notFace_of_selects (args := #[]) (mvT hZ (hw _ (List.mem_of_getElem? (i := 55) rfl)))) (mvT hZ (hw _ (List.mem_of_getElem? (i := 55) rfl))) (mvT hZ (hw _ (List.mem_of_getElem? (i := 54) rfl))) (by decide) (backOf (W := 0) (rm_q l Z a0 hw [] b174 b171 b175 b168 p2 (z4 &&& (65535 : Int32)) t176 kb176 (1 : Int32) ((([c8] : List Int32).map (fun c => c.toInt8.toInt32)).map Value.int) ([c8] : List Int32) t169 kb169 (2 : Int32) ((([c4, c6] : List Int32).map (fun c => c.toInt8.toInt32)).map Value.int) ([c4, c6] : List Int32) wc cl zc hS T177.heap n0 O E_b174 E_b171 Gh177 Gp177 Gh172 Gp172 E_b175 Gv176 Gc176 Vt176 hcd176 (own_up _ hp176) (Nat.le_of_ble_eq_true rfl) E_b168 Gv169 Gc169 Vt169 hcd169 (own_up _ hp169) (Nat.le_of_ble_eq_true rfl)) hZ (hw _ (List.mem_of_getElem? (i := 56) rfl)) (hw _ (List.mem_of_getElem? (i := 37) rfl)) (by decide) (by decide)) q189a q189c (g := (mkF m 302 LL183 [(.ref b171), (.ref b174)])) rfl (by rw [hml]; rfl) (Steps.refl _) (argsL := [(.ref b171)]) (rest := []) (lenOf pd_rm1_3 rfl) rfl (by show 2 * 0 + _ ≤ _; exact Nat.le_of_eq rfl) (hb hby at_302) (fun _ _ => ⟨rfl, e187, (by decide : 8 + 0 ≤ _), (by decide : 18 + 0 ≤ _)⟩)
          dsimp only [Pt.U, Pt.locs, Pt.cells, Pt.slots] at X189 l189 y189 z189 st189 hQ189
          subst l189 y189 z189
          obtain ⟨hv189, Nq189, e189⟩ := hQ189
          have hz189 : eqs ([c8] : List Int32) p2 ([c4, c6] : List Int32) (z4 &&& (65535 : Int32)) = 0 := by simp [eqs]
          rw [hz189] at hv189
          subst hv189
          replace N := Fr.app N Nq189
          refine Go.by (T' := T189) (f' := (mkF m 305 LL183 [(.int (0 : Int32))])) (fun _ k => st189.trans k) ?_
          refine Go.by (T' := T189) (f' := (mkF m 307 LL183 [(.int (0 : Int32)), (.int (0 : Int32))])) (fun _ k => XS.iload X189.here hx rfl (hb hby at_305) rfl k) ?_
          refine Go.by (T' := T189) (f' := (mkF m 310 LL183 [])) (fun _ k => XS.icmpNo X189.here hx rfl (hb hby at_307) rfl (teq (by decide : (0 : Int32) = (0 : Int32))).2 k) ?_
          refine Go.by (T' := T189) (f' := (mkF m 311 LL183 [(.int (1 : Int32))])) (fun _ k => XS.iconst X189.here hx rfl (hb hby at_310) k) ?_
          refine Go.by (T' := T189) (f' := (mkF m 315 LL183 [(.int (1 : Int32))])) (fun _ k => XS.goto X189.here hx rfl (pc0 := 311) (pc' := 315) rfl (hb hby at_311) (by decide) (by decide) k) ?_
          obtain ⟨fs, hr, hrun, hended, hW, hsame⟩ := X189.leave (v := some (.int (1 : Int32))) (fun h => by rw [Bd.returns] at h; cases h)
          refine ⟨_, _, retN X189 hx (t := .boolean) Bd.returns (by simp) (hb hby at_315) hr, hrun, hended, _, _, rfl, ?_, ⟨_, rfl⟩, hW, hsame.mono (by decide) (by decide)⟩
          show Q1 n0 (some (.int (1 : Int32))) T189.heap _
          rw [e189]
          exact ⟨rfl, N⟩
        · skip
          refine Go.by (T' := T184) (f' := (mkF m 316 LL183 [])) (fun _ k => XS.ifYes X184.here hx rfl (pc0 := 283) (pc' := 316) rfl (hb hby at_283) rfl ((if0 _ _).trans (feq hc283_186).2) (by decide) (by decide) k) ?_
          refine Go.by (T' := T184) (f' := (mkF m 318 LL183 [(.int (((z0.toUInt32 >>> ((1 : Int32) &&& 31).toUInt32).toInt32) &&& (3 : Int32)))])) (fun _ k => XS.iload X184.here hx rfl (hb hby at_316) rfl k) ?_
          refine Go.by (T' := T184) (f' := (mkF m 319 LL183 [(.int (1 : Int32)), (.int (((z0.toUInt32 >>> ((1 : Int32) &&& 31).toUInt32).toInt32) &&& (3 : Int32)))])) (fun _ k => XS.iconst X184.here hx rfl (hb hby at_318) k) ?_
          by_cases hc319_191 : (((z0.toUInt32 >>> ((1 : Int32) &&& 31).toUInt32).toInt32) &&& (3 : Int32)) = (1 : Int32)
          · skip
            refine Go.by (T' := T184) (f' := (mkF m 322 LL183 [])) (fun _ k => XS.icmpNo X184.here hx rfl (hb hby at_319) rfl (teq hc319_191).2 k) ?_
            refine Go.by (T' := T184) (f' := (mkF m 323 LL183 [.null])) (fun _ k => XS.aconstNull X184.here hx rfl (hb hby at_322) k) ?_
            let LL192 : Array Slot := #[.val (.int z0), .val (.int z1), .val (.int z2), .val (.int z3), .val (.int z4), .val (.int z5), .val (.int ((1 : Int32) + (z0 &&& (1 : Int32)))), .val (.int ((1 : Int32) + (z1 &&& (1 : Int32)))), .val (.int c4), .val (.int c6), .val (.int c8), .val (.int c10), .val (.ref b157), .val (.ref b162), .val (.int (z4 &&& (65535 : Int32))), .val (.int (z5 &&& (3 : Int32))), .val (.int p2), .val (.ref b168), .val (.ref b171), .val (.ref b174), .val (.int (0 : Int32)), .val (.int (0 : Int32)), .val (.int (((z0.toUInt32 >>> ((1 : Int32) &&& 31).toUInt32).toInt32) &&& (3 : Int32))), .val .null]
            refine Go.by (T' := T184) (f' := (mkF m 325 LL192 [])) (fun _ k => XS.astore X184.here hx rfl (hb hby at_323) rfl rfl (l' := LL192) rfl k) ?_
            refine Go.by (T' := T184) (f' := (mkF m 348 LL192 [])) (fun _ k => XS.goto X184.here hx rfl (pc0 := 325) (pc' := 348) rfl (hb hby at_325) (by decide) (by decide) k) ?_
            refine Go.by (T' := T184) (f' := (mkF m 350 LL192 [(.ref b171)])) (fun _ k => XS.aload X184.here hx rfl (hb hby at_348) rfl rfl k) ?_
            refine Go.by (T' := T184) (f' := (mkF m 352 LL192 [.null, (.ref b171)])) (fun _ k => XS.aload X184.here hx rfl (hb hby at_350) rfl rfl k) ?_
            obtain ⟨cq193, kq193, q193a, q193b, q193c⟩ := isOf hZ e184 E_b171
            obtain ⟨v193, _, ⟨T193, L193, k193, n193⟩, -, X193, ⟨Lc193, hQ193, l193, y193, z193⟩, st193⟩ := X184.virtualBack hx (y := (⟨"com/example/honest_replica/honestreplica/model/Endpoint", "equals", "(Ljava/lang/Object;)Z"⟩ : MethodName)) (z := (⟨"com/example/honest_replica/honestreplica/model/Endpoint", "equals", "(Ljava/lang/Object;)Z"⟩ : MethodName)) hown (mvT hZ (hw _ (List.mem_of_getElem? (i := 52) rfl))) (mvT hZ (hw _ (List.mem_of_getElem? (i := 53) rfl))) (notFace_of_selects (args := #[]) (mvT hZ (hw _ (List.mem_of_getElem? (i := 55) rfl)))) (mvT hZ (hw _ (List.mem_of_getElem? (i := 55) rfl))) (mvT hZ (hw _ (List.mem_of_getElem? (i := 54) rfl))) (by decide) (backOf (W := 0) (rm_qn l Z a0 hw [] b171 T177.heap n0 O) hZ (hw _ (List.mem_of_getElem? (i := 56) rfl)) (hw _ (List.mem_of_getElem? (i := 37) rfl)) (by decide) (by decide)) q193a q193c (g := (mkF m 352 LL192 [.null, (.ref b171)])) rfl (by rw [hml]; rfl) (Steps.refl _) (argsL := [.null]) (rest := []) (lenOf pd_rm1_3 rfl) rfl (by show 2 * 0 + _ ≤ _; exact Nat.le_of_eq rfl) (hb hby at_352) (fun _ _ => ⟨rfl, e184, (by decide : 8 + 0 ≤ _), (by decide : 18 + 0 ≤ _)⟩)
            dsimp only [Pt.U, Pt.locs, Pt.cells, Pt.slots] at X193 l193 y193 z193 st193 hQ193
            subst l193 y193 z193
            obtain ⟨rfl, Nq193, e193⟩ := hQ193
            replace N := Fr.app N Nq193
            refine Go.by (T' := T193) (f' := (mkF m 355 LL192 [(.int (0 : Int32))])) (fun _ k => st193.trans k) ?_
            refine Go.by (T' := T193) (f' := (mkF m 358 LL192 [])) (fun _ k => XS.ifNo X193.here hx rfl (hb hby at_355) rfl ((if0 _ _).trans (teq (by decide : (0 : Int32) = (0 : Int32))).2) k) ?_
            refine Go.by (T' := T193) (f' := (mkF m 359 LL192 [(.int (1 : Int32))])) (fun _ k => XS.iconst X193.here hx rfl (hb hby at_358) k) ?_
            refine Go.by (T' := T193) (f' := (mkF m 363 LL192 [(.int (1 : Int32))])) (fun _ k => XS.goto X193.here hx rfl (pc0 := 359) (pc' := 363) rfl (hb hby at_359) (by decide) (by decide) k) ?_
            obtain ⟨fs, hr, hrun, hended, hW, hsame⟩ := X193.leave (v := some (.int (1 : Int32))) (fun h => by rw [Bd.returns] at h; cases h)
            refine ⟨_, _, retN X193 hx (t := .boolean) Bd.returns (by simp) (hb hby at_363) hr, hrun, hended, _, _, rfl, ?_, ⟨_, rfl⟩, hW, hsame.mono (by decide) (by decide)⟩
            show Q1 n0 (some (.int (1 : Int32))) T193.heap _
            rw [e193]
            exact ⟨rfl, N⟩
          · skip
            refine Go.by (T' := T184) (f' := (mkF m 328 LL183 [])) (fun _ k => XS.icmpYes X184.here hx rfl (pc0 := 319) (pc' := 328) rfl (hb hby at_319) rfl (feq hc319_191).2 (by decide) (by decide) k) ?_
            refine Go.by (T' := T184) (f' := (mkF m 330 LL183 [(.int (((z0.toUInt32 >>> ((1 : Int32) &&& 31).toUInt32).toInt32) &&& (3 : Int32)))])) (fun _ k => XS.iload X184.here hx rfl (hb hby at_328) rfl k) ?_
            refine Go.by (T' := T184) (f' := (mkF m 331 LL183 [(.int (2 : Int32)), (.int (((z0.toUInt32 >>> ((1 : Int32) &&& 31).toUInt32).toInt32) &&& (3 : Int32)))])) (fun _ k => XS.iconst X184.here hx rfl (hb hby at_330) k) ?_
            by_cases hc331_195 : (((z0.toUInt32 >>> ((1 : Int32) &&& 31).toUInt32).toInt32) &&& (3 : Int32)) = (2 : Int32)
            · skip
              refine Go.by (T' := T184) (f' := (mkF m 334 LL183 [])) (fun _ k => XS.icmpNo X184.here hx rfl (hb hby at_331) rfl (teq hc331_195).2 k) ?_
              refine Go.by (T' := T184) (f' := (mkF m 336 LL183 [(.ref b168)])) (fun _ k => XS.aload X184.here hx rfl (hb hby at_334) rfl rfl k) ?_
              let LL196 : Array Slot := #[.val (.int z0), .val (.int z1), .val (.int z2), .val (.int z3), .val (.int z4), .val (.int z5), .val (.int ((1 : Int32) + (z0 &&& (1 : Int32)))), .val (.int ((1 : Int32) + (z1 &&& (1 : Int32)))), .val (.int c4), .val (.int c6), .val (.int c8), .val (.int c10), .val (.ref b157), .val (.ref b162), .val (.int (z4 &&& (65535 : Int32))), .val (.int (z5 &&& (3 : Int32))), .val (.int p2), .val (.ref b168), .val (.ref b171), .val (.ref b174), .val (.int (0 : Int32)), .val (.int (0 : Int32)), .val (.int (((z0.toUInt32 >>> ((1 : Int32) &&& 31).toUInt32).toInt32) &&& (3 : Int32))), .val (.ref b168)]
              refine Go.by (T' := T184) (f' := (mkF m 338 LL196 [])) (fun _ k => XS.astore X184.here hx rfl (hb hby at_336) rfl rfl (l' := LL196) rfl k) ?_
              refine Go.by (T' := T184) (f' := (mkF m 348 LL196 [])) (fun _ k => XS.goto X184.here hx rfl (pc0 := 338) (pc' := 348) rfl (hb hby at_338) (by decide) (by decide) k) ?_
              refine Go.by (T' := T184) (f' := (mkF m 350 LL196 [(.ref b171)])) (fun _ k => XS.aload X184.here hx rfl (hb hby at_348) rfl rfl k) ?_
              refine Go.by (T' := T184) (f' := (mkF m 352 LL196 [(.ref b168), (.ref b171)])) (fun _ k => XS.aload X184.here hx rfl (hb hby at_350) rfl rfl k) ?_
              obtain ⟨cq197, kq197, q197a, q197b, q197c⟩ := isOf hZ e184 E_b171
              obtain ⟨v197, _, ⟨T197, L197, k197, n197⟩, -, X197, ⟨Lc197, hQ197, l197, y197, z197⟩, st197⟩ := X184.virtualBack hx (y := (⟨"com/example/honest_replica/honestreplica/model/Endpoint", "equals", "(Ljava/lang/Object;)Z"⟩ : MethodName)) (z := (⟨"com/example/honest_replica/honestreplica/model/Endpoint", "equals", "(Ljava/lang/Object;)Z"⟩ : MethodName)) hown (mvT hZ (hw _ (List.mem_of_getElem? (i := 52) rfl))) (mvT hZ (hw _ (List.mem_of_getElem? (i := 53) rfl))) (notFace_of_selects (args := #[]) (mvT hZ (hw _ (List.mem_of_getElem? (i := 55) rfl)))) (mvT hZ (hw _ (List.mem_of_getElem? (i := 55) rfl))) (mvT hZ (hw _ (List.mem_of_getElem? (i := 54) rfl))) (by decide) (backOf (W := 0) (rm_qs l Z a0 hw [] b171 b168 T177.heap n0 O E_b168) hZ (hw _ (List.mem_of_getElem? (i := 56) rfl)) (hw _ (List.mem_of_getElem? (i := 37) rfl)) (by decide) (by decide)) q197a q197c (g := (mkF m 352 LL196 [(.ref b168), (.ref b171)])) rfl (by rw [hml]; rfl) (Steps.refl _) (argsL := [(.ref b168)]) (rest := []) (lenOf pd_rm1_3 rfl) rfl (by show 2 * 0 + _ ≤ _; exact Nat.le_of_eq rfl) (hb hby at_352) (fun _ _ => ⟨rfl, e184, (by decide : 8 + 0 ≤ _), (by decide : 18 + 0 ≤ _)⟩)
              dsimp only [Pt.U, Pt.locs, Pt.cells, Pt.slots] at X197 l197 y197 z197 st197 hQ197
              subst l197 y197 z197
              obtain ⟨rfl, Nq197, e197⟩ := hQ197
              replace N := Fr.app N Nq197
              refine Go.by (T' := T197) (f' := (mkF m 355 LL196 [(.int (0 : Int32))])) (fun _ k => st197.trans k) ?_
              refine Go.by (T' := T197) (f' := (mkF m 358 LL196 [])) (fun _ k => XS.ifNo X197.here hx rfl (hb hby at_355) rfl ((if0 _ _).trans (teq (by decide : (0 : Int32) = (0 : Int32))).2) k) ?_
              refine Go.by (T' := T197) (f' := (mkF m 359 LL196 [(.int (1 : Int32))])) (fun _ k => XS.iconst X197.here hx rfl (hb hby at_358) k) ?_
              refine Go.by (T' := T197) (f' := (mkF m 363 LL196 [(.int (1 : Int32))])) (fun _ k => XS.goto X197.here hx rfl (pc0 := 359) (pc' := 363) rfl (hb hby at_359) (by decide) (by decide) k) ?_
              obtain ⟨fs, hr, hrun, hended, hW, hsame⟩ := X197.leave (v := some (.int (1 : Int32))) (fun h => by rw [Bd.returns] at h; cases h)
              refine ⟨_, _, retN X197 hx (t := .boolean) Bd.returns (by simp) (hb hby at_363) hr, hrun, hended, _, _, rfl, ?_, ⟨_, rfl⟩, hW, hsame.mono (by decide) (by decide)⟩
              show Q1 n0 (some (.int (1 : Int32))) T197.heap _
              rw [e197]
              exact ⟨rfl, N⟩
            · skip
              refine Go.by (T' := T184) (f' := (mkF m 341 LL183 [])) (fun _ k => XS.icmpYes X184.here hx rfl (pc0 := 331) (pc' := 341) rfl (hb hby at_331) rfl (feq hc331_195).2 (by decide) (by decide) k) ?_
              refine Go.by (T' := T184) (f' := (mkF m 343 LL183 [(.int (z4 &&& (65535 : Int32)))])) (fun _ k => XS.iload X184.here hx rfl (hb hby at_341) rfl k) ?_
              obtain ⟨v199, _, ⟨T199, L199, k199, n199⟩, -, X199, ⟨Lc199, hQ199, l199, y199, z199⟩, st199⟩ := Jvm.LawKit.callS X184 hx (y := (⟨"java/lang/Integer", "valueOf", "(I)Ljava/lang/Integer;"⟩ : MethodName)) hown (mvT hZ (hw _ (List.mem_of_getElem? (i := 71) rfl))) (mvT hZ (hw _ (List.mem_of_getElem? (i := 72) rfl))) (mvT hZ (hw _ (List.mem_of_getElem? (i := 73) rfl))) (mvT hZ (hw _ (List.mem_of_getElem? (i := 74) rfl))) (by decide) (backOf (W := 0) (rm_vo l Z a0 hw [] (z4 &&& (65535 : Int32)) wc cl zc hS T177.heap n0 O) hZ (hw _ (List.mem_of_getElem? (i := 74) rfl)) (hw _ (List.mem_of_getElem? (i := 73) rfl)) (by decide) (by decide)) (g := (mkF m 343 LL183 [(.int (z4 &&& (65535 : Int32)))])) rfl (by rw [hml]; rfl) (argsL := [(.int (z4 &&& (65535 : Int32)))]) (rest := []) (lenOf pd_rm1_4 rfl) rfl (by show 2 * 0 + _ ≤ _; exact Nat.le_of_eq rfl) (hb hby at_343) (fun _ _ => ⟨rfl, e184, (by decide : 8 + 1 ≤ _), (by decide : 18 + 1 ≤ _)⟩)
              dsimp only [Pt.U, Pt.locs, Pt.cells, Pt.slots] at X199 l199 y199 z199 st199 hQ199
              subst l199 y199 z199
              obtain ⟨bx199, rfl, Nq199, K199, E_bx199⟩ := hQ199
              replace N := Fr.app N Nq199
              replace V_b157 := V_b157.keep K199 nin0
              replace V_b162 := V_b162.keep K199 nin0
              replace E_b168 := E_b168.keep K199
              replace Gc169 := Gc169.keep K199 nin0
              replace Gv169 := Gv169.keep K199 nin0
              replace Vt169 := Vt169.keep K199 nin0
              replace E_b171 := E_b171.keep K199
              replace Gh172 := Gh172.keep K199 nin0
              replace Gp172 := Gp172.keep K199 nin0
              replace E_b174 := E_b174.keep K199
              replace E_b175 := E_b175.keep K199
              replace Gc176 := Gc176.keep K199 nin0
              replace Gv176 := Gv176.keep K199 nin0
              replace Vt176 := Vt176.keep K199 nin0
              replace Gh177 := Gh177.keep K199 nin0
              replace Gp177 := Gp177.keep K199 nin0
              replace O := O.keep K199 all0
              replace K := K.trans K199 all0
              refine Go.by (T' := T199) (f' := (mkF m 346 LL183 [(.ref bx199)])) (st199) ?_
              let LL200 : Array Slot := #[.val (.int z0), .val (.int z1), .val (.int z2), .val (.int z3), .val (.int z4), .val (.int z5), .val (.int ((1 : Int32) + (z0 &&& (1 : Int32)))), .val (.int ((1 : Int32) + (z1 &&& (1 : Int32)))), .val (.int c4), .val (.int c6), .val (.int c8), .val (.int c10), .val (.ref b157), .val (.ref b162), .val (.int (z4 &&& (65535 : Int32))), .val (.int (z5 &&& (3 : Int32))), .val (.int p2), .val (.ref b168), .val (.ref b171), .val (.ref b174), .val (.int (0 : Int32)), .val (.int (0 : Int32)), .val (.int (((z0.toUInt32 >>> ((1 : Int32) &&& 31).toUInt32).toInt32) &&& (3 : Int32))), .val (.ref bx199)]
              refine Go.by (T' := T199) (f' := (mkF m 348 LL200 [])) (fun _ k => XS.astore X199.here hx rfl (hb hby at_346) rfl rfl (l' := LL200) rfl k) ?_
              refine Go.by (T' := T199) (f' := (mkF m 350 LL200 [(.ref b171)])) (fun _ k => XS.aload X199.here hx rfl (hb hby at_348) rfl rfl k) ?_
              refine Go.by (T' := T199) (f' := (mkF m 352 LL200 [(.ref bx199), (.ref b171)])) (fun _ k => XS.aload X199.here hx rfl (hb hby at_350) rfl rfl k) ?_
              obtain ⟨cq201, kq201, q201a, q201b, q201c⟩ := isOf hZ rfl E_b171
              obtain ⟨v201, _, ⟨T201, L201, k201, n201⟩, -, X201, ⟨Lc201, hQ201, l201, y201, z201⟩, st201⟩ := X199.virtualBack hx (y := (⟨"com/example/honest_replica/honestreplica/model/Endpoint", "equals", "(Ljava/lang/Object;)Z"⟩ : MethodName)) (z := (⟨"com/example/honest_replica/honestreplica/model/Endpoint", "equals", "(Ljava/lang/Object;)Z"⟩ : MethodName)) hown (mvT hZ (hw _ (List.mem_of_getElem? (i := 52) rfl))) (mvT hZ (hw _ (List.mem_of_getElem? (i := 53) rfl))) (notFace_of_selects (args := #[]) (mvT hZ (hw _ (List.mem_of_getElem? (i := 55) rfl)))) (mvT hZ (hw _ (List.mem_of_getElem? (i := 55) rfl))) (mvT hZ (hw _ (List.mem_of_getElem? (i := 54) rfl))) (by decide) (backOf (W := 0) (rm_qi l Z a0 hw [] b171 bx199 T199.heap n0 O E_bx199) hZ (hw _ (List.mem_of_getElem? (i := 56) rfl)) (hw _ (List.mem_of_getElem? (i := 37) rfl)) (by decide) (by decide)) q201a q201c (g := (mkF m 352 LL200 [(.ref bx199), (.ref b171)])) rfl (by rw [hml]; rfl) (Steps.refl _) (argsL := [(.ref bx199)]) (rest := []) (lenOf pd_rm1_3 rfl) rfl (by show 2 * 0 + _ ≤ _; exact Nat.le_of_eq rfl) (hb hby at_352) (fun _ _ => ⟨rfl, rfl, (by decide : 9 + 0 ≤ _), (by decide : 19 + 0 ≤ _)⟩)
              dsimp only [Pt.U, Pt.locs, Pt.cells, Pt.slots] at X201 l201 y201 z201 st201 hQ201
              subst l201 y201 z201
              obtain ⟨rfl, Nq201, e201⟩ := hQ201
              replace N := Fr.app N Nq201
              refine Go.by (T' := T201) (f' := (mkF m 355 LL200 [(.int (0 : Int32))])) (fun _ k => st201.trans k) ?_
              refine Go.by (T' := T201) (f' := (mkF m 358 LL200 [])) (fun _ k => XS.ifNo X201.here hx rfl (hb hby at_355) rfl ((if0 _ _).trans (teq (by decide : (0 : Int32) = (0 : Int32))).2) k) ?_
              refine Go.by (T' := T201) (f' := (mkF m 359 LL200 [(.int (1 : Int32))])) (fun _ k => XS.iconst X201.here hx rfl (hb hby at_358) k) ?_
              refine Go.by (T' := T201) (f' := (mkF m 363 LL200 [(.int (1 : Int32))])) (fun _ k => XS.goto X201.here hx rfl (pc0 := 359) (pc' := 363) rfl (hb hby at_359) (by decide) (by decide) k) ?_
              obtain ⟨fs, hr, hrun, hended, hW, hsame⟩ := X201.leave (v := some (.int (1 : Int32))) (fun h => by rw [Bd.returns] at h; cases h)
              refine ⟨_, _, retN X201 hx (t := .boolean) Bd.returns (by simp) (hb hby at_363) hr, hrun, hended, _, _, rfl, ?_, ⟨_, rfl⟩, hW, hsame.mono (by decide) (by decide)⟩
              show Q1 n0 (some (.int (1 : Int32))) T201.heap _
              rw [e201]
              exact ⟨rfl, N⟩
      refine Go.by (T' := T163) (f' := (mkF m 123 LL166 [(.int (z5 &&& (3 : Int32)))])) (fun _ k => XS.iload X163.here hx rfl (hb hby at_121) rfl k) ?_
      by_cases hc123_203 : (z5 &&& (3 : Int32)) = (0 : Int32)
      · skip
        refine Go.by (T' := T163) (f' := (mkF m 126 LL166 [])) (fun _ k => XS.ifNo X163.here hx rfl (hb hby at_123) rfl ((if0 _ _).trans (teq hc123_203).2) k) ?_
        refine Go.by (T' := T163) (f' := (mkF m 128 LL166 [(.int (z4 &&& (65535 : Int32)))])) (fun _ k => XS.iload X163.here hx rfl (hb hby at_126) rfl k) ?_
        let LL204 : Array Slot := #[.val (.int z0), .val (.int z1), .val (.int z2), .val (.int z3), .val (.int z4), .val (.int z5), .val (.int ((1 : Int32) + (z0 &&& (1 : Int32)))), .val (.int ((1 : Int32) + (z1 &&& (1 : Int32)))), .val (.int c4), .val (.int c6), .val (.int c8), .val (.int c10), .val (.ref b157), .val (.ref b162), .val (.int (z4 &&& (65535 : Int32))), .val (.int (z5 &&& (3 : Int32))), .val (.int (z4 &&& (65535 : Int32))), .unset, .unset, .unset, .unset, .unset, .unset, .unset]
        refine Go.by (T' := T163) (f' := (mkF m 130 LL204 [])) (fun _ k => XS.istore X163.here hx rfl (hb hby at_128) rfl (l' := LL204) rfl k) ?_
        refine Go.by (T' := T163) (f' := (mkF m 165 LL204 [])) (fun _ k => XS.goto X163.here hx rfl (pc0 := 130) (pc' := 165) rfl (hb hby at_130) (by decide) (by decide) k) ?_
        exact key _ (own_p16 _)
      · skip
        refine Go.by (T' := T163) (f' := (mkF m 133 LL166 [])) (fun _ k => XS.ifYes X163.here hx rfl (pc0 := 123) (pc' := 133) rfl (hb hby at_123) rfl ((if0 _ _).trans (feq hc123_203).2) (by decide) (by decide) k) ?_
        refine Go.by (T' := T163) (f' := (mkF m 135 LL166 [(.int (z5 &&& (3 : Int32)))])) (fun _ k => XS.iload X163.here hx rfl (hb hby at_133) rfl k) ?_
        refine Go.by (T' := T163) (f' := (mkF m 136 LL166 [(.int (1 : Int32)), (.int (z5 &&& (3 : Int32)))])) (fun _ k => XS.iconst X163.here hx rfl (hb hby at_135) k) ?_
        by_cases hc136_205 : (z5 &&& (3 : Int32)) = (1 : Int32)
        · skip
          refine Go.by (T' := T163) (f' := (mkF m 139 LL166 [])) (fun _ k => XS.icmpNo X163.here hx rfl (hb hby at_136) rfl (teq hc136_205).2 k) ?_
          refine Go.by (T' := T163) (f' := (mkF m 141 LL166 [(.int (z4 &&& (65535 : Int32)))])) (fun _ k => XS.iload X163.here hx rfl (hb hby at_139) rfl k) ?_
          refine Go.by (T' := T163) (f' := (mkF m 142 LL166 [(.int (1 : Int32)), (.int (z4 &&& (65535 : Int32)))])) (fun _ k => XS.iconst X163.here hx rfl (hb hby at_141) k) ?_
          refine Go.by (T' := T163) (f' := (mkF m 144 LL166 [(.int z5), (.int (1 : Int32)), (.int (z4 &&& (65535 : Int32)))])) (fun _ k => XS.iload X163.here hx rfl (hb hby at_142) rfl k) ?_
          refine Go.by (T' := T163) (f' := (mkF m 145 LL166 [(.int (2 : Int32)), (.int z5), (.int (1 : Int32)), (.int (z4 &&& (65535 : Int32)))])) (fun _ k => XS.iconst X163.here hx rfl (hb hby at_144) k) ?_
          refine Go.by (T' := T163) (f' := (mkF m 146 LL166 [(.int ((z5.toUInt32 >>> ((2 : Int32) &&& 31).toUInt32).toInt32)), (.int (1 : Int32)), (.int (z4 &&& (65535 : Int32)))])) (fun _ k => XS.iushr X163.here hx rfl (hb hby at_145) rfl k) ?_
          refine Go.by (T' := T163) (f' := (mkF m 148 LL166 [(.int (15 : Int32)), (.int ((z5.toUInt32 >>> ((2 : Int32) &&& 31).toUInt32).toInt32)), (.int (1 : Int32)), (.int (z4 &&& (65535 : Int32)))])) (fun _ k => XS.bipush X163.here hx rfl (hb hby at_146) k) ?_
          refine Go.by (T' := T163) (f' := (mkF m 149 LL166 [(.int (((z5.toUInt32 >>> ((2 : Int32) &&& 31).toUInt32).toInt32) &&& (15 : Int32))), (.int (1 : Int32)), (.int (z4 &&& (65535 : Int32)))])) (fun _ k => XS.iand X163.here hx rfl (hb hby at_148) rfl k) ?_
          refine Go.by (T' := T163) (f' := (mkF m 150 LL166 [(.int ((1 : Int32) <<< ((((z5.toUInt32 >>> ((2 : Int32) &&& 31).toUInt32).toInt32) &&& (15 : Int32)) &&& 31))), (.int (z4 &&& (65535 : Int32)))])) (fun _ k => XS.ishl X163.here hx rfl (hb hby at_149) rfl k) ?_
          refine Go.by (T' := T163) (f' := (mkF m 151 LL166 [(.int ((z4 &&& (65535 : Int32)) ^^^ ((1 : Int32) <<< ((((z5.toUInt32 >>> ((2 : Int32) &&& 31).toUInt32).toInt32) &&& (15 : Int32)) &&& 31))))])) (fun _ k => XS.ixor X163.here hx rfl (hb hby at_150) rfl k) ?_
          let LL206 : Array Slot := #[.val (.int z0), .val (.int z1), .val (.int z2), .val (.int z3), .val (.int z4), .val (.int z5), .val (.int ((1 : Int32) + (z0 &&& (1 : Int32)))), .val (.int ((1 : Int32) + (z1 &&& (1 : Int32)))), .val (.int c4), .val (.int c6), .val (.int c8), .val (.int c10), .val (.ref b157), .val (.ref b162), .val (.int (z4 &&& (65535 : Int32))), .val (.int (z5 &&& (3 : Int32))), .val (.int ((z4 &&& (65535 : Int32)) ^^^ ((1 : Int32) <<< ((((z5.toUInt32 >>> ((2 : Int32) &&& 31).toUInt32).toInt32) &&& (15 : Int32)) &&& 31)))), .unset, .unset, .unset, .unset, .unset, .unset, .unset]
          refine Go.by (T' := T163) (f' := (mkF m 153 LL206 [])) (fun _ k => XS.istore X163.here hx rfl (hb hby at_151) rfl (l' := LL206) rfl k) ?_
          refine Go.by (T' := T163) (f' := (mkF m 165 LL206 [])) (fun _ k => XS.goto X163.here hx rfl (pc0 := 153) (pc' := 165) rfl (hb hby at_153) (by decide) (by decide) k) ?_
          exact key _ (own_x16 _ _)
        · skip
          refine Go.by (T' := T163) (f' := (mkF m 156 LL166 [])) (fun _ k => XS.icmpYes X163.here hx rfl (pc0 := 136) (pc' := 156) rfl (hb hby at_136) rfl (feq hc136_205).2 (by decide) (by decide) k) ?_
          refine Go.by (T' := T163) (f' := (mkF m 158 LL166 [(.int z5)])) (fun _ k => XS.iload X163.here hx rfl (hb hby at_156) rfl k) ?_
          refine Go.by (T' := T163) (f' := (mkF m 159 LL166 [(.int (2 : Int32)), (.int z5)])) (fun _ k => XS.iconst X163.here hx rfl (hb hby at_158) k) ?_
          refine Go.by (T' := T163) (f' := (mkF m 160 LL166 [(.int ((z5.toUInt32 >>> ((2 : Int32) &&& 31).toUInt32).toInt32))])) (fun _ k => XS.iushr X163.here hx rfl (hb hby at_159) rfl k) ?_
          refine Go.by (T' := T163) (f' := (mkF m 162 LL166 [(.int (65535 : Int32)), (.int ((z5.toUInt32 >>> ((2 : Int32) &&& 31).toUInt32).toInt32))])) (X163.ldcInt hx hown (mvT hZ (hw _ (List.mem_of_getElem? (i := 5) rfl))) (g := (mkF m 160 LL166 [(.int ((z5.toUInt32 >>> ((2 : Int32) &&& 31).toUInt32).toInt32))])) rfl (hb hby at_160)) ?_
          refine Go.by (T' := T163) (f' := (mkF m 163 LL166 [(.int (((z5.toUInt32 >>> ((2 : Int32) &&& 31).toUInt32).toInt32) &&& (65535 : Int32)))])) (fun _ k => XS.iand X163.here hx rfl (hb hby at_162) rfl k) ?_
          let LL207 : Array Slot := #[.val (.int z0), .val (.int z1), .val (.int z2), .val (.int z3), .val (.int z4), .val (.int z5), .val (.int ((1 : Int32) + (z0 &&& (1 : Int32)))), .val (.int ((1 : Int32) + (z1 &&& (1 : Int32)))), .val (.int c4), .val (.int c6), .val (.int c8), .val (.int c10), .val (.ref b157), .val (.ref b162), .val (.int (z4 &&& (65535 : Int32))), .val (.int (z5 &&& (3 : Int32))), .val (.int (((z5.toUInt32 >>> ((2 : Int32) &&& 31).toUInt32).toInt32) &&& (65535 : Int32))), .unset, .unset, .unset, .unset, .unset, .unset, .unset]
          refine Go.by (T' := T163) (f' := (mkF m 165 LL207 [])) (fun _ k => XS.istore X163.here hx rfl (hb hby at_163) rfl (l' := LL207) rfl k) ?_
          exact key _ (own_p16 _)
    · skip
      refine Go.by (T' := T159) (f' := (mkF m 93 LL160 [])) (fun _ k => XS.icmpYes X159.here hx rfl (pc0 := 79) (pc' := 93) rfl (hb hby at_79) rfl (feq hc79_161).2 (by decide) (by decide) k) ?_
      refine Go.by (T' := T159) (f' := (mkF m 94 LL160 [(.int (2 : Int32))])) (fun _ k => XS.iconst X159.here hx rfl (hb hby at_93) k) ?_
      obtain ⟨T208, h208, k208, X208, e208, E208, A208, st208⟩ := newP X159 hx hZ (hw _ (List.mem_of_getElem? (i := 4) rfl)) e159 (g := (mkF m 94 LL160 [(.int (2 : Int32))])) rfl (hb hby at_94) rfl (by decide) (cap := 2) (by decide) (by decide) (by decide) (by decide)
      obtain ⟨b208, g208⟩ : ∃ z, z = h159.size := ⟨_, rfl⟩
      rw [← g208] at A208 st208
      have ne_b157_b208 : b157 ≠ b208 := Nat.ne_of_lt (Nat.lt_of_lt_of_le V_b157.lt (Nat.le_of_eq g208.symm))
      have g_b208 : n0 ≤ b208 := Nat.le_trans (Old.le O) (Nat.le_of_eq g208.symm)
      have sz_b208 : h0.size ≤ b208 := Nat.le_trans K.1 (Nat.le_of_eq g208.symm)
      replace V_b157 := V_b157.ext E208
      replace O := O.ext E208
      replace K := K.ext E208
      have V_b208 : Arv Z h208 b208 k208 .char (2 : Int32) [(.int (0 : Int32)), (.int (0 : Int32))] (.int (0 : Int32)) := (Arv.new A208 (by decide)).pad (pad_rep [] (.int (0 : Int32)) 2)
      refine Go.by (T' := T208) (f' := (mkF m 96 LL160 [(.ref b208)])) (st208) ?_
      refine Go.by (T' := T208) (f' := (mkF m 97 LL160 [(.ref b208), (.ref b208)])) (fun _ k => XS.dup X208.here hx rfl (hb hby at_96) rfl rfl k) ?_
      refine Go.by (T' := T208) (f' := (mkF m 98 LL160 [(.int (0 : Int32)), (.ref b208), (.ref b208)])) (fun _ k => XS.iconst X208.here hx rfl (hb hby at_97) k) ?_
      refine Go.by (T' := T208) (f' := (mkF m 100 LL160 [(.int c8), (.int (0 : Int32)), (.ref b208), (.ref b208)])) (fun _ k => XS.iload X208.here hx rfl (hb hby at_98) rfl k) ?_
      obtain ⟨cl209, Ar209, q209, S209, N209', H209, G209⟩ := V_b208
      obtain ⟨T209, h209, X209, e209, W209, st209⟩ := stC X208 hx hZ e208 Ar209 (j := (0 : Int32)) (inb_of S209 ⟨by decide, by decide⟩) (g := (mkF m 100 LL160 [(.int c8), (.int (0 : Int32)), (.ref b208), (.ref b208)])) rfl rfl (hb hby at_100)
      replace V_b157 := V_b157.other W209 ne_b157_b208
      replace V_b208 := Arv.set Ar209 q209 S209 N209' H209 G209 (fits_nar_char _) W209 0 rfl (Nat.le_of_ble_eq_true rfl)
      change Arv Z h209 b208 k208 .char (2 : Int32) [(.int (nar .char c8)), (.int (0 : Int32))] _ at V_b208
      rw [own_nar c8 hb8] at V_b208
      replace O := O.wr W209 g_b208
      replace K := K.wr W209 (Or.inr sz_b208)
      replace N := Fr.snoc X209 N g_b208
      refine Go.by (T' := T209) (f' := (mkF m 101 LL160 [(.ref b208)])) (st209) ?_
      refine Go.by (T' := T209) (f' := (mkF m 102 LL160 [(.ref b208), (.ref b208)])) (fun _ k => XS.dup X209.here hx rfl (hb hby at_101) rfl rfl k) ?_
      refine Go.by (T' := T209) (f' := (mkF m 103 LL160 [(.int (1 : Int32)), (.ref b208), (.ref b208)])) (fun _ k => XS.iconst X209.here hx rfl (hb hby at_102) k) ?_
      refine Go.by (T' := T209) (f' := (mkF m 105 LL160 [(.int c10), (.int (1 : Int32)), (.ref b208), (.ref b208)])) (fun _ k => XS.iload X209.here hx rfl (hb hby at_103) rfl k) ?_
      obtain ⟨cl210, Ar210, q210, S210, N210', H210, G210⟩ := V_b208
      obtain ⟨T210, h210, X210, e210, W210, st210⟩ := stC X209 hx hZ e209 Ar210 (j := (1 : Int32)) (inb_of S210 ⟨by decide, by decide⟩) (g := (mkF m 105 LL160 [(.int c10), (.int (1 : Int32)), (.ref b208), (.ref b208)])) rfl rfl (hb hby at_105)
      replace V_b157 := V_b157.other W210 ne_b157_b208
      replace V_b208 := Arv.set Ar210 q210 S210 N210' H210 G210 (fits_nar_char _) W210 1 rfl (Nat.le_of_ble_eq_true rfl)
      change Arv Z h210 b208 k208 .char (2 : Int32) [(.int c8), (.int (nar .char c10))] _ at V_b208
      rw [own_nar c10 hb10] at V_b208
      replace O := O.wr W210 g_b208
      replace K := K.wr W210 (Or.inr sz_b208)
      replace N := Fr.snoc X210 N g_b208
      refine Go.by (T' := T210) (f' := (mkF m 106 LL160 [(.ref b208)])) (st210) ?_
      let LL211 : Array Slot := #[.val (.int z0), .val (.int z1), .val (.int z2), .val (.int z3), .val (.int z4), .val (.int z5), .val (.int ((1 : Int32) + (z0 &&& (1 : Int32)))), .val (.int ((1 : Int32) + (z1 &&& (1 : Int32)))), .val (.int c4), .val (.int c6), .val (.int c8), .val (.int c10), .val (.ref b157), .val (.ref b208), .unset, .unset, .unset, .unset, .unset, .unset, .unset, .unset, .unset, .unset]
      refine Go.by (T' := T210) (f' := (mkF m 108 LL211 [])) (fun _ k => XS.astore X210.here hx rfl (hb hby at_106) rfl rfl (l' := LL211) rfl k) ?_
      refine Go.by (T' := T210) (f' := (mkF m 110 LL211 [(.int z4)])) (fun _ k => XS.iload X210.here hx rfl (hb hby at_108) rfl k) ?_
      refine Go.by (T' := T210) (f' := (mkF m 112 LL211 [(.int (65535 : Int32)), (.int z4)])) (X210.ldcInt hx hown (mvT hZ (hw _ (List.mem_of_getElem? (i := 5) rfl))) (g := (mkF m 110 LL211 [(.int z4)])) rfl (hb hby at_110)) ?_
      refine Go.by (T' := T210) (f' := (mkF m 113 LL211 [(.int (z4 &&& (65535 : Int32)))])) (fun _ k => XS.iand X210.here hx rfl (hb hby at_112) rfl k) ?_
      let LL212 : Array Slot := #[.val (.int z0), .val (.int z1), .val (.int z2), .val (.int z3), .val (.int z4), .val (.int z5), .val (.int ((1 : Int32) + (z0 &&& (1 : Int32)))), .val (.int ((1 : Int32) + (z1 &&& (1 : Int32)))), .val (.int c4), .val (.int c6), .val (.int c8), .val (.int c10), .val (.ref b157), .val (.ref b208), .val (.int (z4 &&& (65535 : Int32))), .unset, .unset, .unset, .unset, .unset, .unset, .unset, .unset, .unset]
      refine Go.by (T' := T210) (f' := (mkF m 115 LL212 [])) (fun _ k => XS.istore X210.here hx rfl (hb hby at_113) rfl (l' := LL212) rfl k) ?_
      refine Go.by (T' := T210) (f' := (mkF m 117 LL212 [(.int z5)])) (fun _ k => XS.iload X210.here hx rfl (hb hby at_115) rfl k) ?_
      refine Go.by (T' := T210) (f' := (mkF m 118 LL212 [(.int (3 : Int32)), (.int z5)])) (fun _ k => XS.iconst X210.here hx rfl (hb hby at_117) k) ?_
      refine Go.by (T' := T210) (f' := (mkF m 119 LL212 [(.int (z5 &&& (3 : Int32)))])) (fun _ k => XS.iand X210.here hx rfl (hb hby at_118) rfl k) ?_
      let LL213 : Array Slot := #[.val (.int z0), .val (.int z1), .val (.int z2), .val (.int z3), .val (.int z4), .val (.int z5), .val (.int ((1 : Int32) + (z0 &&& (1 : Int32)))), .val (.int ((1 : Int32) + (z1 &&& (1 : Int32)))), .val (.int c4), .val (.int c6), .val (.int c8), .val (.int c10), .val (.ref b157), .val (.ref b208), .val (.int (z4 &&& (65535 : Int32))), .val (.int (z5 &&& (3 : Int32))), .unset, .unset, .unset, .unset, .unset, .unset, .unset, .unset]
      refine Go.by (T' := T210) (f' := (mkF m 121 LL213 [])) (fun _ k => XS.istore X210.here hx rfl (hb hby at_119) rfl (l' := LL213) rfl k) ?_
      have key : ∀ p2 : Int32, (¬ p2 < 0 ∧ ¬ (65535 : Int32) < p2) → Go p e below (fun o U' => ∃ v L, o = .returned v ∧ Q1 n0 v U'.heap L ∧ FrameEnd s o U' L 32 128) T210 (mkF m 165 #[.val (.int z0), .val (.int z1), .val (.int z2), .val (.int z3), .val (.int z4), .val (.int z5), .val (.int ((1 : Int32) + (z0 &&& (1 : Int32)))), .val (.int ((1 : Int32) + (z1 &&& (1 : Int32)))), .val (.int c4), .val (.int c6), .val (.int c8), .val (.int c10), .val (.ref b157), .val (.ref b208), .val (.int (z4 &&& (65535 : Int32))), .val (.int (z5 &&& (3 : Int32))), .val (.int p2), .unset, .unset, .unset, .unset, .unset, .unset, .unset] []) := by
        intro p2 hp2
        let LL214 : Array Slot := #[.val (.int z0), .val (.int z1), .val (.int z2), .val (.int z3), .val (.int z4), .val (.int z5), .val (.int ((1 : Int32) + (z0 &&& (1 : Int32)))), .val (.int ((1 : Int32) + (z1 &&& (1 : Int32)))), .val (.int c4), .val (.int c6), .val (.int c8), .val (.int c10), .val (.ref b157), .val (.ref b208), .val (.int (z4 &&& (65535 : Int32))), .val (.int (z5 &&& (3 : Int32))), .val (.int p2), .unset, .unset, .unset, .unset, .unset, .unset, .unset]
        obtain ⟨T215, h215, X215, e215, E215, A215, D215, -, st215⟩ := newO X210 hx hZ hown (hw _ (List.mem_of_getElem? (i := 6) rfl)) (hw _ (List.mem_of_getElem? (i := 7) rfl)) (hw _ (List.mem_of_getElem? (i := 8) rfl)) e210 (g := (mkF m 165 LL214 [])) rfl (hb hby at_165) (by decide) (by decide)
        obtain ⟨b215, g215⟩ : ∃ z, z = h210.size := ⟨_, rfl⟩
        rw [← g215] at A215 D215 st215
        have ne_b157_b215 : b157 ≠ b215 := Nat.ne_of_lt (Nat.lt_of_lt_of_le V_b157.lt (Nat.le_of_eq g215.symm))
        have ne_b208_b215 : b208 ≠ b215 := Nat.ne_of_lt (Nat.lt_of_lt_of_le V_b208.lt (Nat.le_of_eq g215.symm))
        have g_b215 : n0 ≤ b215 := Nat.le_trans (Old.le O) (Nat.le_of_eq g215.symm)
        have sz_b215 : h0.size ≤ b215 := Nat.le_trans K.1 (Nat.le_of_eq g215.symm)
        replace V_b157 := V_b157.ext E215
        replace V_b208 := V_b208.ext E215
        replace O := O.ext E215
        replace K := K.ext E215
        have E_b215 := A215
        have F_coder_b215 : Fld Z h215 b215 "java/lang/String" "coder" "B" (.int (0 : Int32)) := D215 (Or.inr (hw _ (List.mem_of_getElem? (i := 32) rfl))) (ty := .byte) (by decide)
        have F_value_b215 : Fld Z h215 b215 "java/lang/String" "value" "[B" .null := D215 (Or.inr (hw _ (List.mem_of_getElem? (i := 34) rfl))) (ty := (.array .byte)) (by decide)
        refine Go.by (T' := T215) (f' := (mkF m 168 LL214 [(.ref b215)])) (st215) ?_
        refine Go.by (T' := T215) (f' := (mkF m 169 LL214 [(.ref b215), (.ref b215)])) (fun _ k => XS.dup X215.here hx rfl (hb hby at_168) rfl rfl k) ?_
        refine Go.by (T' := T215) (f' := (mkF m 171 LL214 [(.ref b157), (.ref b215), (.ref b215)])) (fun _ k => XS.aload X215.here hx rfl (hb hby at_169) rfl rfl k) ?_
        have hp216 : ∀ c ∈ ([c4, c6] : List Int32), ¬ c < 0 ∧ ¬ (255 : Int32) < c := by
          intro c hc; simp only [List.mem_cons, List.not_mem_nil, or_false] at hc
          rcases hc with rfl | rfl
          · exact hb4
          · exact hb6
        obtain ⟨v216, _, ⟨T216, L216, k216, n216⟩, -, X216, ⟨Lc216, hQ216, l216, y216, z216⟩, st216⟩ := X215.specialBack hx (y := (⟨"java/lang/String", "<init>", "([C)V"⟩ : MethodName)) rfl hown (mvT hZ (hw _ (List.mem_of_getElem? (i := 9) rfl))) (mvT hZ (hw _ (List.mem_of_getElem? (i := 10) rfl))) (mvT hZ (hw _ (List.mem_of_getElem? (i := 11) rfl))) (by decide) (StrChars.Road.backV (W := 1) hZ hws (kI := 4) (hw _ (List.mem_of_getElem? (i := 7) rfl)) (cs := ([c4, c6] : List Int32)) (bs := ([c4, c6] : List Int32).map (fun c => c.toInt8.toInt32)) (n := 2) g_b215 (Old.le O) E_b215 F_value_b215 F_coder_b215 V_b157 (Sta.ext O.2 hS.2.2.2.2.1) hS.2.2.2.2.2.1 rfl rfl (by decide) (by decide) hp216 rfl (by decide) (by decide)) (g := (mkF m 171 LL214 [(.ref b157), (.ref b215), (.ref b215)])) rfl (by rw [hml]; rfl) (Steps.refl _) (a := b215) (argsL := [(.ref b157)]) (rest := [(.ref b215)]) (lenOf pd_rm1_1 rfl) rfl (by show 2 * 0 + _ ≤ _; exact Nat.le_of_eq rfl) (hb hby at_171) (fun _ _ => ⟨rfl, e215, (by decide : 3 + 1 ≤ _), (by decide : 8 + 2 ≤ _)⟩)
        dsimp only [Pt.U, Pt.locs, Pt.cells, Pt.slots] at X216 l216 y216 z216 st216 hQ216
        subst l216 y216 z216
        obtain ⟨rfl, Nq216, K216, -, Gc216, t216, kb216, gt216, szt216, net216, Gv216, Vt216⟩ := hQ216
        replace N := Fr.app N Nq216
        have ne_b157_t216 : b157 ≠ t216 := Nat.ne_of_lt (Nat.lt_of_lt_of_le V_b157.lt szt216)
        have ne_b208_t216 : b208 ≠ t216 := Nat.ne_of_lt (Nat.lt_of_lt_of_le V_b208.lt szt216)
        have ne_b215_t216 : b215 ≠ t216 := Nat.ne_of_lt (Nat.lt_of_lt_of_le E_b215.lt szt216)
        have g_t216 : n0 ≤ t216 := Nat.le_trans (Old.le O) szt216
        have sz_t216 : h0.size ≤ t216 := Nat.le_trans K.1 szt216
        replace V_b157 := V_b157.keep K216 (ninS ne_b157_b215 nin0)
        replace V_b208 := V_b208.keep K216 (ninS ne_b208_b215 nin0)
        replace E_b215 := E_b215.keep K216
        replace O := O.keep K216 (allS g_b215 all0)
        replace K := K.trans K216 (allS (Or.inr sz_b215) all0)
        have hcd216 : StrChars.Road.CodA ([c4, c6] : List Int32) 0 (2 : Int32) ((([c4, c6] : List Int32).map (fun c => c.toInt8.toInt32)).map Value.int) := StrChars.Road.codOf (n := 2) rfl (fun c hc => (hp216 c hc).2)
        refine Go.by (T' := T216) (f' := (mkF m 174 LL214 [(.ref b215)])) (fun _ k => st216.trans k) ?_
        let LL217 : Array Slot := #[.val (.int z0), .val (.int z1), .val (.int z2), .val (.int z3), .val (.int z4), .val (.int z5), .val (.int ((1 : Int32) + (z0 &&& (1 : Int32)))), .val (.int ((1 : Int32) + (z1 &&& (1 : Int32)))), .val (.int c4), .val (.int c6), .val (.int c8), .val (.int c10), .val (.ref b157), .val (.ref b208), .val (.int (z4 &&& (65535 : Int32))), .val (.int (z5 &&& (3 : Int32))), .val (.int p2), .val (.ref b215), .unset, .unset, .unset, .unset, .unset, .unset]
        refine Go.by (T' := T216) (f' := (mkF m 176 LL217 [])) (fun _ k => XS.astore X216.here hx rfl (hb hby at_174) rfl rfl (l' := LL217) rfl k) ?_
        obtain ⟨T218, h218, X218, e218, E218, A218, D218, -, st218⟩ := newO X216 hx hZ hown (hw _ (List.mem_of_getElem? (i := 35) rfl)) (hw _ (List.mem_of_getElem? (i := 36) rfl)) (hw _ (List.mem_of_getElem? (i := 37) rfl)) rfl (g := (mkF m 176 LL217 [])) rfl (hb hby at_176) (by decide) (by decide)
        obtain ⟨b218, g218⟩ : ∃ z, z = T216.heap.size := ⟨_, rfl⟩
        rw [← g218] at A218 D218 st218
        have ne_b157_b218 : b157 ≠ b218 := Nat.ne_of_lt (Nat.lt_of_lt_of_le V_b157.lt (Nat.le_of_eq g218.symm))
        have ne_b208_b218 : b208 ≠ b218 := Nat.ne_of_lt (Nat.lt_of_lt_of_le V_b208.lt (Nat.le_of_eq g218.symm))
        have ne_b215_b218 : b215 ≠ b218 := Nat.ne_of_lt (Nat.lt_of_lt_of_le E_b215.lt (Nat.le_of_eq g218.symm))
        have ne_t216_b218 : t216 ≠ b218 := Nat.ne_of_lt (Nat.lt_of_lt_of_le Vt216.lt (Nat.le_of_eq g218.symm))
        have g_b218 : n0 ≤ b218 := Nat.le_trans (Old.le O) (Nat.le_of_eq g218.symm)
        have sz_b218 : h0.size ≤ b218 := Nat.le_trans K.1 (Nat.le_of_eq g218.symm)
        replace V_b157 := V_b157.ext E218
        replace V_b208 := V_b208.ext E218
        replace E_b215 := E_b215.ext E218
        replace Gc216 := Gc216.ext E218
        replace Gv216 := Gv216.ext E218
        replace Vt216 := Vt216.ext E218
        replace O := O.ext E218
        replace K := K.ext E218
        have E_b218 := A218
        have F_host_b218 : Fld Z h218 b218 "com/example/honest_replica/honestreplica/model/Endpoint" "host" "Ljava/lang/String;" .null := D218 (Or.inr (hw _ (List.mem_of_getElem? (i := 49) rfl))) (ty := (.object "java/lang/String")) (by decide)
        have F_port_b218 : Fld Z h218 b218 "com/example/honest_replica/honestreplica/model/Endpoint" "port" "I" (.int (0 : Int32)) := D218 (Or.inr (hw _ (List.mem_of_getElem? (i := 51) rfl))) (ty := .int) (by decide)
        refine Go.by (T' := T218) (f' := (mkF m 179 LL217 [(.ref b218)])) (st218) ?_
        refine Go.by (T' := T218) (f' := (mkF m 180 LL217 [(.ref b218), (.ref b218)])) (fun _ k => XS.dup X218.here hx rfl (hb hby at_179) rfl rfl k) ?_
        refine Go.by (T' := T218) (f' := (mkF m 182 LL217 [(.ref b215), (.ref b218), (.ref b218)])) (fun _ k => XS.aload X218.here hx rfl (hb hby at_180) rfl rfl k) ?_
        refine Go.by (T' := T218) (f' := (mkF m 184 LL217 [(.int (z4 &&& (65535 : Int32))), (.ref b215), (.ref b218), (.ref b218)])) (fun _ k => XS.iload X218.here hx rfl (hb hby at_182) rfl k) ?_
        obtain ⟨v219, _, ⟨T219, L219, k219, n219⟩, -, X219, ⟨Lc219, hQ219, l219, y219, z219⟩, st219⟩ := X218.specialBack hx (y := (⟨"com/example/honest_replica/honestreplica/model/Endpoint", "<init>", "(Ljava/lang/String;I)V"⟩ : MethodName)) rfl hown (mvT hZ (hw _ (List.mem_of_getElem? (i := 38) rfl))) (mvT hZ (hw _ (List.mem_of_getElem? (i := 39) rfl))) (mvT hZ (hw _ (List.mem_of_getElem? (i := 40) rfl))) (by decide) (backOf (W := 1) (rm_e l Z a0 hw [] b218 b215 (z4 &&& (65535 : Int32)) t216 kb216 (2 : Int32) ((([c4, c6] : List Int32).map (fun c => c.toInt8.toInt32)).map Value.int) ([c4, c6] : List Int32) (by simp) (own_p16 _) ne_t216_b218 h218 n0 O E_b218 F_host_b218 F_port_b218 g_b218 E_b215 Gv216 Gc216 Vt216 hcd216 (own_up _ hp216) (Nat.le_of_ble_eq_true rfl)) hZ (hw _ (List.mem_of_getElem? (i := 40) rfl)) (hw _ (List.mem_of_getElem? (i := 37) rfl)) (by decide) (by decide)) (g := (mkF m 184 LL217 [(.int (z4 &&& (65535 : Int32))), (.ref b215), (.ref b218), (.ref b218)])) rfl (by rw [hml]; rfl) (Steps.refl _) (a := b218) (argsL := [(.ref b215), (.int (z4 &&& (65535 : Int32)))]) (rest := [(.ref b218)]) (lenOf pd_rm1_2 rfl) rfl (by show 2 * 0 + _ ≤ _; exact Nat.le_of_eq rfl) (hb hby at_184) (fun _ _ => ⟨rfl, e218, (by decide : 5 + 0 ≤ _), (by decide : 12 + 0 ≤ _)⟩)
        dsimp only [Pt.U, Pt.locs, Pt.cells, Pt.slots] at X219 l219 y219 z219 st219 hQ219
        subst l219 y219 z219
        obtain ⟨rfl, Nq219, K219, Gh219, Gp219⟩ := hQ219
        replace N := Fr.app N Nq219
        replace V_b157 := V_b157.keep K219 (ninS ne_b157_b218 nin0)
        replace V_b208 := V_b208.keep K219 (ninS ne_b208_b218 nin0)
        replace E_b215 := E_b215.keep K219
        replace Gc216 := Gc216.keep K219 (ninS ne_b215_b218 nin0)
        replace Gv216 := Gv216.keep K219 (ninS ne_b215_b218 nin0)
        replace Vt216 := Vt216.keep K219 (ninS ne_t216_b218 nin0)
        replace E_b218 := E_b218.keep K219
        replace O := O.keep K219 (allS g_b218 all0)
        replace K := K.trans K219 (allS (Or.inr sz_b218) all0)
        refine Go.by (T' := T219) (f' := (mkF m 187 LL217 [(.ref b218)])) (fun _ k => st219.trans k) ?_
        let LL220 : Array Slot := #[.val (.int z0), .val (.int z1), .val (.int z2), .val (.int z3), .val (.int z4), .val (.int z5), .val (.int ((1 : Int32) + (z0 &&& (1 : Int32)))), .val (.int ((1 : Int32) + (z1 &&& (1 : Int32)))), .val (.int c4), .val (.int c6), .val (.int c8), .val (.int c10), .val (.ref b157), .val (.ref b208), .val (.int (z4 &&& (65535 : Int32))), .val (.int (z5 &&& (3 : Int32))), .val (.int p2), .val (.ref b215), .val (.ref b218), .unset, .unset, .unset, .unset, .unset]
        refine Go.by (T' := T219) (f' := (mkF m 189 LL220 [])) (fun _ k => XS.astore X219.here hx rfl (hb hby at_187) rfl rfl (l' := LL220) rfl k) ?_
        obtain ⟨T221, h221, X221, e221, E221, A221, D221, -, st221⟩ := newO X219 hx hZ hown (hw _ (List.mem_of_getElem? (i := 35) rfl)) (hw _ (List.mem_of_getElem? (i := 36) rfl)) (hw _ (List.mem_of_getElem? (i := 37) rfl)) rfl (g := (mkF m 189 LL220 [])) rfl (hb hby at_189) (by decide) (by decide)
        obtain ⟨b221, g221⟩ : ∃ z, z = T219.heap.size := ⟨_, rfl⟩
        rw [← g221] at A221 D221 st221
        have ne_b157_b221 : b157 ≠ b221 := Nat.ne_of_lt (Nat.lt_of_lt_of_le V_b157.lt (Nat.le_of_eq g221.symm))
        have ne_b208_b221 : b208 ≠ b221 := Nat.ne_of_lt (Nat.lt_of_lt_of_le V_b208.lt (Nat.le_of_eq g221.symm))
        have ne_b215_b221 : b215 ≠ b221 := Nat.ne_of_lt (Nat.lt_of_lt_of_le E_b215.lt (Nat.le_of_eq g221.symm))
        have ne_t216_b221 : t216 ≠ b221 := Nat.ne_of_lt (Nat.lt_of_lt_of_le Vt216.lt (Nat.le_of_eq g221.symm))
        have ne_b218_b221 : b218 ≠ b221 := Nat.ne_of_lt (Nat.lt_of_lt_of_le E_b218.lt (Nat.le_of_eq g221.symm))
        have g_b221 : n0 ≤ b221 := Nat.le_trans (Old.le O) (Nat.le_of_eq g221.symm)
        have sz_b221 : h0.size ≤ b221 := Nat.le_trans K.1 (Nat.le_of_eq g221.symm)
        replace V_b157 := V_b157.ext E221
        replace V_b208 := V_b208.ext E221
        replace E_b215 := E_b215.ext E221
        replace Gc216 := Gc216.ext E221
        replace Gv216 := Gv216.ext E221
        replace Vt216 := Vt216.ext E221
        replace E_b218 := E_b218.ext E221
        replace Gh219 := Gh219.ext E221
        replace Gp219 := Gp219.ext E221
        replace O := O.ext E221
        replace K := K.ext E221
        have E_b221 := A221
        have F_host_b221 : Fld Z h221 b221 "com/example/honest_replica/honestreplica/model/Endpoint" "host" "Ljava/lang/String;" .null := D221 (Or.inr (hw _ (List.mem_of_getElem? (i := 49) rfl))) (ty := (.object "java/lang/String")) (by decide)
        have F_port_b221 : Fld Z h221 b221 "com/example/honest_replica/honestreplica/model/Endpoint" "port" "I" (.int (0 : Int32)) := D221 (Or.inr (hw _ (List.mem_of_getElem? (i := 51) rfl))) (ty := .int) (by decide)
        refine Go.by (T' := T221) (f' := (mkF m 192 LL220 [(.ref b221)])) (st221) ?_
        refine Go.by (T' := T221) (f' := (mkF m 193 LL220 [(.ref b221), (.ref b221)])) (fun _ k => XS.dup X221.here hx rfl (hb hby at_192) rfl rfl k) ?_
        obtain ⟨T222, h222, X222, e222, E222, A222, D222, -, st222⟩ := newO X221 hx hZ hown (hw _ (List.mem_of_getElem? (i := 6) rfl)) (hw _ (List.mem_of_getElem? (i := 7) rfl)) (hw _ (List.mem_of_getElem? (i := 8) rfl)) e221 (g := (mkF m 193 LL220 [(.ref b221), (.ref b221)])) rfl (hb hby at_193) (by decide) (by decide)
        obtain ⟨b222, g222⟩ : ∃ z, z = h221.size := ⟨_, rfl⟩
        rw [← g222] at A222 D222 st222
        have ne_b157_b222 : b157 ≠ b222 := Nat.ne_of_lt (Nat.lt_of_lt_of_le V_b157.lt (Nat.le_of_eq g222.symm))
        have ne_b208_b222 : b208 ≠ b222 := Nat.ne_of_lt (Nat.lt_of_lt_of_le V_b208.lt (Nat.le_of_eq g222.symm))
        have ne_b215_b222 : b215 ≠ b222 := Nat.ne_of_lt (Nat.lt_of_lt_of_le E_b215.lt (Nat.le_of_eq g222.symm))
        have ne_t216_b222 : t216 ≠ b222 := Nat.ne_of_lt (Nat.lt_of_lt_of_le Vt216.lt (Nat.le_of_eq g222.symm))
        have ne_b218_b222 : b218 ≠ b222 := Nat.ne_of_lt (Nat.lt_of_lt_of_le E_b218.lt (Nat.le_of_eq g222.symm))
        have ne_b221_b222 : b221 ≠ b222 := Nat.ne_of_lt (Nat.lt_of_lt_of_le E_b221.lt (Nat.le_of_eq g222.symm))
        have g_b222 : n0 ≤ b222 := Nat.le_trans (Old.le O) (Nat.le_of_eq g222.symm)
        have sz_b222 : h0.size ≤ b222 := Nat.le_trans K.1 (Nat.le_of_eq g222.symm)
        replace V_b157 := V_b157.ext E222
        replace V_b208 := V_b208.ext E222
        replace E_b215 := E_b215.ext E222
        replace Gc216 := Gc216.ext E222
        replace Gv216 := Gv216.ext E222
        replace Vt216 := Vt216.ext E222
        replace E_b218 := E_b218.ext E222
        replace Gh219 := Gh219.ext E222
        replace Gp219 := Gp219.ext E222
        replace E_b221 := E_b221.ext E222
        replace F_host_b221 := F_host_b221.ext E222
        replace F_port_b221 := F_port_b221.ext E222
        replace O := O.ext E222
        replace K := K.ext E222
        have E_b222 := A222
        have F_coder_b222 : Fld Z h222 b222 "java/lang/String" "coder" "B" (.int (0 : Int32)) := D222 (Or.inr (hw _ (List.mem_of_getElem? (i := 32) rfl))) (ty := .byte) (by decide)
        have F_value_b222 : Fld Z h222 b222 "java/lang/String" "value" "[B" .null := D222 (Or.inr (hw _ (List.mem_of_getElem? (i := 34) rfl))) (ty := (.array .byte)) (by decide)
        refine Go.by (T' := T222) (f' := (mkF m 196 LL220 [(.ref b222), (.ref b221), (.ref b221)])) (st222) ?_
        refine Go.by (T' := T222) (f' := (mkF m 197 LL220 [(.ref b222), (.ref b222), (.ref b221), (.ref b221)])) (fun _ k => XS.dup X222.here hx rfl (hb hby at_196) rfl rfl k) ?_
        refine Go.by (T' := T222) (f' := (mkF m 199 LL220 [(.ref b208), (.ref b222), (.ref b222), (.ref b221), (.ref b221)])) (fun _ k => XS.aload X222.here hx rfl (hb hby at_197) rfl rfl k) ?_
        have hp223 : ∀ c ∈ ([c8, c10] : List Int32), ¬ c < 0 ∧ ¬ (255 : Int32) < c := by
          intro c hc; simp only [List.mem_cons, List.not_mem_nil, or_false] at hc
          rcases hc with rfl | rfl
          · exact hb8
          · exact hb10
        obtain ⟨v223, _, ⟨T223, L223, k223, n223⟩, -, X223, ⟨Lc223, hQ223, l223, y223, z223⟩, st223⟩ := X222.specialBack hx (y := (⟨"java/lang/String", "<init>", "([C)V"⟩ : MethodName)) rfl hown (mvT hZ (hw _ (List.mem_of_getElem? (i := 9) rfl))) (mvT hZ (hw _ (List.mem_of_getElem? (i := 10) rfl))) (mvT hZ (hw _ (List.mem_of_getElem? (i := 11) rfl))) (by decide) (StrChars.Road.backV (W := 3) hZ hws (kI := 4) (hw _ (List.mem_of_getElem? (i := 7) rfl)) (cs := ([c8, c10] : List Int32)) (bs := ([c8, c10] : List Int32).map (fun c => c.toInt8.toInt32)) (n := 2) g_b222 (Old.le O) E_b222 F_value_b222 F_coder_b222 V_b208 (Sta.ext O.2 hS.2.2.2.2.1) hS.2.2.2.2.2.1 rfl rfl (by decide) (by decide) hp223 rfl (by decide) (by decide)) (g := (mkF m 199 LL220 [(.ref b208), (.ref b222), (.ref b222), (.ref b221), (.ref b221)])) rfl (by rw [hml]; rfl) (Steps.refl _) (a := b222) (argsL := [(.ref b208)]) (rest := [(.ref b222), (.ref b221), (.ref b221)]) (lenOf pd_rm1_1 rfl) rfl (by show 2 * 0 + _ ≤ _; exact Nat.le_of_eq rfl) (hb hby at_199) (fun _ _ => ⟨rfl, e222, (by decide : 7 + 1 ≤ _), (by decide : 18 + 2 ≤ _)⟩)
        dsimp only [Pt.U, Pt.locs, Pt.cells, Pt.slots] at X223 l223 y223 z223 st223 hQ223
        subst l223 y223 z223
        obtain ⟨rfl, Nq223, K223, -, Gc223, t223, kb223, gt223, szt223, net223, Gv223, Vt223⟩ := hQ223
        replace N := Fr.app N Nq223
        have ne_b157_t223 : b157 ≠ t223 := Nat.ne_of_lt (Nat.lt_of_lt_of_le V_b157.lt szt223)
        have ne_b208_t223 : b208 ≠ t223 := Nat.ne_of_lt (Nat.lt_of_lt_of_le V_b208.lt szt223)
        have ne_b215_t223 : b215 ≠ t223 := Nat.ne_of_lt (Nat.lt_of_lt_of_le E_b215.lt szt223)
        have ne_t216_t223 : t216 ≠ t223 := Nat.ne_of_lt (Nat.lt_of_lt_of_le Vt216.lt szt223)
        have ne_b218_t223 : b218 ≠ t223 := Nat.ne_of_lt (Nat.lt_of_lt_of_le E_b218.lt szt223)
        have ne_b221_t223 : b221 ≠ t223 := Nat.ne_of_lt (Nat.lt_of_lt_of_le E_b221.lt szt223)
        have ne_b222_t223 : b222 ≠ t223 := Nat.ne_of_lt (Nat.lt_of_lt_of_le E_b222.lt szt223)
        have g_t223 : n0 ≤ t223 := Nat.le_trans (Old.le O) szt223
        have sz_t223 : h0.size ≤ t223 := Nat.le_trans K.1 szt223
        replace V_b157 := V_b157.keep K223 (ninS ne_b157_b222 nin0)
        replace V_b208 := V_b208.keep K223 (ninS ne_b208_b222 nin0)
        replace E_b215 := E_b215.keep K223
        replace Gc216 := Gc216.keep K223 (ninS ne_b215_b222 nin0)
        replace Gv216 := Gv216.keep K223 (ninS ne_b215_b222 nin0)
        replace Vt216 := Vt216.keep K223 (ninS ne_t216_b222 nin0)
        replace E_b218 := E_b218.keep K223
        replace Gh219 := Gh219.keep K223 (ninS ne_b218_b222 nin0)
        replace Gp219 := Gp219.keep K223 (ninS ne_b218_b222 nin0)
        replace E_b221 := E_b221.keep K223
        replace F_host_b221 := F_host_b221.keep K223 (ninS ne_b221_b222 nin0)
        replace F_port_b221 := F_port_b221.keep K223 (ninS ne_b221_b222 nin0)
        replace E_b222 := E_b222.keep K223
        replace O := O.keep K223 (allS g_b222 all0)
        replace K := K.trans K223 (allS (Or.inr sz_b222) all0)
        have hcd223 : StrChars.Road.CodA ([c8, c10] : List Int32) 0 (2 : Int32) ((([c8, c10] : List Int32).map (fun c => c.toInt8.toInt32)).map Value.int) := StrChars.Road.codOf (n := 2) rfl (fun c hc => (hp223 c hc).2)
        refine Go.by (T' := T223) (f' := (mkF m 202 LL220 [(.ref b222), (.ref b221), (.ref b221)])) (fun _ k => st223.trans k) ?_
        refine Go.by (T' := T223) (f' := (mkF m 204 LL220 [(.int p2), (.ref b222), (.ref b221), (.ref b221)])) (fun _ k => XS.iload X223.here hx rfl (hb hby at_202) rfl k) ?_
        obtain ⟨v224, _, ⟨T224, L224, k224, n224⟩, -, X224, ⟨Lc224, hQ224, l224, y224, z224⟩, st224⟩ := X223.specialBack hx (y := (⟨"com/example/honest_replica/honestreplica/model/Endpoint", "<init>", "(Ljava/lang/String;I)V"⟩ : MethodName)) rfl hown (mvT hZ (hw _ (List.mem_of_getElem? (i := 38) rfl))) (mvT hZ (hw _ (List.mem_of_getElem? (i := 39) rfl))) (mvT hZ (hw _ (List.mem_of_getElem? (i := 40) rfl))) (by decide) (backOf (W := 1) (rm_e l Z a0 hw [] b221 b222 p2 t223 kb223 (2 : Int32) ((([c8, c10] : List Int32).map (fun c => c.toInt8.toInt32)).map Value.int) ([c8, c10] : List Int32) (by simp) hp2 (Ne.symm ne_b221_t223) T223.heap n0 O E_b221 F_host_b221 F_port_b221 g_b221 E_b222 Gv223 Gc223 Vt223 hcd223 (own_up _ hp223) (Nat.le_of_ble_eq_true rfl)) hZ (hw _ (List.mem_of_getElem? (i := 40) rfl)) (hw _ (List.mem_of_getElem? (i := 37) rfl)) (by decide) (by decide)) (g := (mkF m 204 LL220 [(.int p2), (.ref b222), (.ref b221), (.ref b221)])) rfl (by rw [hml]; rfl) (Steps.refl _) (a := b221) (argsL := [(.ref b222), (.int p2)]) (rest := [(.ref b221)]) (lenOf pd_rm1_2 rfl) rfl (by show 2 * 0 + _ ≤ _; exact Nat.le_of_eq rfl) (hb hby at_204) (fun _ _ => ⟨rfl, rfl, (by decide : 8 + 0 ≤ _), (by decide : 20 + 0 ≤ _)⟩)
        dsimp only [Pt.U, Pt.locs, Pt.cells, Pt.slots] at X224 l224 y224 z224 st224 hQ224
        subst l224 y224 z224
        obtain ⟨rfl, Nq224, K224, Gh224, Gp224⟩ := hQ224
        replace N := Fr.app N Nq224
        replace V_b157 := V_b157.keep K224 (ninS ne_b157_b221 nin0)
        replace V_b208 := V_b208.keep K224 (ninS ne_b208_b221 nin0)
        replace E_b215 := E_b215.keep K224
        replace Gc216 := Gc216.keep K224 (ninS ne_b215_b221 nin0)
        replace Gv216 := Gv216.keep K224 (ninS ne_b215_b221 nin0)
        replace Vt216 := Vt216.keep K224 (ninS ne_t216_b221 nin0)
        replace E_b218 := E_b218.keep K224
        replace Gh219 := Gh219.keep K224 (ninS ne_b218_b221 nin0)
        replace Gp219 := Gp219.keep K224 (ninS ne_b218_b221 nin0)
        replace E_b221 := E_b221.keep K224
        replace E_b222 := E_b222.keep K224
        replace Gc223 := Gc223.keep K224 (ninS (Ne.symm ne_b221_b222) nin0)
        replace Gv223 := Gv223.keep K224 (ninS (Ne.symm ne_b221_b222) nin0)
        replace Vt223 := Vt223.keep K224 (ninS (Ne.symm ne_b221_t223) nin0)
        replace O := O.keep K224 (allS g_b221 all0)
        replace K := K.trans K224 (allS (Or.inr sz_b221) all0)
        refine Go.by (T' := T224) (f' := (mkF m 207 LL220 [(.ref b221)])) (fun _ k => st224.trans k) ?_
        let LL225 : Array Slot := #[.val (.int z0), .val (.int z1), .val (.int z2), .val (.int z3), .val (.int z4), .val (.int z5), .val (.int ((1 : Int32) + (z0 &&& (1 : Int32)))), .val (.int ((1 : Int32) + (z1 &&& (1 : Int32)))), .val (.int c4), .val (.int c6), .val (.int c8), .val (.int c10), .val (.ref b157), .val (.ref b208), .val (.int (z4 &&& (65535 : Int32))), .val (.int (z5 &&& (3 : Int32))), .val (.int p2), .val (.ref b215), .val (.ref b218), .val (.ref b221), .unset, .unset, .unset, .unset]
        refine Go.by (T' := T224) (f' := (mkF m 209 LL225 [])) (fun _ k => XS.astore X224.here hx rfl (hb hby at_207) rfl rfl (l' := LL225) rfl k) ?_
        refine Go.by (T' := T224) (f' := (mkF m 211 LL225 [(.int ((1 : Int32) + (z0 &&& (1 : Int32))))])) (fun _ k => XS.iload X224.here hx rfl (hb hby at_209) rfl k) ?_
        refine Go.by (T' := T224) (f' := (mkF m 213 LL225 [(.int ((1 : Int32) + (z1 &&& (1 : Int32)))), (.int ((1 : Int32) + (z0 &&& (1 : Int32))))])) (fun _ k => XS.iload X224.here hx rfl (hb hby at_211) rfl k) ?_
        refine Go.by (T' := T224) (f' := (mkF m 216 LL225 [])) (fun _ k => XS.icmpNo X224.here hx rfl (hb hby at_213) rfl (teq (own_12 hc47_12 hc79_161)).2 k) ?_
        refine Go.by (T' := T224) (f' := (mkF m 218 LL225 [(.int c4)])) (fun _ k => XS.iload X224.here hx rfl (hb hby at_216) rfl k) ?_
        refine Go.by (T' := T224) (f' := (mkF m 220 LL225 [(.int c8), (.int c4)])) (fun _ k => XS.iload X224.here hx rfl (hb hby at_218) rfl k) ?_
        by_cases hc220_227 : c4 = c8
        · skip
          refine Go.by (T' := T224) (f' := (mkF m 223 LL225 [])) (fun _ k => XS.icmpNo X224.here hx rfl (hb hby at_220) rfl (teq hc220_227).2 k) ?_
          refine Go.by (T' := T224) (f' := (mkF m 225 LL225 [(.int ((1 : Int32) + (z0 &&& (1 : Int32))))])) (fun _ k => XS.iload X224.here hx rfl (hb hby at_223) rfl k) ?_
          refine Go.by (T' := T224) (f' := (mkF m 226 LL225 [(.int (1 : Int32)), (.int ((1 : Int32) + (z0 &&& (1 : Int32))))])) (fun _ k => XS.iconst X224.here hx rfl (hb hby at_225) k) ?_
          refine Go.by (T' := T224) (f' := (mkF m 229 LL225 [])) (fun _ k => XS.icmpNo X224.here hx rfl (hb hby at_226) rfl (feq hc47_12).1 k) ?_
          refine Go.by (T' := T224) (f' := (mkF m 231 LL225 [(.int c6)])) (fun _ k => XS.iload X224.here hx rfl (hb hby at_229) rfl k) ?_
          refine Go.by (T' := T224) (f' := (mkF m 233 LL225 [(.int c10), (.int c6)])) (fun _ k => XS.iload X224.here hx rfl (hb hby at_231) rfl k) ?_
          by_cases hc233_229 : c6 = c10
          · skip
            refine Go.by (T' := T224) (f' := (mkF m 236 LL225 [])) (fun _ k => XS.icmpNo X224.here hx rfl (hb hby at_233) rfl (teq hc233_229).2 k) ?_
            refine Go.by (T' := T224) (f' := (mkF m 237 LL225 [(.int (1 : Int32))])) (fun _ k => XS.iconst X224.here hx rfl (hb hby at_236) k) ?_
            refine Go.by (T' := T224) (f' := (mkF m 241 LL225 [(.int (1 : Int32))])) (fun _ k => XS.goto X224.here hx rfl (pc0 := 237) (pc' := 241) rfl (hb hby at_237) (by decide) (by decide) k) ?_
            let LL230 : Array Slot := #[.val (.int z0), .val (.int z1), .val (.int z2), .val (.int z3), .val (.int z4), .val (.int z5), .val (.int ((1 : Int32) + (z0 &&& (1 : Int32)))), .val (.int ((1 : Int32) + (z1 &&& (1 : Int32)))), .val (.int c4), .val (.int c6), .val (.int c8), .val (.int c10), .val (.ref b157), .val (.ref b208), .val (.int (z4 &&& (65535 : Int32))), .val (.int (z5 &&& (3 : Int32))), .val (.int p2), .val (.ref b215), .val (.ref b218), .val (.ref b221), .val (.int (1 : Int32)), .unset, .unset, .unset]
            refine Go.by (T' := T224) (f' := (mkF m 243 LL230 [])) (fun _ k => XS.istore X224.here hx rfl (hb hby at_241) rfl (l' := LL230) rfl k) ?_
            refine Go.by (T' := T224) (f' := (mkF m 245 LL230 [(.int (1 : Int32))])) (fun _ k => XS.iload X224.here hx rfl (hb hby at_243) rfl k) ?_
            refine Go.by (T' := T224) (f' := (mkF m 248 LL230 [])) (fun _ k => XS.ifNo X224.here hx rfl (hb hby at_245) rfl ((if0 _ _).trans (feq (by decide : ¬ ((1 : Int32) = (0 : Int32)))).1) k) ?_
            refine Go.by (T' := T224) (f' := (mkF m 250 LL230 [(.int (z4 &&& (65535 : Int32)))])) (fun _ k => XS.iload X224.here hx rfl (hb hby at_248) rfl k) ?_
            refine Go.by (T' := T224) (f' := (mkF m 252 LL230 [(.int p2), (.int (z4 &&& (65535 : Int32)))])) (fun _ k => XS.iload X224.here hx rfl (hb hby at_250) rfl k) ?_
            by_cases hc252_232 : (z4 &&& (65535 : Int32)) = p2
            · skip
              refine Go.by (T' := T224) (f' := (mkF m 255 LL230 [])) (fun _ k => XS.icmpNo X224.here hx rfl (hb hby at_252) rfl (teq hc252_232).2 k) ?_
              refine Go.by (T' := T224) (f' := (mkF m 256 LL230 [(.int (1 : Int32))])) (fun _ k => XS.iconst X224.here hx rfl (hb hby at_255) k) ?_
              refine Go.by (T' := T224) (f' := (mkF m 260 LL230 [(.int (1 : Int32))])) (fun _ k => XS.goto X224.here hx rfl (pc0 := 256) (pc' := 260) rfl (hb hby at_256) (by decide) (by decide) k) ?_
              let LL233 : Array Slot := #[.val (.int z0), .val (.int z1), .val (.int z2), .val (.int z3), .val (.int z4), .val (.int z5), .val (.int ((1 : Int32) + (z0 &&& (1 : Int32)))), .val (.int ((1 : Int32) + (z1 &&& (1 : Int32)))), .val (.int c4), .val (.int c6), .val (.int c8), .val (.int c10), .val (.ref b157), .val (.ref b208), .val (.int (z4 &&& (65535 : Int32))), .val (.int (z5 &&& (3 : Int32))), .val (.int p2), .val (.ref b215), .val (.ref b218), .val (.ref b221), .val (.int (1 : Int32)), .val (.int (1 : Int32)), .unset, .unset]
              refine Go.by (T' := T224) (f' := (mkF m 262 LL233 [])) (fun _ k => XS.istore X224.here hx rfl (hb hby at_260) rfl (l' := LL233) rfl k) ?_
              refine Go.by (T' := T224) (f' := (mkF m 263 LL233 [(.int z0)])) (fun _ k => XS.iloadN X224.here hx rfl (hb hby at_262) rfl k) ?_
              refine Go.by (T' := T224) (f' := (mkF m 264 LL233 [(.int (1 : Int32)), (.int z0)])) (fun _ k => XS.iconst X224.here hx rfl (hb hby at_263) k) ?_
              refine Go.by (T' := T224) (f' := (mkF m 265 LL233 [(.int ((z0.toUInt32 >>> ((1 : Int32) &&& 31).toUInt32).toInt32))])) (fun _ k => XS.iushr X224.here hx rfl (hb hby at_264) rfl k) ?_
              refine Go.by (T' := T224) (f' := (mkF m 266 LL233 [(.int (3 : Int32)), (.int ((z0.toUInt32 >>> ((1 : Int32) &&& 31).toUInt32).toInt32))])) (fun _ k => XS.iconst X224.here hx rfl (hb hby at_265) k) ?_
              refine Go.by (T' := T224) (f' := (mkF m 267 LL233 [(.int (((z0.toUInt32 >>> ((1 : Int32) &&& 31).toUInt32).toInt32) &&& (3 : Int32)))])) (fun _ k => XS.iand X224.here hx rfl (hb hby at_266) rfl k) ?_
              let LL234 : Array Slot := #[.val (.int z0), .val (.int z1), .val (.int z2), .val (.int z3), .val (.int z4), .val (.int z5), .val (.int ((1 : Int32) + (z0 &&& (1 : Int32)))), .val (.int ((1 : Int32) + (z1 &&& (1 : Int32)))), .val (.int c4), .val (.int c6), .val (.int c8), .val (.int c10), .val (.ref b157), .val (.ref b208), .val (.int (z4 &&& (65535 : Int32))), .val (.int (z5 &&& (3 : Int32))), .val (.int p2), .val (.ref b215), .val (.ref b218), .val (.ref b221), .val (.int (1 : Int32)), .val (.int (1 : Int32)), .val (.int (((z0.toUInt32 >>> ((1 : Int32) &&& 31).toUInt32).toInt32) &&& (3 : Int32))), .unset]
              refine Go.by (T' := T224) (f' := (mkF m 269 LL234 [])) (fun _ k => XS.istore X224.here hx rfl (hb hby at_267) rfl (l' := LL234) rfl k) ?_
              refine Go.by (T' := T224) (f' := (mkF m 271 LL234 [(.ref b218)])) (fun _ k => XS.aload X224.here hx rfl (hb hby at_269) rfl rfl k) ?_
              refine Go.by (T' := T224) (f' := (mkF m 273 LL234 [(.ref b218), (.ref b218)])) (fun _ k => XS.aload X224.here hx rfl (hb hby at_271) rfl rfl k) ?_
              obtain ⟨cq235, kq235, q235a, q235b, q235c⟩ := isOf hZ rfl E_b218
              obtain ⟨v235, _, ⟨T235, L235, k235, n235⟩, -, X235, ⟨Lc235, hQ235, l235, y235, z235⟩, st235⟩ := X224.virtualBack hx (y := (⟨"com/example/honest_replica/honestreplica/model/Endpoint", "equals", "(Ljava/lang/Object;)Z"⟩ : MethodName)) (z := (⟨"com/example/honest_replica/honestreplica/model/Endpoint", "equals", "(Ljava/lang/Object;)Z"⟩ : MethodName)) hown (mvT hZ (hw _ (List.mem_of_getElem? (i := 52) rfl))) (mvT hZ (hw _ (List.mem_of_getElem? (i := 53) rfl))) (notFace_of_selects (args := #[]) (mvT hZ (hw _ (List.mem_of_getElem? (i := 55) rfl)))) (mvT hZ (hw _ (List.mem_of_getElem? (i := 55) rfl))) (mvT hZ (hw _ (List.mem_of_getElem? (i := 54) rfl))) (by decide) (backOf (W := 0) (rm_q l Z a0 hw [] b218 b218 b215 b215 (z4 &&& (65535 : Int32)) (z4 &&& (65535 : Int32)) t216 kb216 (2 : Int32) ((([c4, c6] : List Int32).map (fun c => c.toInt8.toInt32)).map Value.int) ([c4, c6] : List Int32) t216 kb216 (2 : Int32) ((([c4, c6] : List Int32).map (fun c => c.toInt8.toInt32)).map Value.int) ([c4, c6] : List Int32) wc cl zc hS T224.heap n0 O E_b218 E_b218 Gh219 Gp219 Gh219 Gp219 E_b215 Gv216 Gc216 Vt216 hcd216 (own_up _ hp216) (Nat.le_of_ble_eq_true rfl) E_b215 Gv216 Gc216 Vt216 hcd216 (own_up _ hp216) (Nat.le_of_ble_eq_true rfl)) hZ (hw _ (List.mem_of_getElem? (i := 56) rfl)) (hw _ (List.mem_of_getElem? (i := 37) rfl)) (by decide) (by decide)) q235a q235c (g := (mkF m 273 LL234 [(.ref b218), (.ref b218)])) rfl (by rw [hml]; rfl) (Steps.refl _) (argsL := [(.ref b218)]) (rest := []) (lenOf pd_rm1_3 rfl) rfl (by show 2 * 0 + _ ≤ _; exact Nat.le_of_eq rfl) (hb hby at_273) (fun _ _ => ⟨rfl, rfl, (by decide : 8 + 0 ≤ _), (by decide : 20 + 0 ≤ _)⟩)
              dsimp only [Pt.U, Pt.locs, Pt.cells, Pt.slots] at X235 l235 y235 z235 st235 hQ235
              subst l235 y235 z235
              obtain ⟨hv235, Nq235, e235⟩ := hQ235
              have hz235 : eqs ([c4, c6] : List Int32) (z4 &&& (65535 : Int32)) ([c4, c6] : List Int32) (z4 &&& (65535 : Int32)) = 1 := by simp [eqs]
              rw [hz235] at hv235
              subst hv235
              replace N := Fr.app N Nq235
              refine Go.by (T' := T235) (f' := (mkF m 276 LL234 [(.int (1 : Int32))])) (fun _ k => st235.trans k) ?_
              refine Go.by (T' := T235) (f' := (mkF m 281 LL234 [])) (fun _ k => XS.ifYes X235.here hx rfl (pc0 := 276) (pc' := 281) rfl (hb hby at_276) rfl ((if0 _ _).trans (feq (by decide : ¬ ((1 : Int32) = (0 : Int32)))).2) (by decide) (by decide) k) ?_
              refine Go.by (T' := T235) (f' := (mkF m 283 LL234 [(.int (((z0.toUInt32 >>> ((1 : Int32) &&& 31).toUInt32).toInt32) &&& (3 : Int32)))])) (fun _ k => XS.iload X235.here hx rfl (hb hby at_281) rfl k) ?_
              by_cases hc283_237 : (((z0.toUInt32 >>> ((1 : Int32) &&& 31).toUInt32).toInt32) &&& (3 : Int32)) = (0 : Int32)
              · skip
                refine Go.by (T' := T235) (f' := (mkF m 286 LL234 [])) (fun _ k => XS.ifNo X235.here hx rfl (hb hby at_283) rfl ((if0 _ _).trans (teq hc283_237).2) k) ?_
                refine Go.by (T' := T235) (f' := (mkF m 288 LL234 [(.ref b218)])) (fun _ k => XS.aload X235.here hx rfl (hb hby at_286) rfl rfl k) ?_
                refine Go.by (T' := T235) (f' := (mkF m 290 LL234 [(.ref b221), (.ref b218)])) (fun _ k => XS.aload X235.here hx rfl (hb hby at_288) rfl rfl k) ?_
                obtain ⟨cq238, kq238, q238a, q238b, q238c⟩ := isOf hZ e235 E_b218
                obtain ⟨v238, _, ⟨T238, L238, k238, n238⟩, -, X238, ⟨Lc238, hQ238, l238, y238, z238⟩, st238⟩ := X235.virtualBack hx (y := (⟨"com/example/honest_replica/honestreplica/model/Endpoint", "equals", "(Ljava/lang/Object;)Z"⟩ : MethodName)) (z := (⟨"com/example/honest_replica/honestreplica/model/Endpoint", "equals", "(Ljava/lang/Object;)Z"⟩ : MethodName)) hown (mvT hZ (hw _ (List.mem_of_getElem? (i := 52) rfl))) (mvT hZ (hw _ (List.mem_of_getElem? (i := 53) rfl))) (notFace_of_selects (args := #[]) (mvT hZ (hw _ (List.mem_of_getElem? (i := 55) rfl)))) (mvT hZ (hw _ (List.mem_of_getElem? (i := 55) rfl))) (mvT hZ (hw _ (List.mem_of_getElem? (i := 54) rfl))) (by decide) (backOf (W := 0) (rm_q l Z a0 hw [] b218 b221 b215 b222 (z4 &&& (65535 : Int32)) p2 t216 kb216 (2 : Int32) ((([c4, c6] : List Int32).map (fun c => c.toInt8.toInt32)).map Value.int) ([c4, c6] : List Int32) t223 kb223 (2 : Int32) ((([c8, c10] : List Int32).map (fun c => c.toInt8.toInt32)).map Value.int) ([c8, c10] : List Int32) wc cl zc hS T224.heap n0 O E_b218 E_b221 Gh219 Gp219 Gh224 Gp224 E_b215 Gv216 Gc216 Vt216 hcd216 (own_up _ hp216) (Nat.le_of_ble_eq_true rfl) E_b222 Gv223 Gc223 Vt223 hcd223 (own_up _ hp223) (Nat.le_of_ble_eq_true rfl)) hZ (hw _ (List.mem_of_getElem? (i := 56) rfl)) (hw _ (List.mem_of_getElem? (i := 37) rfl)) (by decide) (by decide)) q238a q238c (g := (mkF m 290 LL234 [(.ref b221), (.ref b218)])) rfl (by rw [hml]; rfl) (Steps.refl _) (argsL := [(.ref b221)]) (rest := []) (lenOf pd_rm1_3 rfl) rfl (by show 2 * 0 + _ ≤ _; exact Nat.le_of_eq rfl) (hb hby at_290) (fun _ _ => ⟨rfl, e235, (by decide : 8 + 0 ≤ _), (by decide : 20 + 0 ≤ _)⟩)
                dsimp only [Pt.U, Pt.locs, Pt.cells, Pt.slots] at X238 l238 y238 z238 st238 hQ238
                subst l238 y238 z238
                obtain ⟨hv238, Nq238, e238⟩ := hQ238
                have hz238 : eqs ([c4, c6] : List Int32) (z4 &&& (65535 : Int32)) ([c8, c10] : List Int32) p2 = 1 := by simp [eqs, hc220_227, hc233_229, hc252_232]
                rw [hz238] at hv238
                subst hv238
                replace N := Fr.app N Nq238
                refine Go.by (T' := T238) (f' := (mkF m 293 LL234 [(.int (1 : Int32))])) (fun _ k => st238.trans k) ?_
                refine Go.by (T' := T238) (f' := (mkF m 295 LL234 [(.int (1 : Int32)), (.int (1 : Int32))])) (fun _ k => XS.iload X238.here hx rfl (hb hby at_293) rfl k) ?_
                refine Go.by (T' := T238) (f' := (mkF m 298 LL234 [])) (fun _ k => XS.icmpNo X238.here hx rfl (hb hby at_295) rfl (teq (by decide : (1 : Int32) = (1 : Int32))).2 k) ?_
                refine Go.by (T' := T238) (f' := (mkF m 300 LL234 [(.ref b221)])) (fun _ k => XS.aload X238.here hx rfl (hb hby at_298) rfl rfl k) ?_
                refine Go.by (T' := T238) (f' := (mkF m 302 LL234 [(.ref b218), (.ref b221)])) (fun _ k => XS.aload X238.here hx rfl (hb hby at_300) rfl rfl k) ?_
                obtain ⟨cq240, kq240, q240a, q240b, q240c⟩ := isOf hZ e238 E_b221
                obtain ⟨v240, _, ⟨T240, L240, k240, n240⟩, -, X240, ⟨Lc240, hQ240, l240, y240, z240⟩, st240⟩ := X238.virtualBack hx (y := (⟨"com/example/honest_replica/honestreplica/model/Endpoint", "equals", "(Ljava/lang/Object;)Z"⟩ : MethodName)) (z := (⟨"com/example/honest_replica/honestreplica/model/Endpoint", "equals", "(Ljava/lang/Object;)Z"⟩ : MethodName)) hown (mvT hZ (hw _ (List.mem_of_getElem? (i := 52) rfl))) (mvT hZ (hw _ (List.mem_of_getElem? (i := 53) rfl))) (notFace_of_selects (args := #[]) (mvT hZ (hw _ (List.mem_of_getElem? (i := 55) rfl)))) (mvT hZ (hw _ (List.mem_of_getElem? (i := 55) rfl))) (mvT hZ (hw _ (List.mem_of_getElem? (i := 54) rfl))) (by decide) (backOf (W := 0) (rm_q l Z a0 hw [] b221 b218 b222 b215 p2 (z4 &&& (65535 : Int32)) t223 kb223 (2 : Int32) ((([c8, c10] : List Int32).map (fun c => c.toInt8.toInt32)).map Value.int) ([c8, c10] : List Int32) t216 kb216 (2 : Int32) ((([c4, c6] : List Int32).map (fun c => c.toInt8.toInt32)).map Value.int) ([c4, c6] : List Int32) wc cl zc hS T224.heap n0 O E_b221 E_b218 Gh224 Gp224 Gh219 Gp219 E_b222 Gv223 Gc223 Vt223 hcd223 (own_up _ hp223) (Nat.le_of_ble_eq_true rfl) E_b215 Gv216 Gc216 Vt216 hcd216 (own_up _ hp216) (Nat.le_of_ble_eq_true rfl)) hZ (hw _ (List.mem_of_getElem? (i := 56) rfl)) (hw _ (List.mem_of_getElem? (i := 37) rfl)) (by decide) (by decide)) q240a q240c (g := (mkF m 302 LL234 [(.ref b218), (.ref b221)])) rfl (by rw [hml]; rfl) (Steps.refl _) (argsL := [(.ref b218)]) (rest := []) (lenOf pd_rm1_3 rfl) rfl (by show 2 * 0 + _ ≤ _; exact Nat.le_of_eq rfl) (hb hby at_302) (fun _ _ => ⟨rfl, e238, (by decide : 8 + 0 ≤ _), (by decide : 20 + 0 ≤ _)⟩)
                dsimp only [Pt.U, Pt.locs, Pt.cells, Pt.slots] at X240 l240 y240 z240 st240 hQ240
                subst l240 y240 z240
                obtain ⟨hv240, Nq240, e240⟩ := hQ240
                have hz240 : eqs ([c8, c10] : List Int32) p2 ([c4, c6] : List Int32) (z4 &&& (65535 : Int32)) = 1 := by simp [eqs, hc220_227, hc233_229, hc252_232]
                rw [hz240] at hv240
                subst hv240
                replace N := Fr.app N Nq240
                refine Go.by (T' := T240) (f' := (mkF m 305 LL234 [(.int (1 : Int32))])) (fun _ k => st240.trans k) ?_
                refine Go.by (T' := T240) (f' := (mkF m 307 LL234 [(.int (1 : Int32)), (.int (1 : Int32))])) (fun _ k => XS.iload X240.here hx rfl (hb hby at_305) rfl k) ?_
                refine Go.by (T' := T240) (f' := (mkF m 310 LL234 [])) (fun _ k => XS.icmpNo X240.here hx rfl (hb hby at_307) rfl (teq (by decide : (1 : Int32) = (1 : Int32))).2 k) ?_
                refine Go.by (T' := T240) (f' := (mkF m 311 LL234 [(.int (1 : Int32))])) (fun _ k => XS.iconst X240.here hx rfl (hb hby at_310) k) ?_
                refine Go.by (T' := T240) (f' := (mkF m 315 LL234 [(.int (1 : Int32))])) (fun _ k => XS.goto X240.here hx rfl (pc0 := 311) (pc' := 315) rfl (hb hby at_311) (by decide) (by decide) k) ?_
                obtain ⟨fs, hr, hrun, hended, hW, hsame⟩ := X240.leave (v := some (.int (1 : Int32))) (fun h => by rw [Bd.returns] at h; cases h)
                refine ⟨_, _, retN X240 hx (t := .boolean) Bd.returns (by simp) (hb hby at_315) hr, hrun, hended, _, _, rfl, ?_, ⟨_, rfl⟩, hW, hsame.mono (by decide) (by decide)⟩
                show Q1 n0 (some (.int (1 : Int32))) T240.heap _
                rw [e240]
                exact ⟨rfl, N⟩
              · skip
                refine Go.by (T' := T235) (f' := (mkF m 316 LL234 [])) (fun _ k => XS.ifYes X235.here hx rfl (pc0 := 283) (pc' := 316) rfl (hb hby at_283) rfl ((if0 _ _).trans (feq hc283_237).2) (by decide) (by decide) k) ?_
                refine Go.by (T' := T235) (f' := (mkF m 318 LL234 [(.int (((z0.toUInt32 >>> ((1 : Int32) &&& 31).toUInt32).toInt32) &&& (3 : Int32)))])) (fun _ k => XS.iload X235.here hx rfl (hb hby at_316) rfl k) ?_
                refine Go.by (T' := T235) (f' := (mkF m 319 LL234 [(.int (1 : Int32)), (.int (((z0.toUInt32 >>> ((1 : Int32) &&& 31).toUInt32).toInt32) &&& (3 : Int32)))])) (fun _ k => XS.iconst X235.here hx rfl (hb hby at_318) k) ?_
                by_cases hc319_242 : (((z0.toUInt32 >>> ((1 : Int32) &&& 31).toUInt32).toInt32) &&& (3 : Int32)) = (1 : Int32)
                · skip
                  refine Go.by (T' := T235) (f' := (mkF m 322 LL234 [])) (fun _ k => XS.icmpNo X235.here hx rfl (hb hby at_319) rfl (teq hc319_242).2 k) ?_
                  refine Go.by (T' := T235) (f' := (mkF m 323 LL234 [.null])) (fun _ k => XS.aconstNull X235.here hx rfl (hb hby at_322) k) ?_
                  let LL243 : Array Slot := #[.val (.int z0), .val (.int z1), .val (.int z2), .val (.int z3), .val (.int z4), .val (.int z5), .val (.int ((1 : Int32) + (z0 &&& (1 : Int32)))), .val (.int ((1 : Int32) + (z1 &&& (1 : Int32)))), .val (.int c4), .val (.int c6), .val (.int c8), .val (.int c10), .val (.ref b157), .val (.ref b208), .val (.int (z4 &&& (65535 : Int32))), .val (.int (z5 &&& (3 : Int32))), .val (.int p2), .val (.ref b215), .val (.ref b218), .val (.ref b221), .val (.int (1 : Int32)), .val (.int (1 : Int32)), .val (.int (((z0.toUInt32 >>> ((1 : Int32) &&& 31).toUInt32).toInt32) &&& (3 : Int32))), .val .null]
                  refine Go.by (T' := T235) (f' := (mkF m 325 LL243 [])) (fun _ k => XS.astore X235.here hx rfl (hb hby at_323) rfl rfl (l' := LL243) rfl k) ?_
                  refine Go.by (T' := T235) (f' := (mkF m 348 LL243 [])) (fun _ k => XS.goto X235.here hx rfl (pc0 := 325) (pc' := 348) rfl (hb hby at_325) (by decide) (by decide) k) ?_
                  refine Go.by (T' := T235) (f' := (mkF m 350 LL243 [(.ref b218)])) (fun _ k => XS.aload X235.here hx rfl (hb hby at_348) rfl rfl k) ?_
                  refine Go.by (T' := T235) (f' := (mkF m 352 LL243 [.null, (.ref b218)])) (fun _ k => XS.aload X235.here hx rfl (hb hby at_350) rfl rfl k) ?_
                  obtain ⟨cq244, kq244, q244a, q244b, q244c⟩ := isOf hZ e235 E_b218
                  obtain ⟨v244, _, ⟨T244, L244, k244, n244⟩, -, X244, ⟨Lc244, hQ244, l244, y244, z244⟩, st244⟩ := X235.virtualBack hx (y := (⟨"com/example/honest_replica/honestreplica/model/Endpoint", "equals", "(Ljava/lang/Object;)Z"⟩ : MethodName)) (z := (⟨"com/example/honest_replica/honestreplica/model/Endpoint", "equals", "(Ljava/lang/Object;)Z"⟩ : MethodName)) hown (mvT hZ (hw _ (List.mem_of_getElem? (i := 52) rfl))) (mvT hZ (hw _ (List.mem_of_getElem? (i := 53) rfl))) (notFace_of_selects (args := #[]) (mvT hZ (hw _ (List.mem_of_getElem? (i := 55) rfl)))) (mvT hZ (hw _ (List.mem_of_getElem? (i := 55) rfl))) (mvT hZ (hw _ (List.mem_of_getElem? (i := 54) rfl))) (by decide) (backOf (W := 0) (rm_qn l Z a0 hw [] b218 T224.heap n0 O) hZ (hw _ (List.mem_of_getElem? (i := 56) rfl)) (hw _ (List.mem_of_getElem? (i := 37) rfl)) (by decide) (by decide)) q244a q244c (g := (mkF m 352 LL243 [.null, (.ref b218)])) rfl (by rw [hml]; rfl) (Steps.refl _) (argsL := [.null]) (rest := []) (lenOf pd_rm1_3 rfl) rfl (by show 2 * 0 + _ ≤ _; exact Nat.le_of_eq rfl) (hb hby at_352) (fun _ _ => ⟨rfl, e235, (by decide : 8 + 0 ≤ _), (by decide : 20 + 0 ≤ _)⟩)
                  dsimp only [Pt.U, Pt.locs, Pt.cells, Pt.slots] at X244 l244 y244 z244 st244 hQ244
                  subst l244 y244 z244
                  obtain ⟨rfl, Nq244, e244⟩ := hQ244
                  replace N := Fr.app N Nq244
                  refine Go.by (T' := T244) (f' := (mkF m 355 LL243 [(.int (0 : Int32))])) (fun _ k => st244.trans k) ?_
                  refine Go.by (T' := T244) (f' := (mkF m 358 LL243 [])) (fun _ k => XS.ifNo X244.here hx rfl (hb hby at_355) rfl ((if0 _ _).trans (teq (by decide : (0 : Int32) = (0 : Int32))).2) k) ?_
                  refine Go.by (T' := T244) (f' := (mkF m 359 LL243 [(.int (1 : Int32))])) (fun _ k => XS.iconst X244.here hx rfl (hb hby at_358) k) ?_
                  refine Go.by (T' := T244) (f' := (mkF m 363 LL243 [(.int (1 : Int32))])) (fun _ k => XS.goto X244.here hx rfl (pc0 := 359) (pc' := 363) rfl (hb hby at_359) (by decide) (by decide) k) ?_
                  obtain ⟨fs, hr, hrun, hended, hW, hsame⟩ := X244.leave (v := some (.int (1 : Int32))) (fun h => by rw [Bd.returns] at h; cases h)
                  refine ⟨_, _, retN X244 hx (t := .boolean) Bd.returns (by simp) (hb hby at_363) hr, hrun, hended, _, _, rfl, ?_, ⟨_, rfl⟩, hW, hsame.mono (by decide) (by decide)⟩
                  show Q1 n0 (some (.int (1 : Int32))) T244.heap _
                  rw [e244]
                  exact ⟨rfl, N⟩
                · skip
                  refine Go.by (T' := T235) (f' := (mkF m 328 LL234 [])) (fun _ k => XS.icmpYes X235.here hx rfl (pc0 := 319) (pc' := 328) rfl (hb hby at_319) rfl (feq hc319_242).2 (by decide) (by decide) k) ?_
                  refine Go.by (T' := T235) (f' := (mkF m 330 LL234 [(.int (((z0.toUInt32 >>> ((1 : Int32) &&& 31).toUInt32).toInt32) &&& (3 : Int32)))])) (fun _ k => XS.iload X235.here hx rfl (hb hby at_328) rfl k) ?_
                  refine Go.by (T' := T235) (f' := (mkF m 331 LL234 [(.int (2 : Int32)), (.int (((z0.toUInt32 >>> ((1 : Int32) &&& 31).toUInt32).toInt32) &&& (3 : Int32)))])) (fun _ k => XS.iconst X235.here hx rfl (hb hby at_330) k) ?_
                  by_cases hc331_246 : (((z0.toUInt32 >>> ((1 : Int32) &&& 31).toUInt32).toInt32) &&& (3 : Int32)) = (2 : Int32)
                  · skip
                    refine Go.by (T' := T235) (f' := (mkF m 334 LL234 [])) (fun _ k => XS.icmpNo X235.here hx rfl (hb hby at_331) rfl (teq hc331_246).2 k) ?_
                    refine Go.by (T' := T235) (f' := (mkF m 336 LL234 [(.ref b215)])) (fun _ k => XS.aload X235.here hx rfl (hb hby at_334) rfl rfl k) ?_
                    let LL247 : Array Slot := #[.val (.int z0), .val (.int z1), .val (.int z2), .val (.int z3), .val (.int z4), .val (.int z5), .val (.int ((1 : Int32) + (z0 &&& (1 : Int32)))), .val (.int ((1 : Int32) + (z1 &&& (1 : Int32)))), .val (.int c4), .val (.int c6), .val (.int c8), .val (.int c10), .val (.ref b157), .val (.ref b208), .val (.int (z4 &&& (65535 : Int32))), .val (.int (z5 &&& (3 : Int32))), .val (.int p2), .val (.ref b215), .val (.ref b218), .val (.ref b221), .val (.int (1 : Int32)), .val (.int (1 : Int32)), .val (.int (((z0.toUInt32 >>> ((1 : Int32) &&& 31).toUInt32).toInt32) &&& (3 : Int32))), .val (.ref b215)]
                    refine Go.by (T' := T235) (f' := (mkF m 338 LL247 [])) (fun _ k => XS.astore X235.here hx rfl (hb hby at_336) rfl rfl (l' := LL247) rfl k) ?_
                    refine Go.by (T' := T235) (f' := (mkF m 348 LL247 [])) (fun _ k => XS.goto X235.here hx rfl (pc0 := 338) (pc' := 348) rfl (hb hby at_338) (by decide) (by decide) k) ?_
                    refine Go.by (T' := T235) (f' := (mkF m 350 LL247 [(.ref b218)])) (fun _ k => XS.aload X235.here hx rfl (hb hby at_348) rfl rfl k) ?_
                    refine Go.by (T' := T235) (f' := (mkF m 352 LL247 [(.ref b215), (.ref b218)])) (fun _ k => XS.aload X235.here hx rfl (hb hby at_350) rfl rfl k) ?_
                    obtain ⟨cq248, kq248, q248a, q248b, q248c⟩ := isOf hZ e235 E_b218
                    obtain ⟨v248, _, ⟨T248, L248, k248, n248⟩, -, X248, ⟨Lc248, hQ248, l248, y248, z248⟩, st248⟩ := X235.virtualBack hx (y := (⟨"com/example/honest_replica/honestreplica/model/Endpoint", "equals", "(Ljava/lang/Object;)Z"⟩ : MethodName)) (z := (⟨"com/example/honest_replica/honestreplica/model/Endpoint", "equals", "(Ljava/lang/Object;)Z"⟩ : MethodName)) hown (mvT hZ (hw _ (List.mem_of_getElem? (i := 52) rfl))) (mvT hZ (hw _ (List.mem_of_getElem? (i := 53) rfl))) (notFace_of_selects (args := #[]) (mvT hZ (hw _ (List.mem_of_getElem? (i := 55) rfl)))) (mvT hZ (hw _ (List.mem_of_getElem? (i := 55) rfl))) (mvT hZ (hw _ (List.mem_of_getElem? (i := 54) rfl))) (by decide) (backOf (W := 0) (rm_qs l Z a0 hw [] b218 b215 T224.heap n0 O E_b215) hZ (hw _ (List.mem_of_getElem? (i := 56) rfl)) (hw _ (List.mem_of_getElem? (i := 37) rfl)) (by decide) (by decide)) q248a q248c (g := (mkF m 352 LL247 [(.ref b215), (.ref b218)])) rfl (by rw [hml]; rfl) (Steps.refl _) (argsL := [(.ref b215)]) (rest := []) (lenOf pd_rm1_3 rfl) rfl (by show 2 * 0 + _ ≤ _; exact Nat.le_of_eq rfl) (hb hby at_352) (fun _ _ => ⟨rfl, e235, (by decide : 8 + 0 ≤ _), (by decide : 20 + 0 ≤ _)⟩)
                    dsimp only [Pt.U, Pt.locs, Pt.cells, Pt.slots] at X248 l248 y248 z248 st248 hQ248
                    subst l248 y248 z248
                    obtain ⟨rfl, Nq248, e248⟩ := hQ248
                    replace N := Fr.app N Nq248
                    refine Go.by (T' := T248) (f' := (mkF m 355 LL247 [(.int (0 : Int32))])) (fun _ k => st248.trans k) ?_
                    refine Go.by (T' := T248) (f' := (mkF m 358 LL247 [])) (fun _ k => XS.ifNo X248.here hx rfl (hb hby at_355) rfl ((if0 _ _).trans (teq (by decide : (0 : Int32) = (0 : Int32))).2) k) ?_
                    refine Go.by (T' := T248) (f' := (mkF m 359 LL247 [(.int (1 : Int32))])) (fun _ k => XS.iconst X248.here hx rfl (hb hby at_358) k) ?_
                    refine Go.by (T' := T248) (f' := (mkF m 363 LL247 [(.int (1 : Int32))])) (fun _ k => XS.goto X248.here hx rfl (pc0 := 359) (pc' := 363) rfl (hb hby at_359) (by decide) (by decide) k) ?_
                    obtain ⟨fs, hr, hrun, hended, hW, hsame⟩ := X248.leave (v := some (.int (1 : Int32))) (fun h => by rw [Bd.returns] at h; cases h)
                    refine ⟨_, _, retN X248 hx (t := .boolean) Bd.returns (by simp) (hb hby at_363) hr, hrun, hended, _, _, rfl, ?_, ⟨_, rfl⟩, hW, hsame.mono (by decide) (by decide)⟩
                    show Q1 n0 (some (.int (1 : Int32))) T248.heap _
                    rw [e248]
                    exact ⟨rfl, N⟩
                  · skip
                    refine Go.by (T' := T235) (f' := (mkF m 341 LL234 [])) (fun _ k => XS.icmpYes X235.here hx rfl (pc0 := 331) (pc' := 341) rfl (hb hby at_331) rfl (feq hc331_246).2 (by decide) (by decide) k) ?_
                    refine Go.by (T' := T235) (f' := (mkF m 343 LL234 [(.int (z4 &&& (65535 : Int32)))])) (fun _ k => XS.iload X235.here hx rfl (hb hby at_341) rfl k) ?_
                    obtain ⟨v250, _, ⟨T250, L250, k250, n250⟩, -, X250, ⟨Lc250, hQ250, l250, y250, z250⟩, st250⟩ := Jvm.LawKit.callS X235 hx (y := (⟨"java/lang/Integer", "valueOf", "(I)Ljava/lang/Integer;"⟩ : MethodName)) hown (mvT hZ (hw _ (List.mem_of_getElem? (i := 71) rfl))) (mvT hZ (hw _ (List.mem_of_getElem? (i := 72) rfl))) (mvT hZ (hw _ (List.mem_of_getElem? (i := 73) rfl))) (mvT hZ (hw _ (List.mem_of_getElem? (i := 74) rfl))) (by decide) (backOf (W := 0) (rm_vo l Z a0 hw [] (z4 &&& (65535 : Int32)) wc cl zc hS T224.heap n0 O) hZ (hw _ (List.mem_of_getElem? (i := 74) rfl)) (hw _ (List.mem_of_getElem? (i := 73) rfl)) (by decide) (by decide)) (g := (mkF m 343 LL234 [(.int (z4 &&& (65535 : Int32)))])) rfl (by rw [hml]; rfl) (argsL := [(.int (z4 &&& (65535 : Int32)))]) (rest := []) (lenOf pd_rm1_4 rfl) rfl (by show 2 * 0 + _ ≤ _; exact Nat.le_of_eq rfl) (hb hby at_343) (fun _ _ => ⟨rfl, e235, (by decide : 8 + 1 ≤ _), (by decide : 20 + 1 ≤ _)⟩)
                    dsimp only [Pt.U, Pt.locs, Pt.cells, Pt.slots] at X250 l250 y250 z250 st250 hQ250
                    subst l250 y250 z250
                    obtain ⟨bx250, rfl, Nq250, K250, E_bx250⟩ := hQ250
                    replace N := Fr.app N Nq250
                    replace V_b157 := V_b157.keep K250 nin0
                    replace V_b208 := V_b208.keep K250 nin0
                    replace E_b215 := E_b215.keep K250
                    replace Gc216 := Gc216.keep K250 nin0
                    replace Gv216 := Gv216.keep K250 nin0
                    replace Vt216 := Vt216.keep K250 nin0
                    replace E_b218 := E_b218.keep K250
                    replace Gh219 := Gh219.keep K250 nin0
                    replace Gp219 := Gp219.keep K250 nin0
                    replace E_b221 := E_b221.keep K250
                    replace E_b222 := E_b222.keep K250
                    replace Gc223 := Gc223.keep K250 nin0
                    replace Gv223 := Gv223.keep K250 nin0
                    replace Vt223 := Vt223.keep K250 nin0
                    replace Gh224 := Gh224.keep K250 nin0
                    replace Gp224 := Gp224.keep K250 nin0
                    replace O := O.keep K250 all0
                    replace K := K.trans K250 all0
                    refine Go.by (T' := T250) (f' := (mkF m 346 LL234 [(.ref bx250)])) (st250) ?_
                    let LL251 : Array Slot := #[.val (.int z0), .val (.int z1), .val (.int z2), .val (.int z3), .val (.int z4), .val (.int z5), .val (.int ((1 : Int32) + (z0 &&& (1 : Int32)))), .val (.int ((1 : Int32) + (z1 &&& (1 : Int32)))), .val (.int c4), .val (.int c6), .val (.int c8), .val (.int c10), .val (.ref b157), .val (.ref b208), .val (.int (z4 &&& (65535 : Int32))), .val (.int (z5 &&& (3 : Int32))), .val (.int p2), .val (.ref b215), .val (.ref b218), .val (.ref b221), .val (.int (1 : Int32)), .val (.int (1 : Int32)), .val (.int (((z0.toUInt32 >>> ((1 : Int32) &&& 31).toUInt32).toInt32) &&& (3 : Int32))), .val (.ref bx250)]
                    refine Go.by (T' := T250) (f' := (mkF m 348 LL251 [])) (fun _ k => XS.astore X250.here hx rfl (hb hby at_346) rfl rfl (l' := LL251) rfl k) ?_
                    refine Go.by (T' := T250) (f' := (mkF m 350 LL251 [(.ref b218)])) (fun _ k => XS.aload X250.here hx rfl (hb hby at_348) rfl rfl k) ?_
                    refine Go.by (T' := T250) (f' := (mkF m 352 LL251 [(.ref bx250), (.ref b218)])) (fun _ k => XS.aload X250.here hx rfl (hb hby at_350) rfl rfl k) ?_
                    obtain ⟨cq252, kq252, q252a, q252b, q252c⟩ := isOf hZ rfl E_b218
                    obtain ⟨v252, _, ⟨T252, L252, k252, n252⟩, -, X252, ⟨Lc252, hQ252, l252, y252, z252⟩, st252⟩ := X250.virtualBack hx (y := (⟨"com/example/honest_replica/honestreplica/model/Endpoint", "equals", "(Ljava/lang/Object;)Z"⟩ : MethodName)) (z := (⟨"com/example/honest_replica/honestreplica/model/Endpoint", "equals", "(Ljava/lang/Object;)Z"⟩ : MethodName)) hown (mvT hZ (hw _ (List.mem_of_getElem? (i := 52) rfl))) (mvT hZ (hw _ (List.mem_of_getElem? (i := 53) rfl))) (notFace_of_selects (args := #[]) (mvT hZ (hw _ (List.mem_of_getElem? (i := 55) rfl)))) (mvT hZ (hw _ (List.mem_of_getElem? (i := 55) rfl))) (mvT hZ (hw _ (List.mem_of_getElem? (i := 54) rfl))) (by decide) (backOf (W := 0) (rm_qi l Z a0 hw [] b218 bx250 T250.heap n0 O E_bx250) hZ (hw _ (List.mem_of_getElem? (i := 56) rfl)) (hw _ (List.mem_of_getElem? (i := 37) rfl)) (by decide) (by decide)) q252a q252c (g := (mkF m 352 LL251 [(.ref bx250), (.ref b218)])) rfl (by rw [hml]; rfl) (Steps.refl _) (argsL := [(.ref bx250)]) (rest := []) (lenOf pd_rm1_3 rfl) rfl (by show 2 * 0 + _ ≤ _; exact Nat.le_of_eq rfl) (hb hby at_352) (fun _ _ => ⟨rfl, rfl, (by decide : 9 + 0 ≤ _), (by decide : 21 + 0 ≤ _)⟩)
                    dsimp only [Pt.U, Pt.locs, Pt.cells, Pt.slots] at X252 l252 y252 z252 st252 hQ252
                    subst l252 y252 z252
                    obtain ⟨rfl, Nq252, e252⟩ := hQ252
                    replace N := Fr.app N Nq252
                    refine Go.by (T' := T252) (f' := (mkF m 355 LL251 [(.int (0 : Int32))])) (fun _ k => st252.trans k) ?_
                    refine Go.by (T' := T252) (f' := (mkF m 358 LL251 [])) (fun _ k => XS.ifNo X252.here hx rfl (hb hby at_355) rfl ((if0 _ _).trans (teq (by decide : (0 : Int32) = (0 : Int32))).2) k) ?_
                    refine Go.by (T' := T252) (f' := (mkF m 359 LL251 [(.int (1 : Int32))])) (fun _ k => XS.iconst X252.here hx rfl (hb hby at_358) k) ?_
                    refine Go.by (T' := T252) (f' := (mkF m 363 LL251 [(.int (1 : Int32))])) (fun _ k => XS.goto X252.here hx rfl (pc0 := 359) (pc' := 363) rfl (hb hby at_359) (by decide) (by decide) k) ?_
                    obtain ⟨fs, hr, hrun, hended, hW, hsame⟩ := X252.leave (v := some (.int (1 : Int32))) (fun h => by rw [Bd.returns] at h; cases h)
                    refine ⟨_, _, retN X252 hx (t := .boolean) Bd.returns (by simp) (hb hby at_363) hr, hrun, hended, _, _, rfl, ?_, ⟨_, rfl⟩, hW, hsame.mono (by decide) (by decide)⟩
                    show Q1 n0 (some (.int (1 : Int32))) T252.heap _
                    rw [e252]
                    exact ⟨rfl, N⟩
            · skip
              refine Go.by (T' := T224) (f' := (mkF m 259 LL230 [])) (fun _ k => XS.icmpYes X224.here hx rfl (pc0 := 252) (pc' := 259) rfl (hb hby at_252) rfl (feq hc252_232).2 (by decide) (by decide) k) ?_
              refine Go.by (T' := T224) (f' := (mkF m 260 LL230 [(.int (0 : Int32))])) (fun _ k => XS.iconst X224.here hx rfl (hb hby at_259) k) ?_
              let LL254 : Array Slot := #[.val (.int z0), .val (.int z1), .val (.int z2), .val (.int z3), .val (.int z4), .val (.int z5), .val (.int ((1 : Int32) + (z0 &&& (1 : Int32)))), .val (.int ((1 : Int32) + (z1 &&& (1 : Int32)))), .val (.int c4), .val (.int c6), .val (.int c8), .val (.int c10), .val (.ref b157), .val (.ref b208), .val (.int (z4 &&& (65535 : Int32))), .val (.int (z5 &&& (3 : Int32))), .val (.int p2), .val (.ref b215), .val (.ref b218), .val (.ref b221), .val (.int (1 : Int32)), .val (.int (0 : Int32)), .unset, .unset]
              refine Go.by (T' := T224) (f' := (mkF m 262 LL254 [])) (fun _ k => XS.istore X224.here hx rfl (hb hby at_260) rfl (l' := LL254) rfl k) ?_
              refine Go.by (T' := T224) (f' := (mkF m 263 LL254 [(.int z0)])) (fun _ k => XS.iloadN X224.here hx rfl (hb hby at_262) rfl k) ?_
              refine Go.by (T' := T224) (f' := (mkF m 264 LL254 [(.int (1 : Int32)), (.int z0)])) (fun _ k => XS.iconst X224.here hx rfl (hb hby at_263) k) ?_
              refine Go.by (T' := T224) (f' := (mkF m 265 LL254 [(.int ((z0.toUInt32 >>> ((1 : Int32) &&& 31).toUInt32).toInt32))])) (fun _ k => XS.iushr X224.here hx rfl (hb hby at_264) rfl k) ?_
              refine Go.by (T' := T224) (f' := (mkF m 266 LL254 [(.int (3 : Int32)), (.int ((z0.toUInt32 >>> ((1 : Int32) &&& 31).toUInt32).toInt32))])) (fun _ k => XS.iconst X224.here hx rfl (hb hby at_265) k) ?_
              refine Go.by (T' := T224) (f' := (mkF m 267 LL254 [(.int (((z0.toUInt32 >>> ((1 : Int32) &&& 31).toUInt32).toInt32) &&& (3 : Int32)))])) (fun _ k => XS.iand X224.here hx rfl (hb hby at_266) rfl k) ?_
              let LL255 : Array Slot := #[.val (.int z0), .val (.int z1), .val (.int z2), .val (.int z3), .val (.int z4), .val (.int z5), .val (.int ((1 : Int32) + (z0 &&& (1 : Int32)))), .val (.int ((1 : Int32) + (z1 &&& (1 : Int32)))), .val (.int c4), .val (.int c6), .val (.int c8), .val (.int c10), .val (.ref b157), .val (.ref b208), .val (.int (z4 &&& (65535 : Int32))), .val (.int (z5 &&& (3 : Int32))), .val (.int p2), .val (.ref b215), .val (.ref b218), .val (.ref b221), .val (.int (1 : Int32)), .val (.int (0 : Int32)), .val (.int (((z0.toUInt32 >>> ((1 : Int32) &&& 31).toUInt32).toInt32) &&& (3 : Int32))), .unset]
              refine Go.by (T' := T224) (f' := (mkF m 269 LL255 [])) (fun _ k => XS.istore X224.here hx rfl (hb hby at_267) rfl (l' := LL255) rfl k) ?_
              refine Go.by (T' := T224) (f' := (mkF m 271 LL255 [(.ref b218)])) (fun _ k => XS.aload X224.here hx rfl (hb hby at_269) rfl rfl k) ?_
              refine Go.by (T' := T224) (f' := (mkF m 273 LL255 [(.ref b218), (.ref b218)])) (fun _ k => XS.aload X224.here hx rfl (hb hby at_271) rfl rfl k) ?_
              obtain ⟨cq256, kq256, q256a, q256b, q256c⟩ := isOf hZ rfl E_b218
              obtain ⟨v256, _, ⟨T256, L256, k256, n256⟩, -, X256, ⟨Lc256, hQ256, l256, y256, z256⟩, st256⟩ := X224.virtualBack hx (y := (⟨"com/example/honest_replica/honestreplica/model/Endpoint", "equals", "(Ljava/lang/Object;)Z"⟩ : MethodName)) (z := (⟨"com/example/honest_replica/honestreplica/model/Endpoint", "equals", "(Ljava/lang/Object;)Z"⟩ : MethodName)) hown (mvT hZ (hw _ (List.mem_of_getElem? (i := 52) rfl))) (mvT hZ (hw _ (List.mem_of_getElem? (i := 53) rfl))) (notFace_of_selects (args := #[]) (mvT hZ (hw _ (List.mem_of_getElem? (i := 55) rfl)))) (mvT hZ (hw _ (List.mem_of_getElem? (i := 55) rfl))) (mvT hZ (hw _ (List.mem_of_getElem? (i := 54) rfl))) (by decide) (backOf (W := 0) (rm_q l Z a0 hw [] b218 b218 b215 b215 (z4 &&& (65535 : Int32)) (z4 &&& (65535 : Int32)) t216 kb216 (2 : Int32) ((([c4, c6] : List Int32).map (fun c => c.toInt8.toInt32)).map Value.int) ([c4, c6] : List Int32) t216 kb216 (2 : Int32) ((([c4, c6] : List Int32).map (fun c => c.toInt8.toInt32)).map Value.int) ([c4, c6] : List Int32) wc cl zc hS T224.heap n0 O E_b218 E_b218 Gh219 Gp219 Gh219 Gp219 E_b215 Gv216 Gc216 Vt216 hcd216 (own_up _ hp216) (Nat.le_of_ble_eq_true rfl) E_b215 Gv216 Gc216 Vt216 hcd216 (own_up _ hp216) (Nat.le_of_ble_eq_true rfl)) hZ (hw _ (List.mem_of_getElem? (i := 56) rfl)) (hw _ (List.mem_of_getElem? (i := 37) rfl)) (by decide) (by decide)) q256a q256c (g := (mkF m 273 LL255 [(.ref b218), (.ref b218)])) rfl (by rw [hml]; rfl) (Steps.refl _) (argsL := [(.ref b218)]) (rest := []) (lenOf pd_rm1_3 rfl) rfl (by show 2 * 0 + _ ≤ _; exact Nat.le_of_eq rfl) (hb hby at_273) (fun _ _ => ⟨rfl, rfl, (by decide : 8 + 0 ≤ _), (by decide : 20 + 0 ≤ _)⟩)
              dsimp only [Pt.U, Pt.locs, Pt.cells, Pt.slots] at X256 l256 y256 z256 st256 hQ256
              subst l256 y256 z256
              obtain ⟨hv256, Nq256, e256⟩ := hQ256
              have hz256 : eqs ([c4, c6] : List Int32) (z4 &&& (65535 : Int32)) ([c4, c6] : List Int32) (z4 &&& (65535 : Int32)) = 1 := by simp [eqs]
              rw [hz256] at hv256
              subst hv256
              replace N := Fr.app N Nq256
              refine Go.by (T' := T256) (f' := (mkF m 276 LL255 [(.int (1 : Int32))])) (fun _ k => st256.trans k) ?_
              refine Go.by (T' := T256) (f' := (mkF m 281 LL255 [])) (fun _ k => XS.ifYes X256.here hx rfl (pc0 := 276) (pc' := 281) rfl (hb hby at_276) rfl ((if0 _ _).trans (feq (by decide : ¬ ((1 : Int32) = (0 : Int32)))).2) (by decide) (by decide) k) ?_
              refine Go.by (T' := T256) (f' := (mkF m 283 LL255 [(.int (((z0.toUInt32 >>> ((1 : Int32) &&& 31).toUInt32).toInt32) &&& (3 : Int32)))])) (fun _ k => XS.iload X256.here hx rfl (hb hby at_281) rfl k) ?_
              by_cases hc283_258 : (((z0.toUInt32 >>> ((1 : Int32) &&& 31).toUInt32).toInt32) &&& (3 : Int32)) = (0 : Int32)
              · skip
                refine Go.by (T' := T256) (f' := (mkF m 286 LL255 [])) (fun _ k => XS.ifNo X256.here hx rfl (hb hby at_283) rfl ((if0 _ _).trans (teq hc283_258).2) k) ?_
                refine Go.by (T' := T256) (f' := (mkF m 288 LL255 [(.ref b218)])) (fun _ k => XS.aload X256.here hx rfl (hb hby at_286) rfl rfl k) ?_
                refine Go.by (T' := T256) (f' := (mkF m 290 LL255 [(.ref b221), (.ref b218)])) (fun _ k => XS.aload X256.here hx rfl (hb hby at_288) rfl rfl k) ?_
                obtain ⟨cq259, kq259, q259a, q259b, q259c⟩ := isOf hZ e256 E_b218
                obtain ⟨v259, _, ⟨T259, L259, k259, n259⟩, -, X259, ⟨Lc259, hQ259, l259, y259, z259⟩, st259⟩ := X256.virtualBack hx (y := (⟨"com/example/honest_replica/honestreplica/model/Endpoint", "equals", "(Ljava/lang/Object;)Z"⟩ : MethodName)) (z := (⟨"com/example/honest_replica/honestreplica/model/Endpoint", "equals", "(Ljava/lang/Object;)Z"⟩ : MethodName)) hown (mvT hZ (hw _ (List.mem_of_getElem? (i := 52) rfl))) (mvT hZ (hw _ (List.mem_of_getElem? (i := 53) rfl))) (notFace_of_selects (args := #[]) (mvT hZ (hw _ (List.mem_of_getElem? (i := 55) rfl)))) (mvT hZ (hw _ (List.mem_of_getElem? (i := 55) rfl))) (mvT hZ (hw _ (List.mem_of_getElem? (i := 54) rfl))) (by decide) (backOf (W := 0) (rm_q l Z a0 hw [] b218 b221 b215 b222 (z4 &&& (65535 : Int32)) p2 t216 kb216 (2 : Int32) ((([c4, c6] : List Int32).map (fun c => c.toInt8.toInt32)).map Value.int) ([c4, c6] : List Int32) t223 kb223 (2 : Int32) ((([c8, c10] : List Int32).map (fun c => c.toInt8.toInt32)).map Value.int) ([c8, c10] : List Int32) wc cl zc hS T224.heap n0 O E_b218 E_b221 Gh219 Gp219 Gh224 Gp224 E_b215 Gv216 Gc216 Vt216 hcd216 (own_up _ hp216) (Nat.le_of_ble_eq_true rfl) E_b222 Gv223 Gc223 Vt223 hcd223 (own_up _ hp223) (Nat.le_of_ble_eq_true rfl)) hZ (hw _ (List.mem_of_getElem? (i := 56) rfl)) (hw _ (List.mem_of_getElem? (i := 37) rfl)) (by decide) (by decide)) q259a q259c (g := (mkF m 290 LL255 [(.ref b221), (.ref b218)])) rfl (by rw [hml]; rfl) (Steps.refl _) (argsL := [(.ref b221)]) (rest := []) (lenOf pd_rm1_3 rfl) rfl (by show 2 * 0 + _ ≤ _; exact Nat.le_of_eq rfl) (hb hby at_290) (fun _ _ => ⟨rfl, e256, (by decide : 8 + 0 ≤ _), (by decide : 20 + 0 ≤ _)⟩)
                dsimp only [Pt.U, Pt.locs, Pt.cells, Pt.slots] at X259 l259 y259 z259 st259 hQ259
                subst l259 y259 z259
                obtain ⟨hv259, Nq259, e259⟩ := hQ259
                have hz259 : eqs ([c4, c6] : List Int32) (z4 &&& (65535 : Int32)) ([c8, c10] : List Int32) p2 = 0 := by simp [eqs, hc220_227, hc233_229, hc252_232]
                rw [hz259] at hv259
                subst hv259
                replace N := Fr.app N Nq259
                refine Go.by (T' := T259) (f' := (mkF m 293 LL255 [(.int (0 : Int32))])) (fun _ k => st259.trans k) ?_
                refine Go.by (T' := T259) (f' := (mkF m 295 LL255 [(.int (0 : Int32)), (.int (0 : Int32))])) (fun _ k => XS.iload X259.here hx rfl (hb hby at_293) rfl k) ?_
                refine Go.by (T' := T259) (f' := (mkF m 298 LL255 [])) (fun _ k => XS.icmpNo X259.here hx rfl (hb hby at_295) rfl (teq (by decide : (0 : Int32) = (0 : Int32))).2 k) ?_
                refine Go.by (T' := T259) (f' := (mkF m 300 LL255 [(.ref b221)])) (fun _ k => XS.aload X259.here hx rfl (hb hby at_298) rfl rfl k) ?_
                refine Go.by (T' := T259) (f' := (mkF m 302 LL255 [(.ref b218), (.ref b221)])) (fun _ k => XS.aload X259.here hx rfl (hb hby at_300) rfl rfl k) ?_
                obtain ⟨cq261, kq261, q261a, q261b, q261c⟩ := isOf hZ e259 E_b221
                obtain ⟨v261, _, ⟨T261, L261, k261, n261⟩, -, X261, ⟨Lc261, hQ261, l261, y261, z261⟩, st261⟩ := X259.virtualBack hx (y := (⟨"com/example/honest_replica/honestreplica/model/Endpoint", "equals", "(Ljava/lang/Object;)Z"⟩ : MethodName)) (z := (⟨"com/example/honest_replica/honestreplica/model/Endpoint", "equals", "(Ljava/lang/Object;)Z"⟩ : MethodName)) hown (mvT hZ (hw _ (List.mem_of_getElem? (i := 52) rfl))) (mvT hZ (hw _ (List.mem_of_getElem? (i := 53) rfl))) (notFace_of_selects (args := #[]) (mvT hZ (hw _ (List.mem_of_getElem? (i := 55) rfl)))) (mvT hZ (hw _ (List.mem_of_getElem? (i := 55) rfl))) (mvT hZ (hw _ (List.mem_of_getElem? (i := 54) rfl))) (by decide) (backOf (W := 0) (rm_q l Z a0 hw [] b221 b218 b222 b215 p2 (z4 &&& (65535 : Int32)) t223 kb223 (2 : Int32) ((([c8, c10] : List Int32).map (fun c => c.toInt8.toInt32)).map Value.int) ([c8, c10] : List Int32) t216 kb216 (2 : Int32) ((([c4, c6] : List Int32).map (fun c => c.toInt8.toInt32)).map Value.int) ([c4, c6] : List Int32) wc cl zc hS T224.heap n0 O E_b221 E_b218 Gh224 Gp224 Gh219 Gp219 E_b222 Gv223 Gc223 Vt223 hcd223 (own_up _ hp223) (Nat.le_of_ble_eq_true rfl) E_b215 Gv216 Gc216 Vt216 hcd216 (own_up _ hp216) (Nat.le_of_ble_eq_true rfl)) hZ (hw _ (List.mem_of_getElem? (i := 56) rfl)) (hw _ (List.mem_of_getElem? (i := 37) rfl)) (by decide) (by decide)) q261a q261c (g := (mkF m 302 LL255 [(.ref b218), (.ref b221)])) rfl (by rw [hml]; rfl) (Steps.refl _) (argsL := [(.ref b218)]) (rest := []) (lenOf pd_rm1_3 rfl) rfl (by show 2 * 0 + _ ≤ _; exact Nat.le_of_eq rfl) (hb hby at_302) (fun _ _ => ⟨rfl, e259, (by decide : 8 + 0 ≤ _), (by decide : 20 + 0 ≤ _)⟩)
                dsimp only [Pt.U, Pt.locs, Pt.cells, Pt.slots] at X261 l261 y261 z261 st261 hQ261
                subst l261 y261 z261
                obtain ⟨hv261, Nq261, e261⟩ := hQ261
                have hz261 : eqs ([c8, c10] : List Int32) p2 ([c4, c6] : List Int32) (z4 &&& (65535 : Int32)) = 0 := by simp [eqs, hc220_227, hc233_229, (show ¬ p2 = (z4 &&& (65535 : Int32)) from fun q => hc252_232 q.symm)]
                rw [hz261] at hv261
                subst hv261
                replace N := Fr.app N Nq261
                refine Go.by (T' := T261) (f' := (mkF m 305 LL255 [(.int (0 : Int32))])) (fun _ k => st261.trans k) ?_
                refine Go.by (T' := T261) (f' := (mkF m 307 LL255 [(.int (0 : Int32)), (.int (0 : Int32))])) (fun _ k => XS.iload X261.here hx rfl (hb hby at_305) rfl k) ?_
                refine Go.by (T' := T261) (f' := (mkF m 310 LL255 [])) (fun _ k => XS.icmpNo X261.here hx rfl (hb hby at_307) rfl (teq (by decide : (0 : Int32) = (0 : Int32))).2 k) ?_
                refine Go.by (T' := T261) (f' := (mkF m 311 LL255 [(.int (1 : Int32))])) (fun _ k => XS.iconst X261.here hx rfl (hb hby at_310) k) ?_
                refine Go.by (T' := T261) (f' := (mkF m 315 LL255 [(.int (1 : Int32))])) (fun _ k => XS.goto X261.here hx rfl (pc0 := 311) (pc' := 315) rfl (hb hby at_311) (by decide) (by decide) k) ?_
                obtain ⟨fs, hr, hrun, hended, hW, hsame⟩ := X261.leave (v := some (.int (1 : Int32))) (fun h => by rw [Bd.returns] at h; cases h)
                refine ⟨_, _, retN X261 hx (t := .boolean) Bd.returns (by simp) (hb hby at_315) hr, hrun, hended, _, _, rfl, ?_, ⟨_, rfl⟩, hW, hsame.mono (by decide) (by decide)⟩
                show Q1 n0 (some (.int (1 : Int32))) T261.heap _
                rw [e261]
                exact ⟨rfl, N⟩
              · skip
                refine Go.by (T' := T256) (f' := (mkF m 316 LL255 [])) (fun _ k => XS.ifYes X256.here hx rfl (pc0 := 283) (pc' := 316) rfl (hb hby at_283) rfl ((if0 _ _).trans (feq hc283_258).2) (by decide) (by decide) k) ?_
                refine Go.by (T' := T256) (f' := (mkF m 318 LL255 [(.int (((z0.toUInt32 >>> ((1 : Int32) &&& 31).toUInt32).toInt32) &&& (3 : Int32)))])) (fun _ k => XS.iload X256.here hx rfl (hb hby at_316) rfl k) ?_
                refine Go.by (T' := T256) (f' := (mkF m 319 LL255 [(.int (1 : Int32)), (.int (((z0.toUInt32 >>> ((1 : Int32) &&& 31).toUInt32).toInt32) &&& (3 : Int32)))])) (fun _ k => XS.iconst X256.here hx rfl (hb hby at_318) k) ?_
                by_cases hc319_263 : (((z0.toUInt32 >>> ((1 : Int32) &&& 31).toUInt32).toInt32) &&& (3 : Int32)) = (1 : Int32)
                · skip
                  refine Go.by (T' := T256) (f' := (mkF m 322 LL255 [])) (fun _ k => XS.icmpNo X256.here hx rfl (hb hby at_319) rfl (teq hc319_263).2 k) ?_
                  refine Go.by (T' := T256) (f' := (mkF m 323 LL255 [.null])) (fun _ k => XS.aconstNull X256.here hx rfl (hb hby at_322) k) ?_
                  let LL264 : Array Slot := #[.val (.int z0), .val (.int z1), .val (.int z2), .val (.int z3), .val (.int z4), .val (.int z5), .val (.int ((1 : Int32) + (z0 &&& (1 : Int32)))), .val (.int ((1 : Int32) + (z1 &&& (1 : Int32)))), .val (.int c4), .val (.int c6), .val (.int c8), .val (.int c10), .val (.ref b157), .val (.ref b208), .val (.int (z4 &&& (65535 : Int32))), .val (.int (z5 &&& (3 : Int32))), .val (.int p2), .val (.ref b215), .val (.ref b218), .val (.ref b221), .val (.int (1 : Int32)), .val (.int (0 : Int32)), .val (.int (((z0.toUInt32 >>> ((1 : Int32) &&& 31).toUInt32).toInt32) &&& (3 : Int32))), .val .null]
                  refine Go.by (T' := T256) (f' := (mkF m 325 LL264 [])) (fun _ k => XS.astore X256.here hx rfl (hb hby at_323) rfl rfl (l' := LL264) rfl k) ?_
                  refine Go.by (T' := T256) (f' := (mkF m 348 LL264 [])) (fun _ k => XS.goto X256.here hx rfl (pc0 := 325) (pc' := 348) rfl (hb hby at_325) (by decide) (by decide) k) ?_
                  refine Go.by (T' := T256) (f' := (mkF m 350 LL264 [(.ref b218)])) (fun _ k => XS.aload X256.here hx rfl (hb hby at_348) rfl rfl k) ?_
                  refine Go.by (T' := T256) (f' := (mkF m 352 LL264 [.null, (.ref b218)])) (fun _ k => XS.aload X256.here hx rfl (hb hby at_350) rfl rfl k) ?_
                  obtain ⟨cq265, kq265, q265a, q265b, q265c⟩ := isOf hZ e256 E_b218
                  obtain ⟨v265, _, ⟨T265, L265, k265, n265⟩, -, X265, ⟨Lc265, hQ265, l265, y265, z265⟩, st265⟩ := X256.virtualBack hx (y := (⟨"com/example/honest_replica/honestreplica/model/Endpoint", "equals", "(Ljava/lang/Object;)Z"⟩ : MethodName)) (z := (⟨"com/example/honest_replica/honestreplica/model/Endpoint", "equals", "(Ljava/lang/Object;)Z"⟩ : MethodName)) hown (mvT hZ (hw _ (List.mem_of_getElem? (i := 52) rfl))) (mvT hZ (hw _ (List.mem_of_getElem? (i := 53) rfl))) (notFace_of_selects (args := #[]) (mvT hZ (hw _ (List.mem_of_getElem? (i := 55) rfl)))) (mvT hZ (hw _ (List.mem_of_getElem? (i := 55) rfl))) (mvT hZ (hw _ (List.mem_of_getElem? (i := 54) rfl))) (by decide) (backOf (W := 0) (rm_qn l Z a0 hw [] b218 T224.heap n0 O) hZ (hw _ (List.mem_of_getElem? (i := 56) rfl)) (hw _ (List.mem_of_getElem? (i := 37) rfl)) (by decide) (by decide)) q265a q265c (g := (mkF m 352 LL264 [.null, (.ref b218)])) rfl (by rw [hml]; rfl) (Steps.refl _) (argsL := [.null]) (rest := []) (lenOf pd_rm1_3 rfl) rfl (by show 2 * 0 + _ ≤ _; exact Nat.le_of_eq rfl) (hb hby at_352) (fun _ _ => ⟨rfl, e256, (by decide : 8 + 0 ≤ _), (by decide : 20 + 0 ≤ _)⟩)
                  dsimp only [Pt.U, Pt.locs, Pt.cells, Pt.slots] at X265 l265 y265 z265 st265 hQ265
                  subst l265 y265 z265
                  obtain ⟨rfl, Nq265, e265⟩ := hQ265
                  replace N := Fr.app N Nq265
                  refine Go.by (T' := T265) (f' := (mkF m 355 LL264 [(.int (0 : Int32))])) (fun _ k => st265.trans k) ?_
                  refine Go.by (T' := T265) (f' := (mkF m 358 LL264 [])) (fun _ k => XS.ifNo X265.here hx rfl (hb hby at_355) rfl ((if0 _ _).trans (teq (by decide : (0 : Int32) = (0 : Int32))).2) k) ?_
                  refine Go.by (T' := T265) (f' := (mkF m 359 LL264 [(.int (1 : Int32))])) (fun _ k => XS.iconst X265.here hx rfl (hb hby at_358) k) ?_
                  refine Go.by (T' := T265) (f' := (mkF m 363 LL264 [(.int (1 : Int32))])) (fun _ k => XS.goto X265.here hx rfl (pc0 := 359) (pc' := 363) rfl (hb hby at_359) (by decide) (by decide) k) ?_
                  obtain ⟨fs, hr, hrun, hended, hW, hsame⟩ := X265.leave (v := some (.int (1 : Int32))) (fun h => by rw [Bd.returns] at h; cases h)
                  refine ⟨_, _, retN X265 hx (t := .boolean) Bd.returns (by simp) (hb hby at_363) hr, hrun, hended, _, _, rfl, ?_, ⟨_, rfl⟩, hW, hsame.mono (by decide) (by decide)⟩
                  show Q1 n0 (some (.int (1 : Int32))) T265.heap _
                  rw [e265]
                  exact ⟨rfl, N⟩
                · skip
                  refine Go.by (T' := T256) (f' := (mkF m 328 LL255 [])) (fun _ k => XS.icmpYes X256.here hx rfl (pc0 := 319) (pc' := 328) rfl (hb hby at_319) rfl (feq hc319_263).2 (by decide) (by decide) k) ?_
                  refine Go.by (T' := T256) (f' := (mkF m 330 LL255 [(.int (((z0.toUInt32 >>> ((1 : Int32) &&& 31).toUInt32).toInt32) &&& (3 : Int32)))])) (fun _ k => XS.iload X256.here hx rfl (hb hby at_328) rfl k) ?_
                  refine Go.by (T' := T256) (f' := (mkF m 331 LL255 [(.int (2 : Int32)), (.int (((z0.toUInt32 >>> ((1 : Int32) &&& 31).toUInt32).toInt32) &&& (3 : Int32)))])) (fun _ k => XS.iconst X256.here hx rfl (hb hby at_330) k) ?_
                  by_cases hc331_267 : (((z0.toUInt32 >>> ((1 : Int32) &&& 31).toUInt32).toInt32) &&& (3 : Int32)) = (2 : Int32)
                  · skip
                    refine Go.by (T' := T256) (f' := (mkF m 334 LL255 [])) (fun _ k => XS.icmpNo X256.here hx rfl (hb hby at_331) rfl (teq hc331_267).2 k) ?_
                    refine Go.by (T' := T256) (f' := (mkF m 336 LL255 [(.ref b215)])) (fun _ k => XS.aload X256.here hx rfl (hb hby at_334) rfl rfl k) ?_
                    let LL268 : Array Slot := #[.val (.int z0), .val (.int z1), .val (.int z2), .val (.int z3), .val (.int z4), .val (.int z5), .val (.int ((1 : Int32) + (z0 &&& (1 : Int32)))), .val (.int ((1 : Int32) + (z1 &&& (1 : Int32)))), .val (.int c4), .val (.int c6), .val (.int c8), .val (.int c10), .val (.ref b157), .val (.ref b208), .val (.int (z4 &&& (65535 : Int32))), .val (.int (z5 &&& (3 : Int32))), .val (.int p2), .val (.ref b215), .val (.ref b218), .val (.ref b221), .val (.int (1 : Int32)), .val (.int (0 : Int32)), .val (.int (((z0.toUInt32 >>> ((1 : Int32) &&& 31).toUInt32).toInt32) &&& (3 : Int32))), .val (.ref b215)]
                    refine Go.by (T' := T256) (f' := (mkF m 338 LL268 [])) (fun _ k => XS.astore X256.here hx rfl (hb hby at_336) rfl rfl (l' := LL268) rfl k) ?_
                    refine Go.by (T' := T256) (f' := (mkF m 348 LL268 [])) (fun _ k => XS.goto X256.here hx rfl (pc0 := 338) (pc' := 348) rfl (hb hby at_338) (by decide) (by decide) k) ?_
                    refine Go.by (T' := T256) (f' := (mkF m 350 LL268 [(.ref b218)])) (fun _ k => XS.aload X256.here hx rfl (hb hby at_348) rfl rfl k) ?_
                    refine Go.by (T' := T256) (f' := (mkF m 352 LL268 [(.ref b215), (.ref b218)])) (fun _ k => XS.aload X256.here hx rfl (hb hby at_350) rfl rfl k) ?_
                    obtain ⟨cq269, kq269, q269a, q269b, q269c⟩ := isOf hZ e256 E_b218
                    obtain ⟨v269, _, ⟨T269, L269, k269, n269⟩, -, X269, ⟨Lc269, hQ269, l269, y269, z269⟩, st269⟩ := X256.virtualBack hx (y := (⟨"com/example/honest_replica/honestreplica/model/Endpoint", "equals", "(Ljava/lang/Object;)Z"⟩ : MethodName)) (z := (⟨"com/example/honest_replica/honestreplica/model/Endpoint", "equals", "(Ljava/lang/Object;)Z"⟩ : MethodName)) hown (mvT hZ (hw _ (List.mem_of_getElem? (i := 52) rfl))) (mvT hZ (hw _ (List.mem_of_getElem? (i := 53) rfl))) (notFace_of_selects (args := #[]) (mvT hZ (hw _ (List.mem_of_getElem? (i := 55) rfl)))) (mvT hZ (hw _ (List.mem_of_getElem? (i := 55) rfl))) (mvT hZ (hw _ (List.mem_of_getElem? (i := 54) rfl))) (by decide) (backOf (W := 0) (rm_qs l Z a0 hw [] b218 b215 T224.heap n0 O E_b215) hZ (hw _ (List.mem_of_getElem? (i := 56) rfl)) (hw _ (List.mem_of_getElem? (i := 37) rfl)) (by decide) (by decide)) q269a q269c (g := (mkF m 352 LL268 [(.ref b215), (.ref b218)])) rfl (by rw [hml]; rfl) (Steps.refl _) (argsL := [(.ref b215)]) (rest := []) (lenOf pd_rm1_3 rfl) rfl (by show 2 * 0 + _ ≤ _; exact Nat.le_of_eq rfl) (hb hby at_352) (fun _ _ => ⟨rfl, e256, (by decide : 8 + 0 ≤ _), (by decide : 20 + 0 ≤ _)⟩)
                    dsimp only [Pt.U, Pt.locs, Pt.cells, Pt.slots] at X269 l269 y269 z269 st269 hQ269
                    subst l269 y269 z269
                    obtain ⟨rfl, Nq269, e269⟩ := hQ269
                    replace N := Fr.app N Nq269
                    refine Go.by (T' := T269) (f' := (mkF m 355 LL268 [(.int (0 : Int32))])) (fun _ k => st269.trans k) ?_
                    refine Go.by (T' := T269) (f' := (mkF m 358 LL268 [])) (fun _ k => XS.ifNo X269.here hx rfl (hb hby at_355) rfl ((if0 _ _).trans (teq (by decide : (0 : Int32) = (0 : Int32))).2) k) ?_
                    refine Go.by (T' := T269) (f' := (mkF m 359 LL268 [(.int (1 : Int32))])) (fun _ k => XS.iconst X269.here hx rfl (hb hby at_358) k) ?_
                    refine Go.by (T' := T269) (f' := (mkF m 363 LL268 [(.int (1 : Int32))])) (fun _ k => XS.goto X269.here hx rfl (pc0 := 359) (pc' := 363) rfl (hb hby at_359) (by decide) (by decide) k) ?_
                    obtain ⟨fs, hr, hrun, hended, hW, hsame⟩ := X269.leave (v := some (.int (1 : Int32))) (fun h => by rw [Bd.returns] at h; cases h)
                    refine ⟨_, _, retN X269 hx (t := .boolean) Bd.returns (by simp) (hb hby at_363) hr, hrun, hended, _, _, rfl, ?_, ⟨_, rfl⟩, hW, hsame.mono (by decide) (by decide)⟩
                    show Q1 n0 (some (.int (1 : Int32))) T269.heap _
                    rw [e269]
                    exact ⟨rfl, N⟩
                  · skip
                    refine Go.by (T' := T256) (f' := (mkF m 341 LL255 [])) (fun _ k => XS.icmpYes X256.here hx rfl (pc0 := 331) (pc' := 341) rfl (hb hby at_331) rfl (feq hc331_267).2 (by decide) (by decide) k) ?_
                    refine Go.by (T' := T256) (f' := (mkF m 343 LL255 [(.int (z4 &&& (65535 : Int32)))])) (fun _ k => XS.iload X256.here hx rfl (hb hby at_341) rfl k) ?_
                    obtain ⟨v271, _, ⟨T271, L271, k271, n271⟩, -, X271, ⟨Lc271, hQ271, l271, y271, z271⟩, st271⟩ := Jvm.LawKit.callS X256 hx (y := (⟨"java/lang/Integer", "valueOf", "(I)Ljava/lang/Integer;"⟩ : MethodName)) hown (mvT hZ (hw _ (List.mem_of_getElem? (i := 71) rfl))) (mvT hZ (hw _ (List.mem_of_getElem? (i := 72) rfl))) (mvT hZ (hw _ (List.mem_of_getElem? (i := 73) rfl))) (mvT hZ (hw _ (List.mem_of_getElem? (i := 74) rfl))) (by decide) (backOf (W := 0) (rm_vo l Z a0 hw [] (z4 &&& (65535 : Int32)) wc cl zc hS T224.heap n0 O) hZ (hw _ (List.mem_of_getElem? (i := 74) rfl)) (hw _ (List.mem_of_getElem? (i := 73) rfl)) (by decide) (by decide)) (g := (mkF m 343 LL255 [(.int (z4 &&& (65535 : Int32)))])) rfl (by rw [hml]; rfl) (argsL := [(.int (z4 &&& (65535 : Int32)))]) (rest := []) (lenOf pd_rm1_4 rfl) rfl (by show 2 * 0 + _ ≤ _; exact Nat.le_of_eq rfl) (hb hby at_343) (fun _ _ => ⟨rfl, e256, (by decide : 8 + 1 ≤ _), (by decide : 20 + 1 ≤ _)⟩)
                    dsimp only [Pt.U, Pt.locs, Pt.cells, Pt.slots] at X271 l271 y271 z271 st271 hQ271
                    subst l271 y271 z271
                    obtain ⟨bx271, rfl, Nq271, K271, E_bx271⟩ := hQ271
                    replace N := Fr.app N Nq271
                    replace V_b157 := V_b157.keep K271 nin0
                    replace V_b208 := V_b208.keep K271 nin0
                    replace E_b215 := E_b215.keep K271
                    replace Gc216 := Gc216.keep K271 nin0
                    replace Gv216 := Gv216.keep K271 nin0
                    replace Vt216 := Vt216.keep K271 nin0
                    replace E_b218 := E_b218.keep K271
                    replace Gh219 := Gh219.keep K271 nin0
                    replace Gp219 := Gp219.keep K271 nin0
                    replace E_b221 := E_b221.keep K271
                    replace E_b222 := E_b222.keep K271
                    replace Gc223 := Gc223.keep K271 nin0
                    replace Gv223 := Gv223.keep K271 nin0
                    replace Vt223 := Vt223.keep K271 nin0
                    replace Gh224 := Gh224.keep K271 nin0
                    replace Gp224 := Gp224.keep K271 nin0
                    replace O := O.keep K271 all0
                    replace K := K.trans K271 all0
                    refine Go.by (T' := T271) (f' := (mkF m 346 LL255 [(.ref bx271)])) (st271) ?_
                    let LL272 : Array Slot := #[.val (.int z0), .val (.int z1), .val (.int z2), .val (.int z3), .val (.int z4), .val (.int z5), .val (.int ((1 : Int32) + (z0 &&& (1 : Int32)))), .val (.int ((1 : Int32) + (z1 &&& (1 : Int32)))), .val (.int c4), .val (.int c6), .val (.int c8), .val (.int c10), .val (.ref b157), .val (.ref b208), .val (.int (z4 &&& (65535 : Int32))), .val (.int (z5 &&& (3 : Int32))), .val (.int p2), .val (.ref b215), .val (.ref b218), .val (.ref b221), .val (.int (1 : Int32)), .val (.int (0 : Int32)), .val (.int (((z0.toUInt32 >>> ((1 : Int32) &&& 31).toUInt32).toInt32) &&& (3 : Int32))), .val (.ref bx271)]
                    refine Go.by (T' := T271) (f' := (mkF m 348 LL272 [])) (fun _ k => XS.astore X271.here hx rfl (hb hby at_346) rfl rfl (l' := LL272) rfl k) ?_
                    refine Go.by (T' := T271) (f' := (mkF m 350 LL272 [(.ref b218)])) (fun _ k => XS.aload X271.here hx rfl (hb hby at_348) rfl rfl k) ?_
                    refine Go.by (T' := T271) (f' := (mkF m 352 LL272 [(.ref bx271), (.ref b218)])) (fun _ k => XS.aload X271.here hx rfl (hb hby at_350) rfl rfl k) ?_
                    obtain ⟨cq273, kq273, q273a, q273b, q273c⟩ := isOf hZ rfl E_b218
                    obtain ⟨v273, _, ⟨T273, L273, k273, n273⟩, -, X273, ⟨Lc273, hQ273, l273, y273, z273⟩, st273⟩ := X271.virtualBack hx (y := (⟨"com/example/honest_replica/honestreplica/model/Endpoint", "equals", "(Ljava/lang/Object;)Z"⟩ : MethodName)) (z := (⟨"com/example/honest_replica/honestreplica/model/Endpoint", "equals", "(Ljava/lang/Object;)Z"⟩ : MethodName)) hown (mvT hZ (hw _ (List.mem_of_getElem? (i := 52) rfl))) (mvT hZ (hw _ (List.mem_of_getElem? (i := 53) rfl))) (notFace_of_selects (args := #[]) (mvT hZ (hw _ (List.mem_of_getElem? (i := 55) rfl)))) (mvT hZ (hw _ (List.mem_of_getElem? (i := 55) rfl))) (mvT hZ (hw _ (List.mem_of_getElem? (i := 54) rfl))) (by decide) (backOf (W := 0) (rm_qi l Z a0 hw [] b218 bx271 T271.heap n0 O E_bx271) hZ (hw _ (List.mem_of_getElem? (i := 56) rfl)) (hw _ (List.mem_of_getElem? (i := 37) rfl)) (by decide) (by decide)) q273a q273c (g := (mkF m 352 LL272 [(.ref bx271), (.ref b218)])) rfl (by rw [hml]; rfl) (Steps.refl _) (argsL := [(.ref bx271)]) (rest := []) (lenOf pd_rm1_3 rfl) rfl (by show 2 * 0 + _ ≤ _; exact Nat.le_of_eq rfl) (hb hby at_352) (fun _ _ => ⟨rfl, rfl, (by decide : 9 + 0 ≤ _), (by decide : 21 + 0 ≤ _)⟩)
                    dsimp only [Pt.U, Pt.locs, Pt.cells, Pt.slots] at X273 l273 y273 z273 st273 hQ273
                    subst l273 y273 z273
                    obtain ⟨rfl, Nq273, e273⟩ := hQ273
                    replace N := Fr.app N Nq273
                    refine Go.by (T' := T273) (f' := (mkF m 355 LL272 [(.int (0 : Int32))])) (fun _ k => st273.trans k) ?_
                    refine Go.by (T' := T273) (f' := (mkF m 358 LL272 [])) (fun _ k => XS.ifNo X273.here hx rfl (hb hby at_355) rfl ((if0 _ _).trans (teq (by decide : (0 : Int32) = (0 : Int32))).2) k) ?_
                    refine Go.by (T' := T273) (f' := (mkF m 359 LL272 [(.int (1 : Int32))])) (fun _ k => XS.iconst X273.here hx rfl (hb hby at_358) k) ?_
                    refine Go.by (T' := T273) (f' := (mkF m 363 LL272 [(.int (1 : Int32))])) (fun _ k => XS.goto X273.here hx rfl (pc0 := 359) (pc' := 363) rfl (hb hby at_359) (by decide) (by decide) k) ?_
                    obtain ⟨fs, hr, hrun, hended, hW, hsame⟩ := X273.leave (v := some (.int (1 : Int32))) (fun h => by rw [Bd.returns] at h; cases h)
                    refine ⟨_, _, retN X273 hx (t := .boolean) Bd.returns (by simp) (hb hby at_363) hr, hrun, hended, _, _, rfl, ?_, ⟨_, rfl⟩, hW, hsame.mono (by decide) (by decide)⟩
                    show Q1 n0 (some (.int (1 : Int32))) T273.heap _
                    rw [e273]
                    exact ⟨rfl, N⟩
          · skip
            refine Go.by (T' := T224) (f' := (mkF m 240 LL225 [])) (fun _ k => XS.icmpYes X224.here hx rfl (pc0 := 233) (pc' := 240) rfl (hb hby at_233) rfl (feq hc233_229).2 (by decide) (by decide) k) ?_
            refine Go.by (T' := T224) (f' := (mkF m 241 LL225 [(.int (0 : Int32))])) (fun _ k => XS.iconst X224.here hx rfl (hb hby at_240) k) ?_
            let LL275 : Array Slot := #[.val (.int z0), .val (.int z1), .val (.int z2), .val (.int z3), .val (.int z4), .val (.int z5), .val (.int ((1 : Int32) + (z0 &&& (1 : Int32)))), .val (.int ((1 : Int32) + (z1 &&& (1 : Int32)))), .val (.int c4), .val (.int c6), .val (.int c8), .val (.int c10), .val (.ref b157), .val (.ref b208), .val (.int (z4 &&& (65535 : Int32))), .val (.int (z5 &&& (3 : Int32))), .val (.int p2), .val (.ref b215), .val (.ref b218), .val (.ref b221), .val (.int (0 : Int32)), .unset, .unset, .unset]
            refine Go.by (T' := T224) (f' := (mkF m 243 LL275 [])) (fun _ k => XS.istore X224.here hx rfl (hb hby at_241) rfl (l' := LL275) rfl k) ?_
            refine Go.by (T' := T224) (f' := (mkF m 245 LL275 [(.int (0 : Int32))])) (fun _ k => XS.iload X224.here hx rfl (hb hby at_243) rfl k) ?_
            refine Go.by (T' := T224) (f' := (mkF m 259 LL275 [])) (fun _ k => XS.ifYes X224.here hx rfl (pc0 := 245) (pc' := 259) rfl (hb hby at_245) rfl ((if0 _ _).trans (teq (by decide : (0 : Int32) = (0 : Int32))).1) (by decide) (by decide) k) ?_
            refine Go.by (T' := T224) (f' := (mkF m 260 LL275 [(.int (0 : Int32))])) (fun _ k => XS.iconst X224.here hx rfl (hb hby at_259) k) ?_
            let LL277 : Array Slot := #[.val (.int z0), .val (.int z1), .val (.int z2), .val (.int z3), .val (.int z4), .val (.int z5), .val (.int ((1 : Int32) + (z0 &&& (1 : Int32)))), .val (.int ((1 : Int32) + (z1 &&& (1 : Int32)))), .val (.int c4), .val (.int c6), .val (.int c8), .val (.int c10), .val (.ref b157), .val (.ref b208), .val (.int (z4 &&& (65535 : Int32))), .val (.int (z5 &&& (3 : Int32))), .val (.int p2), .val (.ref b215), .val (.ref b218), .val (.ref b221), .val (.int (0 : Int32)), .val (.int (0 : Int32)), .unset, .unset]
            refine Go.by (T' := T224) (f' := (mkF m 262 LL277 [])) (fun _ k => XS.istore X224.here hx rfl (hb hby at_260) rfl (l' := LL277) rfl k) ?_
            refine Go.by (T' := T224) (f' := (mkF m 263 LL277 [(.int z0)])) (fun _ k => XS.iloadN X224.here hx rfl (hb hby at_262) rfl k) ?_
            refine Go.by (T' := T224) (f' := (mkF m 264 LL277 [(.int (1 : Int32)), (.int z0)])) (fun _ k => XS.iconst X224.here hx rfl (hb hby at_263) k) ?_
            refine Go.by (T' := T224) (f' := (mkF m 265 LL277 [(.int ((z0.toUInt32 >>> ((1 : Int32) &&& 31).toUInt32).toInt32))])) (fun _ k => XS.iushr X224.here hx rfl (hb hby at_264) rfl k) ?_
            refine Go.by (T' := T224) (f' := (mkF m 266 LL277 [(.int (3 : Int32)), (.int ((z0.toUInt32 >>> ((1 : Int32) &&& 31).toUInt32).toInt32))])) (fun _ k => XS.iconst X224.here hx rfl (hb hby at_265) k) ?_
            refine Go.by (T' := T224) (f' := (mkF m 267 LL277 [(.int (((z0.toUInt32 >>> ((1 : Int32) &&& 31).toUInt32).toInt32) &&& (3 : Int32)))])) (fun _ k => XS.iand X224.here hx rfl (hb hby at_266) rfl k) ?_
            let LL278 : Array Slot := #[.val (.int z0), .val (.int z1), .val (.int z2), .val (.int z3), .val (.int z4), .val (.int z5), .val (.int ((1 : Int32) + (z0 &&& (1 : Int32)))), .val (.int ((1 : Int32) + (z1 &&& (1 : Int32)))), .val (.int c4), .val (.int c6), .val (.int c8), .val (.int c10), .val (.ref b157), .val (.ref b208), .val (.int (z4 &&& (65535 : Int32))), .val (.int (z5 &&& (3 : Int32))), .val (.int p2), .val (.ref b215), .val (.ref b218), .val (.ref b221), .val (.int (0 : Int32)), .val (.int (0 : Int32)), .val (.int (((z0.toUInt32 >>> ((1 : Int32) &&& 31).toUInt32).toInt32) &&& (3 : Int32))), .unset]
            refine Go.by (T' := T224) (f' := (mkF m 269 LL278 [])) (fun _ k => XS.istore X224.here hx rfl (hb hby at_267) rfl (l' := LL278) rfl k) ?_
            refine Go.by (T' := T224) (f' := (mkF m 271 LL278 [(.ref b218)])) (fun _ k => XS.aload X224.here hx rfl (hb hby at_269) rfl rfl k) ?_
            refine Go.by (T' := T224) (f' := (mkF m 273 LL278 [(.ref b218), (.ref b218)])) (fun _ k => XS.aload X224.here hx rfl (hb hby at_271) rfl rfl k) ?_
            obtain ⟨cq279, kq279, q279a, q279b, q279c⟩ := isOf hZ rfl E_b218
            obtain ⟨v279, _, ⟨T279, L279, k279, n279⟩, -, X279, ⟨Lc279, hQ279, l279, y279, z279⟩, st279⟩ := X224.virtualBack hx (y := (⟨"com/example/honest_replica/honestreplica/model/Endpoint", "equals", "(Ljava/lang/Object;)Z"⟩ : MethodName)) (z := (⟨"com/example/honest_replica/honestreplica/model/Endpoint", "equals", "(Ljava/lang/Object;)Z"⟩ : MethodName)) hown (mvT hZ (hw _ (List.mem_of_getElem? (i := 52) rfl))) (mvT hZ (hw _ (List.mem_of_getElem? (i := 53) rfl))) (notFace_of_selects (args := #[]) (mvT hZ (hw _ (List.mem_of_getElem? (i := 55) rfl)))) (mvT hZ (hw _ (List.mem_of_getElem? (i := 55) rfl))) (mvT hZ (hw _ (List.mem_of_getElem? (i := 54) rfl))) (by decide) (backOf (W := 0) (rm_q l Z a0 hw [] b218 b218 b215 b215 (z4 &&& (65535 : Int32)) (z4 &&& (65535 : Int32)) t216 kb216 (2 : Int32) ((([c4, c6] : List Int32).map (fun c => c.toInt8.toInt32)).map Value.int) ([c4, c6] : List Int32) t216 kb216 (2 : Int32) ((([c4, c6] : List Int32).map (fun c => c.toInt8.toInt32)).map Value.int) ([c4, c6] : List Int32) wc cl zc hS T224.heap n0 O E_b218 E_b218 Gh219 Gp219 Gh219 Gp219 E_b215 Gv216 Gc216 Vt216 hcd216 (own_up _ hp216) (Nat.le_of_ble_eq_true rfl) E_b215 Gv216 Gc216 Vt216 hcd216 (own_up _ hp216) (Nat.le_of_ble_eq_true rfl)) hZ (hw _ (List.mem_of_getElem? (i := 56) rfl)) (hw _ (List.mem_of_getElem? (i := 37) rfl)) (by decide) (by decide)) q279a q279c (g := (mkF m 273 LL278 [(.ref b218), (.ref b218)])) rfl (by rw [hml]; rfl) (Steps.refl _) (argsL := [(.ref b218)]) (rest := []) (lenOf pd_rm1_3 rfl) rfl (by show 2 * 0 + _ ≤ _; exact Nat.le_of_eq rfl) (hb hby at_273) (fun _ _ => ⟨rfl, rfl, (by decide : 8 + 0 ≤ _), (by decide : 20 + 0 ≤ _)⟩)
            dsimp only [Pt.U, Pt.locs, Pt.cells, Pt.slots] at X279 l279 y279 z279 st279 hQ279
            subst l279 y279 z279
            obtain ⟨hv279, Nq279, e279⟩ := hQ279
            have hz279 : eqs ([c4, c6] : List Int32) (z4 &&& (65535 : Int32)) ([c4, c6] : List Int32) (z4 &&& (65535 : Int32)) = 1 := by simp [eqs]
            rw [hz279] at hv279
            subst hv279
            replace N := Fr.app N Nq279
            refine Go.by (T' := T279) (f' := (mkF m 276 LL278 [(.int (1 : Int32))])) (fun _ k => st279.trans k) ?_
            refine Go.by (T' := T279) (f' := (mkF m 281 LL278 [])) (fun _ k => XS.ifYes X279.here hx rfl (pc0 := 276) (pc' := 281) rfl (hb hby at_276) rfl ((if0 _ _).trans (feq (by decide : ¬ ((1 : Int32) = (0 : Int32)))).2) (by decide) (by decide) k) ?_
            refine Go.by (T' := T279) (f' := (mkF m 283 LL278 [(.int (((z0.toUInt32 >>> ((1 : Int32) &&& 31).toUInt32).toInt32) &&& (3 : Int32)))])) (fun _ k => XS.iload X279.here hx rfl (hb hby at_281) rfl k) ?_
            by_cases hc283_281 : (((z0.toUInt32 >>> ((1 : Int32) &&& 31).toUInt32).toInt32) &&& (3 : Int32)) = (0 : Int32)
            · skip
              refine Go.by (T' := T279) (f' := (mkF m 286 LL278 [])) (fun _ k => XS.ifNo X279.here hx rfl (hb hby at_283) rfl ((if0 _ _).trans (teq hc283_281).2) k) ?_
              refine Go.by (T' := T279) (f' := (mkF m 288 LL278 [(.ref b218)])) (fun _ k => XS.aload X279.here hx rfl (hb hby at_286) rfl rfl k) ?_
              refine Go.by (T' := T279) (f' := (mkF m 290 LL278 [(.ref b221), (.ref b218)])) (fun _ k => XS.aload X279.here hx rfl (hb hby at_288) rfl rfl k) ?_
              obtain ⟨cq282, kq282, q282a, q282b, q282c⟩ := isOf hZ e279 E_b218
              obtain ⟨v282, _, ⟨T282, L282, k282, n282⟩, -, X282, ⟨Lc282, hQ282, l282, y282, z282⟩, st282⟩ := X279.virtualBack hx (y := (⟨"com/example/honest_replica/honestreplica/model/Endpoint", "equals", "(Ljava/lang/Object;)Z"⟩ : MethodName)) (z := (⟨"com/example/honest_replica/honestreplica/model/Endpoint", "equals", "(Ljava/lang/Object;)Z"⟩ : MethodName)) hown (mvT hZ (hw _ (List.mem_of_getElem? (i := 52) rfl))) (mvT hZ (hw _ (List.mem_of_getElem? (i := 53) rfl))) (notFace_of_selects (args := #[]) (mvT hZ (hw _ (List.mem_of_getElem? (i := 55) rfl)))) (mvT hZ (hw _ (List.mem_of_getElem? (i := 55) rfl))) (mvT hZ (hw _ (List.mem_of_getElem? (i := 54) rfl))) (by decide) (backOf (W := 0) (rm_q l Z a0 hw [] b218 b221 b215 b222 (z4 &&& (65535 : Int32)) p2 t216 kb216 (2 : Int32) ((([c4, c6] : List Int32).map (fun c => c.toInt8.toInt32)).map Value.int) ([c4, c6] : List Int32) t223 kb223 (2 : Int32) ((([c8, c10] : List Int32).map (fun c => c.toInt8.toInt32)).map Value.int) ([c8, c10] : List Int32) wc cl zc hS T224.heap n0 O E_b218 E_b221 Gh219 Gp219 Gh224 Gp224 E_b215 Gv216 Gc216 Vt216 hcd216 (own_up _ hp216) (Nat.le_of_ble_eq_true rfl) E_b222 Gv223 Gc223 Vt223 hcd223 (own_up _ hp223) (Nat.le_of_ble_eq_true rfl)) hZ (hw _ (List.mem_of_getElem? (i := 56) rfl)) (hw _ (List.mem_of_getElem? (i := 37) rfl)) (by decide) (by decide)) q282a q282c (g := (mkF m 290 LL278 [(.ref b221), (.ref b218)])) rfl (by rw [hml]; rfl) (Steps.refl _) (argsL := [(.ref b221)]) (rest := []) (lenOf pd_rm1_3 rfl) rfl (by show 2 * 0 + _ ≤ _; exact Nat.le_of_eq rfl) (hb hby at_290) (fun _ _ => ⟨rfl, e279, (by decide : 8 + 0 ≤ _), (by decide : 20 + 0 ≤ _)⟩)
              dsimp only [Pt.U, Pt.locs, Pt.cells, Pt.slots] at X282 l282 y282 z282 st282 hQ282
              subst l282 y282 z282
              obtain ⟨hv282, Nq282, e282⟩ := hQ282
              have hz282 : eqs ([c4, c6] : List Int32) (z4 &&& (65535 : Int32)) ([c8, c10] : List Int32) p2 = 0 := by simp [eqs, hc220_227, hc233_229]
              rw [hz282] at hv282
              subst hv282
              replace N := Fr.app N Nq282
              refine Go.by (T' := T282) (f' := (mkF m 293 LL278 [(.int (0 : Int32))])) (fun _ k => st282.trans k) ?_
              refine Go.by (T' := T282) (f' := (mkF m 295 LL278 [(.int (0 : Int32)), (.int (0 : Int32))])) (fun _ k => XS.iload X282.here hx rfl (hb hby at_293) rfl k) ?_
              refine Go.by (T' := T282) (f' := (mkF m 298 LL278 [])) (fun _ k => XS.icmpNo X282.here hx rfl (hb hby at_295) rfl (teq (by decide : (0 : Int32) = (0 : Int32))).2 k) ?_
              refine Go.by (T' := T282) (f' := (mkF m 300 LL278 [(.ref b221)])) (fun _ k => XS.aload X282.here hx rfl (hb hby at_298) rfl rfl k) ?_
              refine Go.by (T' := T282) (f' := (mkF m 302 LL278 [(.ref b218), (.ref b221)])) (fun _ k => XS.aload X282.here hx rfl (hb hby at_300) rfl rfl k) ?_
              obtain ⟨cq284, kq284, q284a, q284b, q284c⟩ := isOf hZ e282 E_b221
              obtain ⟨v284, _, ⟨T284, L284, k284, n284⟩, -, X284, ⟨Lc284, hQ284, l284, y284, z284⟩, st284⟩ := X282.virtualBack hx (y := (⟨"com/example/honest_replica/honestreplica/model/Endpoint", "equals", "(Ljava/lang/Object;)Z"⟩ : MethodName)) (z := (⟨"com/example/honest_replica/honestreplica/model/Endpoint", "equals", "(Ljava/lang/Object;)Z"⟩ : MethodName)) hown (mvT hZ (hw _ (List.mem_of_getElem? (i := 52) rfl))) (mvT hZ (hw _ (List.mem_of_getElem? (i := 53) rfl))) (notFace_of_selects (args := #[]) (mvT hZ (hw _ (List.mem_of_getElem? (i := 55) rfl)))) (mvT hZ (hw _ (List.mem_of_getElem? (i := 55) rfl))) (mvT hZ (hw _ (List.mem_of_getElem? (i := 54) rfl))) (by decide) (backOf (W := 0) (rm_q l Z a0 hw [] b221 b218 b222 b215 p2 (z4 &&& (65535 : Int32)) t223 kb223 (2 : Int32) ((([c8, c10] : List Int32).map (fun c => c.toInt8.toInt32)).map Value.int) ([c8, c10] : List Int32) t216 kb216 (2 : Int32) ((([c4, c6] : List Int32).map (fun c => c.toInt8.toInt32)).map Value.int) ([c4, c6] : List Int32) wc cl zc hS T224.heap n0 O E_b221 E_b218 Gh224 Gp224 Gh219 Gp219 E_b222 Gv223 Gc223 Vt223 hcd223 (own_up _ hp223) (Nat.le_of_ble_eq_true rfl) E_b215 Gv216 Gc216 Vt216 hcd216 (own_up _ hp216) (Nat.le_of_ble_eq_true rfl)) hZ (hw _ (List.mem_of_getElem? (i := 56) rfl)) (hw _ (List.mem_of_getElem? (i := 37) rfl)) (by decide) (by decide)) q284a q284c (g := (mkF m 302 LL278 [(.ref b218), (.ref b221)])) rfl (by rw [hml]; rfl) (Steps.refl _) (argsL := [(.ref b218)]) (rest := []) (lenOf pd_rm1_3 rfl) rfl (by show 2 * 0 + _ ≤ _; exact Nat.le_of_eq rfl) (hb hby at_302) (fun _ _ => ⟨rfl, e282, (by decide : 8 + 0 ≤ _), (by decide : 20 + 0 ≤ _)⟩)
              dsimp only [Pt.U, Pt.locs, Pt.cells, Pt.slots] at X284 l284 y284 z284 st284 hQ284
              subst l284 y284 z284
              obtain ⟨hv284, Nq284, e284⟩ := hQ284
              have hz284 : eqs ([c8, c10] : List Int32) p2 ([c4, c6] : List Int32) (z4 &&& (65535 : Int32)) = 0 := by simp [eqs, hc220_227, (show ¬ c10 = c6 from fun q => hc233_229 q.symm)]
              rw [hz284] at hv284
              subst hv284
              replace N := Fr.app N Nq284
              refine Go.by (T' := T284) (f' := (mkF m 305 LL278 [(.int (0 : Int32))])) (fun _ k => st284.trans k) ?_
              refine Go.by (T' := T284) (f' := (mkF m 307 LL278 [(.int (0 : Int32)), (.int (0 : Int32))])) (fun _ k => XS.iload X284.here hx rfl (hb hby at_305) rfl k) ?_
              refine Go.by (T' := T284) (f' := (mkF m 310 LL278 [])) (fun _ k => XS.icmpNo X284.here hx rfl (hb hby at_307) rfl (teq (by decide : (0 : Int32) = (0 : Int32))).2 k) ?_
              refine Go.by (T' := T284) (f' := (mkF m 311 LL278 [(.int (1 : Int32))])) (fun _ k => XS.iconst X284.here hx rfl (hb hby at_310) k) ?_
              refine Go.by (T' := T284) (f' := (mkF m 315 LL278 [(.int (1 : Int32))])) (fun _ k => XS.goto X284.here hx rfl (pc0 := 311) (pc' := 315) rfl (hb hby at_311) (by decide) (by decide) k) ?_
              obtain ⟨fs, hr, hrun, hended, hW, hsame⟩ := X284.leave (v := some (.int (1 : Int32))) (fun h => by rw [Bd.returns] at h; cases h)
              refine ⟨_, _, retN X284 hx (t := .boolean) Bd.returns (by simp) (hb hby at_315) hr, hrun, hended, _, _, rfl, ?_, ⟨_, rfl⟩, hW, hsame.mono (by decide) (by decide)⟩
              show Q1 n0 (some (.int (1 : Int32))) T284.heap _
              rw [e284]
              exact ⟨rfl, N⟩
            · skip
              refine Go.by (T' := T279) (f' := (mkF m 316 LL278 [])) (fun _ k => XS.ifYes X279.here hx rfl (pc0 := 283) (pc' := 316) rfl (hb hby at_283) rfl ((if0 _ _).trans (feq hc283_281).2) (by decide) (by decide) k) ?_
              refine Go.by (T' := T279) (f' := (mkF m 318 LL278 [(.int (((z0.toUInt32 >>> ((1 : Int32) &&& 31).toUInt32).toInt32) &&& (3 : Int32)))])) (fun _ k => XS.iload X279.here hx rfl (hb hby at_316) rfl k) ?_
              refine Go.by (T' := T279) (f' := (mkF m 319 LL278 [(.int (1 : Int32)), (.int (((z0.toUInt32 >>> ((1 : Int32) &&& 31).toUInt32).toInt32) &&& (3 : Int32)))])) (fun _ k => XS.iconst X279.here hx rfl (hb hby at_318) k) ?_
              by_cases hc319_286 : (((z0.toUInt32 >>> ((1 : Int32) &&& 31).toUInt32).toInt32) &&& (3 : Int32)) = (1 : Int32)
              · skip
                refine Go.by (T' := T279) (f' := (mkF m 322 LL278 [])) (fun _ k => XS.icmpNo X279.here hx rfl (hb hby at_319) rfl (teq hc319_286).2 k) ?_
                refine Go.by (T' := T279) (f' := (mkF m 323 LL278 [.null])) (fun _ k => XS.aconstNull X279.here hx rfl (hb hby at_322) k) ?_
                let LL287 : Array Slot := #[.val (.int z0), .val (.int z1), .val (.int z2), .val (.int z3), .val (.int z4), .val (.int z5), .val (.int ((1 : Int32) + (z0 &&& (1 : Int32)))), .val (.int ((1 : Int32) + (z1 &&& (1 : Int32)))), .val (.int c4), .val (.int c6), .val (.int c8), .val (.int c10), .val (.ref b157), .val (.ref b208), .val (.int (z4 &&& (65535 : Int32))), .val (.int (z5 &&& (3 : Int32))), .val (.int p2), .val (.ref b215), .val (.ref b218), .val (.ref b221), .val (.int (0 : Int32)), .val (.int (0 : Int32)), .val (.int (((z0.toUInt32 >>> ((1 : Int32) &&& 31).toUInt32).toInt32) &&& (3 : Int32))), .val .null]
                refine Go.by (T' := T279) (f' := (mkF m 325 LL287 [])) (fun _ k => XS.astore X279.here hx rfl (hb hby at_323) rfl rfl (l' := LL287) rfl k) ?_
                refine Go.by (T' := T279) (f' := (mkF m 348 LL287 [])) (fun _ k => XS.goto X279.here hx rfl (pc0 := 325) (pc' := 348) rfl (hb hby at_325) (by decide) (by decide) k) ?_
                refine Go.by (T' := T279) (f' := (mkF m 350 LL287 [(.ref b218)])) (fun _ k => XS.aload X279.here hx rfl (hb hby at_348) rfl rfl k) ?_
                refine Go.by (T' := T279) (f' := (mkF m 352 LL287 [.null, (.ref b218)])) (fun _ k => XS.aload X279.here hx rfl (hb hby at_350) rfl rfl k) ?_
                obtain ⟨cq288, kq288, q288a, q288b, q288c⟩ := isOf hZ e279 E_b218
                obtain ⟨v288, _, ⟨T288, L288, k288, n288⟩, -, X288, ⟨Lc288, hQ288, l288, y288, z288⟩, st288⟩ := X279.virtualBack hx (y := (⟨"com/example/honest_replica/honestreplica/model/Endpoint", "equals", "(Ljava/lang/Object;)Z"⟩ : MethodName)) (z := (⟨"com/example/honest_replica/honestreplica/model/Endpoint", "equals", "(Ljava/lang/Object;)Z"⟩ : MethodName)) hown (mvT hZ (hw _ (List.mem_of_getElem? (i := 52) rfl))) (mvT hZ (hw _ (List.mem_of_getElem? (i := 53) rfl))) (notFace_of_selects (args := #[]) (mvT hZ (hw _ (List.mem_of_getElem? (i := 55) rfl)))) (mvT hZ (hw _ (List.mem_of_getElem? (i := 55) rfl))) (mvT hZ (hw _ (List.mem_of_getElem? (i := 54) rfl))) (by decide) (backOf (W := 0) (rm_qn l Z a0 hw [] b218 T224.heap n0 O) hZ (hw _ (List.mem_of_getElem? (i := 56) rfl)) (hw _ (List.mem_of_getElem? (i := 37) rfl)) (by decide) (by decide)) q288a q288c (g := (mkF m 352 LL287 [.null, (.ref b218)])) rfl (by rw [hml]; rfl) (Steps.refl _) (argsL := [.null]) (rest := []) (lenOf pd_rm1_3 rfl) rfl (by show 2 * 0 + _ ≤ _; exact Nat.le_of_eq rfl) (hb hby at_352) (fun _ _ => ⟨rfl, e279, (by decide : 8 + 0 ≤ _), (by decide : 20 + 0 ≤ _)⟩)
                dsimp only [Pt.U, Pt.locs, Pt.cells, Pt.slots] at X288 l288 y288 z288 st288 hQ288
                subst l288 y288 z288
                obtain ⟨rfl, Nq288, e288⟩ := hQ288
                replace N := Fr.app N Nq288
                refine Go.by (T' := T288) (f' := (mkF m 355 LL287 [(.int (0 : Int32))])) (fun _ k => st288.trans k) ?_
                refine Go.by (T' := T288) (f' := (mkF m 358 LL287 [])) (fun _ k => XS.ifNo X288.here hx rfl (hb hby at_355) rfl ((if0 _ _).trans (teq (by decide : (0 : Int32) = (0 : Int32))).2) k) ?_
                refine Go.by (T' := T288) (f' := (mkF m 359 LL287 [(.int (1 : Int32))])) (fun _ k => XS.iconst X288.here hx rfl (hb hby at_358) k) ?_
                refine Go.by (T' := T288) (f' := (mkF m 363 LL287 [(.int (1 : Int32))])) (fun _ k => XS.goto X288.here hx rfl (pc0 := 359) (pc' := 363) rfl (hb hby at_359) (by decide) (by decide) k) ?_
                obtain ⟨fs, hr, hrun, hended, hW, hsame⟩ := X288.leave (v := some (.int (1 : Int32))) (fun h => by rw [Bd.returns] at h; cases h)
                refine ⟨_, _, retN X288 hx (t := .boolean) Bd.returns (by simp) (hb hby at_363) hr, hrun, hended, _, _, rfl, ?_, ⟨_, rfl⟩, hW, hsame.mono (by decide) (by decide)⟩
                show Q1 n0 (some (.int (1 : Int32))) T288.heap _
                rw [e288]
                exact ⟨rfl, N⟩
              · skip
                refine Go.by (T' := T279) (f' := (mkF m 328 LL278 [])) (fun _ k => XS.icmpYes X279.here hx rfl (pc0 := 319) (pc' := 328) rfl (hb hby at_319) rfl (feq hc319_286).2 (by decide) (by decide) k) ?_
                refine Go.by (T' := T279) (f' := (mkF m 330 LL278 [(.int (((z0.toUInt32 >>> ((1 : Int32) &&& 31).toUInt32).toInt32) &&& (3 : Int32)))])) (fun _ k => XS.iload X279.here hx rfl (hb hby at_328) rfl k) ?_
                refine Go.by (T' := T279) (f' := (mkF m 331 LL278 [(.int (2 : Int32)), (.int (((z0.toUInt32 >>> ((1 : Int32) &&& 31).toUInt32).toInt32) &&& (3 : Int32)))])) (fun _ k => XS.iconst X279.here hx rfl (hb hby at_330) k) ?_
                by_cases hc331_290 : (((z0.toUInt32 >>> ((1 : Int32) &&& 31).toUInt32).toInt32) &&& (3 : Int32)) = (2 : Int32)
                · skip
                  refine Go.by (T' := T279) (f' := (mkF m 334 LL278 [])) (fun _ k => XS.icmpNo X279.here hx rfl (hb hby at_331) rfl (teq hc331_290).2 k) ?_
                  refine Go.by (T' := T279) (f' := (mkF m 336 LL278 [(.ref b215)])) (fun _ k => XS.aload X279.here hx rfl (hb hby at_334) rfl rfl k) ?_
                  let LL291 : Array Slot := #[.val (.int z0), .val (.int z1), .val (.int z2), .val (.int z3), .val (.int z4), .val (.int z5), .val (.int ((1 : Int32) + (z0 &&& (1 : Int32)))), .val (.int ((1 : Int32) + (z1 &&& (1 : Int32)))), .val (.int c4), .val (.int c6), .val (.int c8), .val (.int c10), .val (.ref b157), .val (.ref b208), .val (.int (z4 &&& (65535 : Int32))), .val (.int (z5 &&& (3 : Int32))), .val (.int p2), .val (.ref b215), .val (.ref b218), .val (.ref b221), .val (.int (0 : Int32)), .val (.int (0 : Int32)), .val (.int (((z0.toUInt32 >>> ((1 : Int32) &&& 31).toUInt32).toInt32) &&& (3 : Int32))), .val (.ref b215)]
                  refine Go.by (T' := T279) (f' := (mkF m 338 LL291 [])) (fun _ k => XS.astore X279.here hx rfl (hb hby at_336) rfl rfl (l' := LL291) rfl k) ?_
                  refine Go.by (T' := T279) (f' := (mkF m 348 LL291 [])) (fun _ k => XS.goto X279.here hx rfl (pc0 := 338) (pc' := 348) rfl (hb hby at_338) (by decide) (by decide) k) ?_
                  refine Go.by (T' := T279) (f' := (mkF m 350 LL291 [(.ref b218)])) (fun _ k => XS.aload X279.here hx rfl (hb hby at_348) rfl rfl k) ?_
                  refine Go.by (T' := T279) (f' := (mkF m 352 LL291 [(.ref b215), (.ref b218)])) (fun _ k => XS.aload X279.here hx rfl (hb hby at_350) rfl rfl k) ?_
                  obtain ⟨cq292, kq292, q292a, q292b, q292c⟩ := isOf hZ e279 E_b218
                  obtain ⟨v292, _, ⟨T292, L292, k292, n292⟩, -, X292, ⟨Lc292, hQ292, l292, y292, z292⟩, st292⟩ := X279.virtualBack hx (y := (⟨"com/example/honest_replica/honestreplica/model/Endpoint", "equals", "(Ljava/lang/Object;)Z"⟩ : MethodName)) (z := (⟨"com/example/honest_replica/honestreplica/model/Endpoint", "equals", "(Ljava/lang/Object;)Z"⟩ : MethodName)) hown (mvT hZ (hw _ (List.mem_of_getElem? (i := 52) rfl))) (mvT hZ (hw _ (List.mem_of_getElem? (i := 53) rfl))) (notFace_of_selects (args := #[]) (mvT hZ (hw _ (List.mem_of_getElem? (i := 55) rfl)))) (mvT hZ (hw _ (List.mem_of_getElem? (i := 55) rfl))) (mvT hZ (hw _ (List.mem_of_getElem? (i := 54) rfl))) (by decide) (backOf (W := 0) (rm_qs l Z a0 hw [] b218 b215 T224.heap n0 O E_b215) hZ (hw _ (List.mem_of_getElem? (i := 56) rfl)) (hw _ (List.mem_of_getElem? (i := 37) rfl)) (by decide) (by decide)) q292a q292c (g := (mkF m 352 LL291 [(.ref b215), (.ref b218)])) rfl (by rw [hml]; rfl) (Steps.refl _) (argsL := [(.ref b215)]) (rest := []) (lenOf pd_rm1_3 rfl) rfl (by show 2 * 0 + _ ≤ _; exact Nat.le_of_eq rfl) (hb hby at_352) (fun _ _ => ⟨rfl, e279, (by decide : 8 + 0 ≤ _), (by decide : 20 + 0 ≤ _)⟩)
                  dsimp only [Pt.U, Pt.locs, Pt.cells, Pt.slots] at X292 l292 y292 z292 st292 hQ292
                  subst l292 y292 z292
                  obtain ⟨rfl, Nq292, e292⟩ := hQ292
                  replace N := Fr.app N Nq292
                  refine Go.by (T' := T292) (f' := (mkF m 355 LL291 [(.int (0 : Int32))])) (fun _ k => st292.trans k) ?_
                  refine Go.by (T' := T292) (f' := (mkF m 358 LL291 [])) (fun _ k => XS.ifNo X292.here hx rfl (hb hby at_355) rfl ((if0 _ _).trans (teq (by decide : (0 : Int32) = (0 : Int32))).2) k) ?_
                  refine Go.by (T' := T292) (f' := (mkF m 359 LL291 [(.int (1 : Int32))])) (fun _ k => XS.iconst X292.here hx rfl (hb hby at_358) k) ?_
                  refine Go.by (T' := T292) (f' := (mkF m 363 LL291 [(.int (1 : Int32))])) (fun _ k => XS.goto X292.here hx rfl (pc0 := 359) (pc' := 363) rfl (hb hby at_359) (by decide) (by decide) k) ?_
                  obtain ⟨fs, hr, hrun, hended, hW, hsame⟩ := X292.leave (v := some (.int (1 : Int32))) (fun h => by rw [Bd.returns] at h; cases h)
                  refine ⟨_, _, retN X292 hx (t := .boolean) Bd.returns (by simp) (hb hby at_363) hr, hrun, hended, _, _, rfl, ?_, ⟨_, rfl⟩, hW, hsame.mono (by decide) (by decide)⟩
                  show Q1 n0 (some (.int (1 : Int32))) T292.heap _
                  rw [e292]
                  exact ⟨rfl, N⟩
                · skip
                  refine Go.by (T' := T279) (f' := (mkF m 341 LL278 [])) (fun _ k => XS.icmpYes X279.here hx rfl (pc0 := 331) (pc' := 341) rfl (hb hby at_331) rfl (feq hc331_290).2 (by decide) (by decide) k) ?_
                  refine Go.by (T' := T279) (f' := (mkF m 343 LL278 [(.int (z4 &&& (65535 : Int32)))])) (fun _ k => XS.iload X279.here hx rfl (hb hby at_341) rfl k) ?_
                  obtain ⟨v294, _, ⟨T294, L294, k294, n294⟩, -, X294, ⟨Lc294, hQ294, l294, y294, z294⟩, st294⟩ := Jvm.LawKit.callS X279 hx (y := (⟨"java/lang/Integer", "valueOf", "(I)Ljava/lang/Integer;"⟩ : MethodName)) hown (mvT hZ (hw _ (List.mem_of_getElem? (i := 71) rfl))) (mvT hZ (hw _ (List.mem_of_getElem? (i := 72) rfl))) (mvT hZ (hw _ (List.mem_of_getElem? (i := 73) rfl))) (mvT hZ (hw _ (List.mem_of_getElem? (i := 74) rfl))) (by decide) (backOf (W := 0) (rm_vo l Z a0 hw [] (z4 &&& (65535 : Int32)) wc cl zc hS T224.heap n0 O) hZ (hw _ (List.mem_of_getElem? (i := 74) rfl)) (hw _ (List.mem_of_getElem? (i := 73) rfl)) (by decide) (by decide)) (g := (mkF m 343 LL278 [(.int (z4 &&& (65535 : Int32)))])) rfl (by rw [hml]; rfl) (argsL := [(.int (z4 &&& (65535 : Int32)))]) (rest := []) (lenOf pd_rm1_4 rfl) rfl (by show 2 * 0 + _ ≤ _; exact Nat.le_of_eq rfl) (hb hby at_343) (fun _ _ => ⟨rfl, e279, (by decide : 8 + 1 ≤ _), (by decide : 20 + 1 ≤ _)⟩)
                  dsimp only [Pt.U, Pt.locs, Pt.cells, Pt.slots] at X294 l294 y294 z294 st294 hQ294
                  subst l294 y294 z294
                  obtain ⟨bx294, rfl, Nq294, K294, E_bx294⟩ := hQ294
                  replace N := Fr.app N Nq294
                  replace V_b157 := V_b157.keep K294 nin0
                  replace V_b208 := V_b208.keep K294 nin0
                  replace E_b215 := E_b215.keep K294
                  replace Gc216 := Gc216.keep K294 nin0
                  replace Gv216 := Gv216.keep K294 nin0
                  replace Vt216 := Vt216.keep K294 nin0
                  replace E_b218 := E_b218.keep K294
                  replace Gh219 := Gh219.keep K294 nin0
                  replace Gp219 := Gp219.keep K294 nin0
                  replace E_b221 := E_b221.keep K294
                  replace E_b222 := E_b222.keep K294
                  replace Gc223 := Gc223.keep K294 nin0
                  replace Gv223 := Gv223.keep K294 nin0
                  replace Vt223 := Vt223.keep K294 nin0
                  replace Gh224 := Gh224.keep K294 nin0
                  replace Gp224 := Gp224.keep K294 nin0
                  replace O := O.keep K294 all0
                  replace K := K.trans K294 all0
                  refine Go.by (T' := T294) (f' := (mkF m 346 LL278 [(.ref bx294)])) (st294) ?_
                  let LL295 : Array Slot := #[.val (.int z0), .val (.int z1), .val (.int z2), .val (.int z3), .val (.int z4), .val (.int z5), .val (.int ((1 : Int32) + (z0 &&& (1 : Int32)))), .val (.int ((1 : Int32) + (z1 &&& (1 : Int32)))), .val (.int c4), .val (.int c6), .val (.int c8), .val (.int c10), .val (.ref b157), .val (.ref b208), .val (.int (z4 &&& (65535 : Int32))), .val (.int (z5 &&& (3 : Int32))), .val (.int p2), .val (.ref b215), .val (.ref b218), .val (.ref b221), .val (.int (0 : Int32)), .val (.int (0 : Int32)), .val (.int (((z0.toUInt32 >>> ((1 : Int32) &&& 31).toUInt32).toInt32) &&& (3 : Int32))), .val (.ref bx294)]
                  refine Go.by (T' := T294) (f' := (mkF m 348 LL295 [])) (fun _ k => XS.astore X294.here hx rfl (hb hby at_346) rfl rfl (l' := LL295) rfl k) ?_
                  refine Go.by (T' := T294) (f' := (mkF m 350 LL295 [(.ref b218)])) (fun _ k => XS.aload X294.here hx rfl (hb hby at_348) rfl rfl k) ?_
                  refine Go.by (T' := T294) (f' := (mkF m 352 LL295 [(.ref bx294), (.ref b218)])) (fun _ k => XS.aload X294.here hx rfl (hb hby at_350) rfl rfl k) ?_
                  obtain ⟨cq296, kq296, q296a, q296b, q296c⟩ := isOf hZ rfl E_b218
                  obtain ⟨v296, _, ⟨T296, L296, k296, n296⟩, -, X296, ⟨Lc296, hQ296, l296, y296, z296⟩, st296⟩ := X294.virtualBack hx (y := (⟨"com/example/honest_replica/honestreplica/model/Endpoint", "equals", "(Ljava/lang/Object;)Z"⟩ : MethodName)) (z := (⟨"com/example/honest_replica/honestreplica/model/Endpoint", "equals", "(Ljava/lang/Object;)Z"⟩ : MethodName)) hown (mvT hZ (hw _ (List.mem_of_getElem? (i := 52) rfl))) (mvT hZ (hw _ (List.mem_of_getElem? (i := 53) rfl))) (notFace_of_selects (args := #[]) (mvT hZ (hw _ (List.mem_of_getElem? (i := 55) rfl)))) (mvT hZ (hw _ (List.mem_of_getElem? (i := 55) rfl))) (mvT hZ (hw _ (List.mem_of_getElem? (i := 54) rfl))) (by decide) (backOf (W := 0) (rm_qi l Z a0 hw [] b218 bx294 T294.heap n0 O E_bx294) hZ (hw _ (List.mem_of_getElem? (i := 56) rfl)) (hw _ (List.mem_of_getElem? (i := 37) rfl)) (by decide) (by decide)) q296a q296c (g := (mkF m 352 LL295 [(.ref bx294), (.ref b218)])) rfl (by rw [hml]; rfl) (Steps.refl _) (argsL := [(.ref bx294)]) (rest := []) (lenOf pd_rm1_3 rfl) rfl (by show 2 * 0 + _ ≤ _; exact Nat.le_of_eq rfl) (hb hby at_352) (fun _ _ => ⟨rfl, rfl, (by decide : 9 + 0 ≤ _), (by decide : 21 + 0 ≤ _)⟩)
                  dsimp only [Pt.U, Pt.locs, Pt.cells, Pt.slots] at X296 l296 y296 z296 st296 hQ296
                  subst l296 y296 z296
                  obtain ⟨rfl, Nq296, e296⟩ := hQ296
                  replace N := Fr.app N Nq296
                  refine Go.by (T' := T296) (f' := (mkF m 355 LL295 [(.int (0 : Int32))])) (fun _ k => st296.trans k) ?_
                  refine Go.by (T' := T296) (f' := (mkF m 358 LL295 [])) (fun _ k => XS.ifNo X296.here hx rfl (hb hby at_355) rfl ((if0 _ _).trans (teq (by decide : (0 : Int32) = (0 : Int32))).2) k) ?_
                  refine Go.by (T' := T296) (f' := (mkF m 359 LL295 [(.int (1 : Int32))])) (fun _ k => XS.iconst X296.here hx rfl (hb hby at_358) k) ?_
                  refine Go.by (T' := T296) (f' := (mkF m 363 LL295 [(.int (1 : Int32))])) (fun _ k => XS.goto X296.here hx rfl (pc0 := 359) (pc' := 363) rfl (hb hby at_359) (by decide) (by decide) k) ?_
                  obtain ⟨fs, hr, hrun, hended, hW, hsame⟩ := X296.leave (v := some (.int (1 : Int32))) (fun h => by rw [Bd.returns] at h; cases h)
                  refine ⟨_, _, retN X296 hx (t := .boolean) Bd.returns (by simp) (hb hby at_363) hr, hrun, hended, _, _, rfl, ?_, ⟨_, rfl⟩, hW, hsame.mono (by decide) (by decide)⟩
                  show Q1 n0 (some (.int (1 : Int32))) T296.heap _
                  rw [e296]
                  exact ⟨rfl, N⟩
        · skip
          refine Go.by (T' := T224) (f' := (mkF m 240 LL225 [])) (fun _ k => XS.icmpYes X224.here hx rfl (pc0 := 220) (pc' := 240) rfl (hb hby at_220) rfl (feq hc220_227).2 (by decide) (by decide) k) ?_
          refine Go.by (T' := T224) (f' := (mkF m 241 LL225 [(.int (0 : Int32))])) (fun _ k => XS.iconst X224.here hx rfl (hb hby at_240) k) ?_
          let LL298 : Array Slot := #[.val (.int z0), .val (.int z1), .val (.int z2), .val (.int z3), .val (.int z4), .val (.int z5), .val (.int ((1 : Int32) + (z0 &&& (1 : Int32)))), .val (.int ((1 : Int32) + (z1 &&& (1 : Int32)))), .val (.int c4), .val (.int c6), .val (.int c8), .val (.int c10), .val (.ref b157), .val (.ref b208), .val (.int (z4 &&& (65535 : Int32))), .val (.int (z5 &&& (3 : Int32))), .val (.int p2), .val (.ref b215), .val (.ref b218), .val (.ref b221), .val (.int (0 : Int32)), .unset, .unset, .unset]
          refine Go.by (T' := T224) (f' := (mkF m 243 LL298 [])) (fun _ k => XS.istore X224.here hx rfl (hb hby at_241) rfl (l' := LL298) rfl k) ?_
          refine Go.by (T' := T224) (f' := (mkF m 245 LL298 [(.int (0 : Int32))])) (fun _ k => XS.iload X224.here hx rfl (hb hby at_243) rfl k) ?_
          refine Go.by (T' := T224) (f' := (mkF m 259 LL298 [])) (fun _ k => XS.ifYes X224.here hx rfl (pc0 := 245) (pc' := 259) rfl (hb hby at_245) rfl ((if0 _ _).trans (teq (by decide : (0 : Int32) = (0 : Int32))).1) (by decide) (by decide) k) ?_
          refine Go.by (T' := T224) (f' := (mkF m 260 LL298 [(.int (0 : Int32))])) (fun _ k => XS.iconst X224.here hx rfl (hb hby at_259) k) ?_
          let LL300 : Array Slot := #[.val (.int z0), .val (.int z1), .val (.int z2), .val (.int z3), .val (.int z4), .val (.int z5), .val (.int ((1 : Int32) + (z0 &&& (1 : Int32)))), .val (.int ((1 : Int32) + (z1 &&& (1 : Int32)))), .val (.int c4), .val (.int c6), .val (.int c8), .val (.int c10), .val (.ref b157), .val (.ref b208), .val (.int (z4 &&& (65535 : Int32))), .val (.int (z5 &&& (3 : Int32))), .val (.int p2), .val (.ref b215), .val (.ref b218), .val (.ref b221), .val (.int (0 : Int32)), .val (.int (0 : Int32)), .unset, .unset]
          refine Go.by (T' := T224) (f' := (mkF m 262 LL300 [])) (fun _ k => XS.istore X224.here hx rfl (hb hby at_260) rfl (l' := LL300) rfl k) ?_
          refine Go.by (T' := T224) (f' := (mkF m 263 LL300 [(.int z0)])) (fun _ k => XS.iloadN X224.here hx rfl (hb hby at_262) rfl k) ?_
          refine Go.by (T' := T224) (f' := (mkF m 264 LL300 [(.int (1 : Int32)), (.int z0)])) (fun _ k => XS.iconst X224.here hx rfl (hb hby at_263) k) ?_
          refine Go.by (T' := T224) (f' := (mkF m 265 LL300 [(.int ((z0.toUInt32 >>> ((1 : Int32) &&& 31).toUInt32).toInt32))])) (fun _ k => XS.iushr X224.here hx rfl (hb hby at_264) rfl k) ?_
          refine Go.by (T' := T224) (f' := (mkF m 266 LL300 [(.int (3 : Int32)), (.int ((z0.toUInt32 >>> ((1 : Int32) &&& 31).toUInt32).toInt32))])) (fun _ k => XS.iconst X224.here hx rfl (hb hby at_265) k) ?_
          refine Go.by (T' := T224) (f' := (mkF m 267 LL300 [(.int (((z0.toUInt32 >>> ((1 : Int32) &&& 31).toUInt32).toInt32) &&& (3 : Int32)))])) (fun _ k => XS.iand X224.here hx rfl (hb hby at_266) rfl k) ?_
          let LL301 : Array Slot := #[.val (.int z0), .val (.int z1), .val (.int z2), .val (.int z3), .val (.int z4), .val (.int z5), .val (.int ((1 : Int32) + (z0 &&& (1 : Int32)))), .val (.int ((1 : Int32) + (z1 &&& (1 : Int32)))), .val (.int c4), .val (.int c6), .val (.int c8), .val (.int c10), .val (.ref b157), .val (.ref b208), .val (.int (z4 &&& (65535 : Int32))), .val (.int (z5 &&& (3 : Int32))), .val (.int p2), .val (.ref b215), .val (.ref b218), .val (.ref b221), .val (.int (0 : Int32)), .val (.int (0 : Int32)), .val (.int (((z0.toUInt32 >>> ((1 : Int32) &&& 31).toUInt32).toInt32) &&& (3 : Int32))), .unset]
          refine Go.by (T' := T224) (f' := (mkF m 269 LL301 [])) (fun _ k => XS.istore X224.here hx rfl (hb hby at_267) rfl (l' := LL301) rfl k) ?_
          refine Go.by (T' := T224) (f' := (mkF m 271 LL301 [(.ref b218)])) (fun _ k => XS.aload X224.here hx rfl (hb hby at_269) rfl rfl k) ?_
          refine Go.by (T' := T224) (f' := (mkF m 273 LL301 [(.ref b218), (.ref b218)])) (fun _ k => XS.aload X224.here hx rfl (hb hby at_271) rfl rfl k) ?_
          obtain ⟨cq302, kq302, q302a, q302b, q302c⟩ := isOf hZ rfl E_b218
          obtain ⟨v302, _, ⟨T302, L302, k302, n302⟩, -, X302, ⟨Lc302, hQ302, l302, y302, z302⟩, st302⟩ := X224.virtualBack hx (y := (⟨"com/example/honest_replica/honestreplica/model/Endpoint", "equals", "(Ljava/lang/Object;)Z"⟩ : MethodName)) (z := (⟨"com/example/honest_replica/honestreplica/model/Endpoint", "equals", "(Ljava/lang/Object;)Z"⟩ : MethodName)) hown (mvT hZ (hw _ (List.mem_of_getElem? (i := 52) rfl))) (mvT hZ (hw _ (List.mem_of_getElem? (i := 53) rfl))) (notFace_of_selects (args := #[]) (mvT hZ (hw _ (List.mem_of_getElem? (i := 55) rfl)))) (mvT hZ (hw _ (List.mem_of_getElem? (i := 55) rfl))) (mvT hZ (hw _ (List.mem_of_getElem? (i := 54) rfl))) (by decide) (backOf (W := 0) (rm_q l Z a0 hw [] b218 b218 b215 b215 (z4 &&& (65535 : Int32)) (z4 &&& (65535 : Int32)) t216 kb216 (2 : Int32) ((([c4, c6] : List Int32).map (fun c => c.toInt8.toInt32)).map Value.int) ([c4, c6] : List Int32) t216 kb216 (2 : Int32) ((([c4, c6] : List Int32).map (fun c => c.toInt8.toInt32)).map Value.int) ([c4, c6] : List Int32) wc cl zc hS T224.heap n0 O E_b218 E_b218 Gh219 Gp219 Gh219 Gp219 E_b215 Gv216 Gc216 Vt216 hcd216 (own_up _ hp216) (Nat.le_of_ble_eq_true rfl) E_b215 Gv216 Gc216 Vt216 hcd216 (own_up _ hp216) (Nat.le_of_ble_eq_true rfl)) hZ (hw _ (List.mem_of_getElem? (i := 56) rfl)) (hw _ (List.mem_of_getElem? (i := 37) rfl)) (by decide) (by decide)) q302a q302c (g := (mkF m 273 LL301 [(.ref b218), (.ref b218)])) rfl (by rw [hml]; rfl) (Steps.refl _) (argsL := [(.ref b218)]) (rest := []) (lenOf pd_rm1_3 rfl) rfl (by show 2 * 0 + _ ≤ _; exact Nat.le_of_eq rfl) (hb hby at_273) (fun _ _ => ⟨rfl, rfl, (by decide : 8 + 0 ≤ _), (by decide : 20 + 0 ≤ _)⟩)
          dsimp only [Pt.U, Pt.locs, Pt.cells, Pt.slots] at X302 l302 y302 z302 st302 hQ302
          subst l302 y302 z302
          obtain ⟨hv302, Nq302, e302⟩ := hQ302
          have hz302 : eqs ([c4, c6] : List Int32) (z4 &&& (65535 : Int32)) ([c4, c6] : List Int32) (z4 &&& (65535 : Int32)) = 1 := by simp [eqs]
          rw [hz302] at hv302
          subst hv302
          replace N := Fr.app N Nq302
          refine Go.by (T' := T302) (f' := (mkF m 276 LL301 [(.int (1 : Int32))])) (fun _ k => st302.trans k) ?_
          refine Go.by (T' := T302) (f' := (mkF m 281 LL301 [])) (fun _ k => XS.ifYes X302.here hx rfl (pc0 := 276) (pc' := 281) rfl (hb hby at_276) rfl ((if0 _ _).trans (feq (by decide : ¬ ((1 : Int32) = (0 : Int32)))).2) (by decide) (by decide) k) ?_
          refine Go.by (T' := T302) (f' := (mkF m 283 LL301 [(.int (((z0.toUInt32 >>> ((1 : Int32) &&& 31).toUInt32).toInt32) &&& (3 : Int32)))])) (fun _ k => XS.iload X302.here hx rfl (hb hby at_281) rfl k) ?_
          by_cases hc283_304 : (((z0.toUInt32 >>> ((1 : Int32) &&& 31).toUInt32).toInt32) &&& (3 : Int32)) = (0 : Int32)
          · skip
            refine Go.by (T' := T302) (f' := (mkF m 286 LL301 [])) (fun _ k => XS.ifNo X302.here hx rfl (hb hby at_283) rfl ((if0 _ _).trans (teq hc283_304).2) k) ?_
            refine Go.by (T' := T302) (f' := (mkF m 288 LL301 [(.ref b218)])) (fun _ k => XS.aload X302.here hx rfl (hb hby at_286) rfl rfl k) ?_
            refine Go.by (T' := T302) (f' := (mkF m 290 LL301 [(.ref b221), (.ref b218)])) (fun _ k => XS.aload X302.here hx rfl (hb hby at_288) rfl rfl k) ?_
            obtain ⟨cq305, kq305, q305a, q305b, q305c⟩ := isOf hZ e302 E_b218
            obtain ⟨v305, _, ⟨T305, L305, k305, n305⟩, -, X305, ⟨Lc305, hQ305, l305, y305, z305⟩, st305⟩ := X302.virtualBack hx (y := (⟨"com/example/honest_replica/honestreplica/model/Endpoint", "equals", "(Ljava/lang/Object;)Z"⟩ : MethodName)) (z := (⟨"com/example/honest_replica/honestreplica/model/Endpoint", "equals", "(Ljava/lang/Object;)Z"⟩ : MethodName)) hown (mvT hZ (hw _ (List.mem_of_getElem? (i := 52) rfl))) (mvT hZ (hw _ (List.mem_of_getElem? (i := 53) rfl))) (notFace_of_selects (args := #[]) (mvT hZ (hw _ (List.mem_of_getElem? (i := 55) rfl)))) (mvT hZ (hw _ (List.mem_of_getElem? (i := 55) rfl))) (mvT hZ (hw _ (List.mem_of_getElem? (i := 54) rfl))) (by decide) (backOf (W := 0) (rm_q l Z a0 hw [] b218 b221 b215 b222 (z4 &&& (65535 : Int32)) p2 t216 kb216 (2 : Int32) ((([c4, c6] : List Int32).map (fun c => c.toInt8.toInt32)).map Value.int) ([c4, c6] : List Int32) t223 kb223 (2 : Int32) ((([c8, c10] : List Int32).map (fun c => c.toInt8.toInt32)).map Value.int) ([c8, c10] : List Int32) wc cl zc hS T224.heap n0 O E_b218 E_b221 Gh219 Gp219 Gh224 Gp224 E_b215 Gv216 Gc216 Vt216 hcd216 (own_up _ hp216) (Nat.le_of_ble_eq_true rfl) E_b222 Gv223 Gc223 Vt223 hcd223 (own_up _ hp223) (Nat.le_of_ble_eq_true rfl)) hZ (hw _ (List.mem_of_getElem? (i := 56) rfl)) (hw _ (List.mem_of_getElem? (i := 37) rfl)) (by decide) (by decide)) q305a q305c (g := (mkF m 290 LL301 [(.ref b221), (.ref b218)])) rfl (by rw [hml]; rfl) (Steps.refl _) (argsL := [(.ref b221)]) (rest := []) (lenOf pd_rm1_3 rfl) rfl (by show 2 * 0 + _ ≤ _; exact Nat.le_of_eq rfl) (hb hby at_290) (fun _ _ => ⟨rfl, e302, (by decide : 8 + 0 ≤ _), (by decide : 20 + 0 ≤ _)⟩)
            dsimp only [Pt.U, Pt.locs, Pt.cells, Pt.slots] at X305 l305 y305 z305 st305 hQ305
            subst l305 y305 z305
            obtain ⟨hv305, Nq305, e305⟩ := hQ305
            have hz305 : eqs ([c4, c6] : List Int32) (z4 &&& (65535 : Int32)) ([c8, c10] : List Int32) p2 = 0 := by simp [eqs, hc220_227]
            rw [hz305] at hv305
            subst hv305
            replace N := Fr.app N Nq305
            refine Go.by (T' := T305) (f' := (mkF m 293 LL301 [(.int (0 : Int32))])) (fun _ k => st305.trans k) ?_
            refine Go.by (T' := T305) (f' := (mkF m 295 LL301 [(.int (0 : Int32)), (.int (0 : Int32))])) (fun _ k => XS.iload X305.here hx rfl (hb hby at_293) rfl k) ?_
            refine Go.by (T' := T305) (f' := (mkF m 298 LL301 [])) (fun _ k => XS.icmpNo X305.here hx rfl (hb hby at_295) rfl (teq (by decide : (0 : Int32) = (0 : Int32))).2 k) ?_
            refine Go.by (T' := T305) (f' := (mkF m 300 LL301 [(.ref b221)])) (fun _ k => XS.aload X305.here hx rfl (hb hby at_298) rfl rfl k) ?_
            refine Go.by (T' := T305) (f' := (mkF m 302 LL301 [(.ref b218), (.ref b221)])) (fun _ k => XS.aload X305.here hx rfl (hb hby at_300) rfl rfl k) ?_
            obtain ⟨cq307, kq307, q307a, q307b, q307c⟩ := isOf hZ e305 E_b221
            obtain ⟨v307, _, ⟨T307, L307, k307, n307⟩, -, X307, ⟨Lc307, hQ307, l307, y307, z307⟩, st307⟩ := X305.virtualBack hx (y := (⟨"com/example/honest_replica/honestreplica/model/Endpoint", "equals", "(Ljava/lang/Object;)Z"⟩ : MethodName)) (z := (⟨"com/example/honest_replica/honestreplica/model/Endpoint", "equals", "(Ljava/lang/Object;)Z"⟩ : MethodName)) hown (mvT hZ (hw _ (List.mem_of_getElem? (i := 52) rfl))) (mvT hZ (hw _ (List.mem_of_getElem? (i := 53) rfl))) (notFace_of_selects (args := #[]) (mvT hZ (hw _ (List.mem_of_getElem? (i := 55) rfl)))) (mvT hZ (hw _ (List.mem_of_getElem? (i := 55) rfl))) (mvT hZ (hw _ (List.mem_of_getElem? (i := 54) rfl))) (by decide) (backOf (W := 0) (rm_q l Z a0 hw [] b221 b218 b222 b215 p2 (z4 &&& (65535 : Int32)) t223 kb223 (2 : Int32) ((([c8, c10] : List Int32).map (fun c => c.toInt8.toInt32)).map Value.int) ([c8, c10] : List Int32) t216 kb216 (2 : Int32) ((([c4, c6] : List Int32).map (fun c => c.toInt8.toInt32)).map Value.int) ([c4, c6] : List Int32) wc cl zc hS T224.heap n0 O E_b221 E_b218 Gh224 Gp224 Gh219 Gp219 E_b222 Gv223 Gc223 Vt223 hcd223 (own_up _ hp223) (Nat.le_of_ble_eq_true rfl) E_b215 Gv216 Gc216 Vt216 hcd216 (own_up _ hp216) (Nat.le_of_ble_eq_true rfl)) hZ (hw _ (List.mem_of_getElem? (i := 56) rfl)) (hw _ (List.mem_of_getElem? (i := 37) rfl)) (by decide) (by decide)) q307a q307c (g := (mkF m 302 LL301 [(.ref b218), (.ref b221)])) rfl (by rw [hml]; rfl) (Steps.refl _) (argsL := [(.ref b218)]) (rest := []) (lenOf pd_rm1_3 rfl) rfl (by show 2 * 0 + _ ≤ _; exact Nat.le_of_eq rfl) (hb hby at_302) (fun _ _ => ⟨rfl, e305, (by decide : 8 + 0 ≤ _), (by decide : 20 + 0 ≤ _)⟩)
            dsimp only [Pt.U, Pt.locs, Pt.cells, Pt.slots] at X307 l307 y307 z307 st307 hQ307
            subst l307 y307 z307
            obtain ⟨hv307, Nq307, e307⟩ := hQ307
            have hz307 : eqs ([c8, c10] : List Int32) p2 ([c4, c6] : List Int32) (z4 &&& (65535 : Int32)) = 0 := by simp [eqs, (show ¬ c8 = c4 from fun q => hc220_227 q.symm)]
            rw [hz307] at hv307
            subst hv307
            replace N := Fr.app N Nq307
            refine Go.by (T' := T307) (f' := (mkF m 305 LL301 [(.int (0 : Int32))])) (fun _ k => st307.trans k) ?_
            refine Go.by (T' := T307) (f' := (mkF m 307 LL301 [(.int (0 : Int32)), (.int (0 : Int32))])) (fun _ k => XS.iload X307.here hx rfl (hb hby at_305) rfl k) ?_
            refine Go.by (T' := T307) (f' := (mkF m 310 LL301 [])) (fun _ k => XS.icmpNo X307.here hx rfl (hb hby at_307) rfl (teq (by decide : (0 : Int32) = (0 : Int32))).2 k) ?_
            refine Go.by (T' := T307) (f' := (mkF m 311 LL301 [(.int (1 : Int32))])) (fun _ k => XS.iconst X307.here hx rfl (hb hby at_310) k) ?_
            refine Go.by (T' := T307) (f' := (mkF m 315 LL301 [(.int (1 : Int32))])) (fun _ k => XS.goto X307.here hx rfl (pc0 := 311) (pc' := 315) rfl (hb hby at_311) (by decide) (by decide) k) ?_
            obtain ⟨fs, hr, hrun, hended, hW, hsame⟩ := X307.leave (v := some (.int (1 : Int32))) (fun h => by rw [Bd.returns] at h; cases h)
            refine ⟨_, _, retN X307 hx (t := .boolean) Bd.returns (by simp) (hb hby at_315) hr, hrun, hended, _, _, rfl, ?_, ⟨_, rfl⟩, hW, hsame.mono (by decide) (by decide)⟩
            show Q1 n0 (some (.int (1 : Int32))) T307.heap _
            rw [e307]
            exact ⟨rfl, N⟩
          · skip
            refine Go.by (T' := T302) (f' := (mkF m 316 LL301 [])) (fun _ k => XS.ifYes X302.here hx rfl (pc0 := 283) (pc' := 316) rfl (hb hby at_283) rfl ((if0 _ _).trans (feq hc283_304).2) (by decide) (by decide) k) ?_
            refine Go.by (T' := T302) (f' := (mkF m 318 LL301 [(.int (((z0.toUInt32 >>> ((1 : Int32) &&& 31).toUInt32).toInt32) &&& (3 : Int32)))])) (fun _ k => XS.iload X302.here hx rfl (hb hby at_316) rfl k) ?_
            refine Go.by (T' := T302) (f' := (mkF m 319 LL301 [(.int (1 : Int32)), (.int (((z0.toUInt32 >>> ((1 : Int32) &&& 31).toUInt32).toInt32) &&& (3 : Int32)))])) (fun _ k => XS.iconst X302.here hx rfl (hb hby at_318) k) ?_
            by_cases hc319_309 : (((z0.toUInt32 >>> ((1 : Int32) &&& 31).toUInt32).toInt32) &&& (3 : Int32)) = (1 : Int32)
            · skip
              refine Go.by (T' := T302) (f' := (mkF m 322 LL301 [])) (fun _ k => XS.icmpNo X302.here hx rfl (hb hby at_319) rfl (teq hc319_309).2 k) ?_
              refine Go.by (T' := T302) (f' := (mkF m 323 LL301 [.null])) (fun _ k => XS.aconstNull X302.here hx rfl (hb hby at_322) k) ?_
              let LL310 : Array Slot := #[.val (.int z0), .val (.int z1), .val (.int z2), .val (.int z3), .val (.int z4), .val (.int z5), .val (.int ((1 : Int32) + (z0 &&& (1 : Int32)))), .val (.int ((1 : Int32) + (z1 &&& (1 : Int32)))), .val (.int c4), .val (.int c6), .val (.int c8), .val (.int c10), .val (.ref b157), .val (.ref b208), .val (.int (z4 &&& (65535 : Int32))), .val (.int (z5 &&& (3 : Int32))), .val (.int p2), .val (.ref b215), .val (.ref b218), .val (.ref b221), .val (.int (0 : Int32)), .val (.int (0 : Int32)), .val (.int (((z0.toUInt32 >>> ((1 : Int32) &&& 31).toUInt32).toInt32) &&& (3 : Int32))), .val .null]
              refine Go.by (T' := T302) (f' := (mkF m 325 LL310 [])) (fun _ k => XS.astore X302.here hx rfl (hb hby at_323) rfl rfl (l' := LL310) rfl k) ?_
              refine Go.by (T' := T302) (f' := (mkF m 348 LL310 [])) (fun _ k => XS.goto X302.here hx rfl (pc0 := 325) (pc' := 348) rfl (hb hby at_325) (by decide) (by decide) k) ?_
              refine Go.by (T' := T302) (f' := (mkF m 350 LL310 [(.ref b218)])) (fun _ k => XS.aload X302.here hx rfl (hb hby at_348) rfl rfl k) ?_
              refine Go.by (T' := T302) (f' := (mkF m 352 LL310 [.null, (.ref b218)])) (fun _ k => XS.aload X302.here hx rfl (hb hby at_350) rfl rfl k) ?_
              obtain ⟨cq311, kq311, q311a, q311b, q311c⟩ := isOf hZ e302 E_b218
              obtain ⟨v311, _, ⟨T311, L311, k311, n311⟩, -, X311, ⟨Lc311, hQ311, l311, y311, z311⟩, st311⟩ := X302.virtualBack hx (y := (⟨"com/example/honest_replica/honestreplica/model/Endpoint", "equals", "(Ljava/lang/Object;)Z"⟩ : MethodName)) (z := (⟨"com/example/honest_replica/honestreplica/model/Endpoint", "equals", "(Ljava/lang/Object;)Z"⟩ : MethodName)) hown (mvT hZ (hw _ (List.mem_of_getElem? (i := 52) rfl))) (mvT hZ (hw _ (List.mem_of_getElem? (i := 53) rfl))) (notFace_of_selects (args := #[]) (mvT hZ (hw _ (List.mem_of_getElem? (i := 55) rfl)))) (mvT hZ (hw _ (List.mem_of_getElem? (i := 55) rfl))) (mvT hZ (hw _ (List.mem_of_getElem? (i := 54) rfl))) (by decide) (backOf (W := 0) (rm_qn l Z a0 hw [] b218 T224.heap n0 O) hZ (hw _ (List.mem_of_getElem? (i := 56) rfl)) (hw _ (List.mem_of_getElem? (i := 37) rfl)) (by decide) (by decide)) q311a q311c (g := (mkF m 352 LL310 [.null, (.ref b218)])) rfl (by rw [hml]; rfl) (Steps.refl _) (argsL := [.null]) (rest := []) (lenOf pd_rm1_3 rfl) rfl (by show 2 * 0 + _ ≤ _; exact Nat.le_of_eq rfl) (hb hby at_352) (fun _ _ => ⟨rfl, e302, (by decide : 8 + 0 ≤ _), (by decide : 20 + 0 ≤ _)⟩)
              dsimp only [Pt.U, Pt.locs, Pt.cells, Pt.slots] at X311 l311 y311 z311 st311 hQ311
              subst l311 y311 z311
              obtain ⟨rfl, Nq311, e311⟩ := hQ311
              replace N := Fr.app N Nq311
              refine Go.by (T' := T311) (f' := (mkF m 355 LL310 [(.int (0 : Int32))])) (fun _ k => st311.trans k) ?_
              refine Go.by (T' := T311) (f' := (mkF m 358 LL310 [])) (fun _ k => XS.ifNo X311.here hx rfl (hb hby at_355) rfl ((if0 _ _).trans (teq (by decide : (0 : Int32) = (0 : Int32))).2) k) ?_
              refine Go.by (T' := T311) (f' := (mkF m 359 LL310 [(.int (1 : Int32))])) (fun _ k => XS.iconst X311.here hx rfl (hb hby at_358) k) ?_
              refine Go.by (T' := T311) (f' := (mkF m 363 LL310 [(.int (1 : Int32))])) (fun _ k => XS.goto X311.here hx rfl (pc0 := 359) (pc' := 363) rfl (hb hby at_359) (by decide) (by decide) k) ?_
              obtain ⟨fs, hr, hrun, hended, hW, hsame⟩ := X311.leave (v := some (.int (1 : Int32))) (fun h => by rw [Bd.returns] at h; cases h)
              refine ⟨_, _, retN X311 hx (t := .boolean) Bd.returns (by simp) (hb hby at_363) hr, hrun, hended, _, _, rfl, ?_, ⟨_, rfl⟩, hW, hsame.mono (by decide) (by decide)⟩
              show Q1 n0 (some (.int (1 : Int32))) T311.heap _
              rw [e311]
              exact ⟨rfl, N⟩
            · skip
              refine Go.by (T' := T302) (f' := (mkF m 328 LL301 [])) (fun _ k => XS.icmpYes X302.here hx rfl (pc0 := 319) (pc' := 328) rfl (hb hby at_319) rfl (feq hc319_309).2 (by decide) (by decide) k) ?_
              refine Go.by (T' := T302) (f' := (mkF m 330 LL301 [(.int (((z0.toUInt32 >>> ((1 : Int32) &&& 31).toUInt32).toInt32) &&& (3 : Int32)))])) (fun _ k => XS.iload X302.here hx rfl (hb hby at_328) rfl k) ?_
              refine Go.by (T' := T302) (f' := (mkF m 331 LL301 [(.int (2 : Int32)), (.int (((z0.toUInt32 >>> ((1 : Int32) &&& 31).toUInt32).toInt32) &&& (3 : Int32)))])) (fun _ k => XS.iconst X302.here hx rfl (hb hby at_330) k) ?_
              by_cases hc331_313 : (((z0.toUInt32 >>> ((1 : Int32) &&& 31).toUInt32).toInt32) &&& (3 : Int32)) = (2 : Int32)
              · skip
                refine Go.by (T' := T302) (f' := (mkF m 334 LL301 [])) (fun _ k => XS.icmpNo X302.here hx rfl (hb hby at_331) rfl (teq hc331_313).2 k) ?_
                refine Go.by (T' := T302) (f' := (mkF m 336 LL301 [(.ref b215)])) (fun _ k => XS.aload X302.here hx rfl (hb hby at_334) rfl rfl k) ?_
                let LL314 : Array Slot := #[.val (.int z0), .val (.int z1), .val (.int z2), .val (.int z3), .val (.int z4), .val (.int z5), .val (.int ((1 : Int32) + (z0 &&& (1 : Int32)))), .val (.int ((1 : Int32) + (z1 &&& (1 : Int32)))), .val (.int c4), .val (.int c6), .val (.int c8), .val (.int c10), .val (.ref b157), .val (.ref b208), .val (.int (z4 &&& (65535 : Int32))), .val (.int (z5 &&& (3 : Int32))), .val (.int p2), .val (.ref b215), .val (.ref b218), .val (.ref b221), .val (.int (0 : Int32)), .val (.int (0 : Int32)), .val (.int (((z0.toUInt32 >>> ((1 : Int32) &&& 31).toUInt32).toInt32) &&& (3 : Int32))), .val (.ref b215)]
                refine Go.by (T' := T302) (f' := (mkF m 338 LL314 [])) (fun _ k => XS.astore X302.here hx rfl (hb hby at_336) rfl rfl (l' := LL314) rfl k) ?_
                refine Go.by (T' := T302) (f' := (mkF m 348 LL314 [])) (fun _ k => XS.goto X302.here hx rfl (pc0 := 338) (pc' := 348) rfl (hb hby at_338) (by decide) (by decide) k) ?_
                refine Go.by (T' := T302) (f' := (mkF m 350 LL314 [(.ref b218)])) (fun _ k => XS.aload X302.here hx rfl (hb hby at_348) rfl rfl k) ?_
                refine Go.by (T' := T302) (f' := (mkF m 352 LL314 [(.ref b215), (.ref b218)])) (fun _ k => XS.aload X302.here hx rfl (hb hby at_350) rfl rfl k) ?_
                obtain ⟨cq315, kq315, q315a, q315b, q315c⟩ := isOf hZ e302 E_b218
                obtain ⟨v315, _, ⟨T315, L315, k315, n315⟩, -, X315, ⟨Lc315, hQ315, l315, y315, z315⟩, st315⟩ := X302.virtualBack hx (y := (⟨"com/example/honest_replica/honestreplica/model/Endpoint", "equals", "(Ljava/lang/Object;)Z"⟩ : MethodName)) (z := (⟨"com/example/honest_replica/honestreplica/model/Endpoint", "equals", "(Ljava/lang/Object;)Z"⟩ : MethodName)) hown (mvT hZ (hw _ (List.mem_of_getElem? (i := 52) rfl))) (mvT hZ (hw _ (List.mem_of_getElem? (i := 53) rfl))) (notFace_of_selects (args := #[]) (mvT hZ (hw _ (List.mem_of_getElem? (i := 55) rfl)))) (mvT hZ (hw _ (List.mem_of_getElem? (i := 55) rfl))) (mvT hZ (hw _ (List.mem_of_getElem? (i := 54) rfl))) (by decide) (backOf (W := 0) (rm_qs l Z a0 hw [] b218 b215 T224.heap n0 O E_b215) hZ (hw _ (List.mem_of_getElem? (i := 56) rfl)) (hw _ (List.mem_of_getElem? (i := 37) rfl)) (by decide) (by decide)) q315a q315c (g := (mkF m 352 LL314 [(.ref b215), (.ref b218)])) rfl (by rw [hml]; rfl) (Steps.refl _) (argsL := [(.ref b215)]) (rest := []) (lenOf pd_rm1_3 rfl) rfl (by show 2 * 0 + _ ≤ _; exact Nat.le_of_eq rfl) (hb hby at_352) (fun _ _ => ⟨rfl, e302, (by decide : 8 + 0 ≤ _), (by decide : 20 + 0 ≤ _)⟩)
                dsimp only [Pt.U, Pt.locs, Pt.cells, Pt.slots] at X315 l315 y315 z315 st315 hQ315
                subst l315 y315 z315
                obtain ⟨rfl, Nq315, e315⟩ := hQ315
                replace N := Fr.app N Nq315
                refine Go.by (T' := T315) (f' := (mkF m 355 LL314 [(.int (0 : Int32))])) (fun _ k => st315.trans k) ?_
                refine Go.by (T' := T315) (f' := (mkF m 358 LL314 [])) (fun _ k => XS.ifNo X315.here hx rfl (hb hby at_355) rfl ((if0 _ _).trans (teq (by decide : (0 : Int32) = (0 : Int32))).2) k) ?_
                refine Go.by (T' := T315) (f' := (mkF m 359 LL314 [(.int (1 : Int32))])) (fun _ k => XS.iconst X315.here hx rfl (hb hby at_358) k) ?_
                refine Go.by (T' := T315) (f' := (mkF m 363 LL314 [(.int (1 : Int32))])) (fun _ k => XS.goto X315.here hx rfl (pc0 := 359) (pc' := 363) rfl (hb hby at_359) (by decide) (by decide) k) ?_
                obtain ⟨fs, hr, hrun, hended, hW, hsame⟩ := X315.leave (v := some (.int (1 : Int32))) (fun h => by rw [Bd.returns] at h; cases h)
                refine ⟨_, _, retN X315 hx (t := .boolean) Bd.returns (by simp) (hb hby at_363) hr, hrun, hended, _, _, rfl, ?_, ⟨_, rfl⟩, hW, hsame.mono (by decide) (by decide)⟩
                show Q1 n0 (some (.int (1 : Int32))) T315.heap _
                rw [e315]
                exact ⟨rfl, N⟩
              · skip
                refine Go.by (T' := T302) (f' := (mkF m 341 LL301 [])) (fun _ k => XS.icmpYes X302.here hx rfl (pc0 := 331) (pc' := 341) rfl (hb hby at_331) rfl (feq hc331_313).2 (by decide) (by decide) k) ?_
                refine Go.by (T' := T302) (f' := (mkF m 343 LL301 [(.int (z4 &&& (65535 : Int32)))])) (fun _ k => XS.iload X302.here hx rfl (hb hby at_341) rfl k) ?_
                obtain ⟨v317, _, ⟨T317, L317, k317, n317⟩, -, X317, ⟨Lc317, hQ317, l317, y317, z317⟩, st317⟩ := Jvm.LawKit.callS X302 hx (y := (⟨"java/lang/Integer", "valueOf", "(I)Ljava/lang/Integer;"⟩ : MethodName)) hown (mvT hZ (hw _ (List.mem_of_getElem? (i := 71) rfl))) (mvT hZ (hw _ (List.mem_of_getElem? (i := 72) rfl))) (mvT hZ (hw _ (List.mem_of_getElem? (i := 73) rfl))) (mvT hZ (hw _ (List.mem_of_getElem? (i := 74) rfl))) (by decide) (backOf (W := 0) (rm_vo l Z a0 hw [] (z4 &&& (65535 : Int32)) wc cl zc hS T224.heap n0 O) hZ (hw _ (List.mem_of_getElem? (i := 74) rfl)) (hw _ (List.mem_of_getElem? (i := 73) rfl)) (by decide) (by decide)) (g := (mkF m 343 LL301 [(.int (z4 &&& (65535 : Int32)))])) rfl (by rw [hml]; rfl) (argsL := [(.int (z4 &&& (65535 : Int32)))]) (rest := []) (lenOf pd_rm1_4 rfl) rfl (by show 2 * 0 + _ ≤ _; exact Nat.le_of_eq rfl) (hb hby at_343) (fun _ _ => ⟨rfl, e302, (by decide : 8 + 1 ≤ _), (by decide : 20 + 1 ≤ _)⟩)
                dsimp only [Pt.U, Pt.locs, Pt.cells, Pt.slots] at X317 l317 y317 z317 st317 hQ317
                subst l317 y317 z317
                obtain ⟨bx317, rfl, Nq317, K317, E_bx317⟩ := hQ317
                replace N := Fr.app N Nq317
                replace V_b157 := V_b157.keep K317 nin0
                replace V_b208 := V_b208.keep K317 nin0
                replace E_b215 := E_b215.keep K317
                replace Gc216 := Gc216.keep K317 nin0
                replace Gv216 := Gv216.keep K317 nin0
                replace Vt216 := Vt216.keep K317 nin0
                replace E_b218 := E_b218.keep K317
                replace Gh219 := Gh219.keep K317 nin0
                replace Gp219 := Gp219.keep K317 nin0
                replace E_b221 := E_b221.keep K317
                replace E_b222 := E_b222.keep K317
                replace Gc223 := Gc223.keep K317 nin0
                replace Gv223 := Gv223.keep K317 nin0
                replace Vt223 := Vt223.keep K317 nin0
                replace Gh224 := Gh224.keep K317 nin0
                replace Gp224 := Gp224.keep K317 nin0
                replace O := O.keep K317 all0
                replace K := K.trans K317 all0
                refine Go.by (T' := T317) (f' := (mkF m 346 LL301 [(.ref bx317)])) (st317) ?_
                let LL318 : Array Slot := #[.val (.int z0), .val (.int z1), .val (.int z2), .val (.int z3), .val (.int z4), .val (.int z5), .val (.int ((1 : Int32) + (z0 &&& (1 : Int32)))), .val (.int ((1 : Int32) + (z1 &&& (1 : Int32)))), .val (.int c4), .val (.int c6), .val (.int c8), .val (.int c10), .val (.ref b157), .val (.ref b208), .val (.int (z4 &&& (65535 : Int32))), .val (.int (z5 &&& (3 : Int32))), .val (.int p2), .val (.ref b215), .val (.ref b218), .val (.ref b221), .val (.int (0 : Int32)), .val (.int (0 : Int32)), .val (.int (((z0.toUInt32 >>> ((1 : Int32) &&& 31).toUInt32).toInt32) &&& (3 : Int32))), .val (.ref bx317)]
                refine Go.by (T' := T317) (f' := (mkF m 348 LL318 [])) (fun _ k => XS.astore X317.here hx rfl (hb hby at_346) rfl rfl (l' := LL318) rfl k) ?_
                refine Go.by (T' := T317) (f' := (mkF m 350 LL318 [(.ref b218)])) (fun _ k => XS.aload X317.here hx rfl (hb hby at_348) rfl rfl k) ?_
                refine Go.by (T' := T317) (f' := (mkF m 352 LL318 [(.ref bx317), (.ref b218)])) (fun _ k => XS.aload X317.here hx rfl (hb hby at_350) rfl rfl k) ?_
                obtain ⟨cq319, kq319, q319a, q319b, q319c⟩ := isOf hZ rfl E_b218
                obtain ⟨v319, _, ⟨T319, L319, k319, n319⟩, -, X319, ⟨Lc319, hQ319, l319, y319, z319⟩, st319⟩ := X317.virtualBack hx (y := (⟨"com/example/honest_replica/honestreplica/model/Endpoint", "equals", "(Ljava/lang/Object;)Z"⟩ : MethodName)) (z := (⟨"com/example/honest_replica/honestreplica/model/Endpoint", "equals", "(Ljava/lang/Object;)Z"⟩ : MethodName)) hown (mvT hZ (hw _ (List.mem_of_getElem? (i := 52) rfl))) (mvT hZ (hw _ (List.mem_of_getElem? (i := 53) rfl))) (notFace_of_selects (args := #[]) (mvT hZ (hw _ (List.mem_of_getElem? (i := 55) rfl)))) (mvT hZ (hw _ (List.mem_of_getElem? (i := 55) rfl))) (mvT hZ (hw _ (List.mem_of_getElem? (i := 54) rfl))) (by decide) (backOf (W := 0) (rm_qi l Z a0 hw [] b218 bx317 T317.heap n0 O E_bx317) hZ (hw _ (List.mem_of_getElem? (i := 56) rfl)) (hw _ (List.mem_of_getElem? (i := 37) rfl)) (by decide) (by decide)) q319a q319c (g := (mkF m 352 LL318 [(.ref bx317), (.ref b218)])) rfl (by rw [hml]; rfl) (Steps.refl _) (argsL := [(.ref bx317)]) (rest := []) (lenOf pd_rm1_3 rfl) rfl (by show 2 * 0 + _ ≤ _; exact Nat.le_of_eq rfl) (hb hby at_352) (fun _ _ => ⟨rfl, rfl, (by decide : 9 + 0 ≤ _), (by decide : 21 + 0 ≤ _)⟩)
                dsimp only [Pt.U, Pt.locs, Pt.cells, Pt.slots] at X319 l319 y319 z319 st319 hQ319
                subst l319 y319 z319
                obtain ⟨rfl, Nq319, e319⟩ := hQ319
                replace N := Fr.app N Nq319
                refine Go.by (T' := T319) (f' := (mkF m 355 LL318 [(.int (0 : Int32))])) (fun _ k => st319.trans k) ?_
                refine Go.by (T' := T319) (f' := (mkF m 358 LL318 [])) (fun _ k => XS.ifNo X319.here hx rfl (hb hby at_355) rfl ((if0 _ _).trans (teq (by decide : (0 : Int32) = (0 : Int32))).2) k) ?_
                refine Go.by (T' := T319) (f' := (mkF m 359 LL318 [(.int (1 : Int32))])) (fun _ k => XS.iconst X319.here hx rfl (hb hby at_358) k) ?_
                refine Go.by (T' := T319) (f' := (mkF m 363 LL318 [(.int (1 : Int32))])) (fun _ k => XS.goto X319.here hx rfl (pc0 := 359) (pc' := 363) rfl (hb hby at_359) (by decide) (by decide) k) ?_
                obtain ⟨fs, hr, hrun, hended, hW, hsame⟩ := X319.leave (v := some (.int (1 : Int32))) (fun h => by rw [Bd.returns] at h; cases h)
                refine ⟨_, _, retN X319 hx (t := .boolean) Bd.returns (by simp) (hb hby at_363) hr, hrun, hended, _, _, rfl, ?_, ⟨_, rfl⟩, hW, hsame.mono (by decide) (by decide)⟩
                show Q1 n0 (some (.int (1 : Int32))) T319.heap _
                rw [e319]
                exact ⟨rfl, N⟩
      refine Go.by (T' := T210) (f' := (mkF m 123 LL213 [(.int (z5 &&& (3 : Int32)))])) (fun _ k => XS.iload X210.here hx rfl (hb hby at_121) rfl k) ?_
      by_cases hc123_321 : (z5 &&& (3 : Int32)) = (0 : Int32)
      · skip
        refine Go.by (T' := T210) (f' := (mkF m 126 LL213 [])) (fun _ k => XS.ifNo X210.here hx rfl (hb hby at_123) rfl ((if0 _ _).trans (teq hc123_321).2) k) ?_
        refine Go.by (T' := T210) (f' := (mkF m 128 LL213 [(.int (z4 &&& (65535 : Int32)))])) (fun _ k => XS.iload X210.here hx rfl (hb hby at_126) rfl k) ?_
        let LL322 : Array Slot := #[.val (.int z0), .val (.int z1), .val (.int z2), .val (.int z3), .val (.int z4), .val (.int z5), .val (.int ((1 : Int32) + (z0 &&& (1 : Int32)))), .val (.int ((1 : Int32) + (z1 &&& (1 : Int32)))), .val (.int c4), .val (.int c6), .val (.int c8), .val (.int c10), .val (.ref b157), .val (.ref b208), .val (.int (z4 &&& (65535 : Int32))), .val (.int (z5 &&& (3 : Int32))), .val (.int (z4 &&& (65535 : Int32))), .unset, .unset, .unset, .unset, .unset, .unset, .unset]
        refine Go.by (T' := T210) (f' := (mkF m 130 LL322 [])) (fun _ k => XS.istore X210.here hx rfl (hb hby at_128) rfl (l' := LL322) rfl k) ?_
        refine Go.by (T' := T210) (f' := (mkF m 165 LL322 [])) (fun _ k => XS.goto X210.here hx rfl (pc0 := 130) (pc' := 165) rfl (hb hby at_130) (by decide) (by decide) k) ?_
        exact key _ (own_p16 _)
      · skip
        refine Go.by (T' := T210) (f' := (mkF m 133 LL213 [])) (fun _ k => XS.ifYes X210.here hx rfl (pc0 := 123) (pc' := 133) rfl (hb hby at_123) rfl ((if0 _ _).trans (feq hc123_321).2) (by decide) (by decide) k) ?_
        refine Go.by (T' := T210) (f' := (mkF m 135 LL213 [(.int (z5 &&& (3 : Int32)))])) (fun _ k => XS.iload X210.here hx rfl (hb hby at_133) rfl k) ?_
        refine Go.by (T' := T210) (f' := (mkF m 136 LL213 [(.int (1 : Int32)), (.int (z5 &&& (3 : Int32)))])) (fun _ k => XS.iconst X210.here hx rfl (hb hby at_135) k) ?_
        by_cases hc136_323 : (z5 &&& (3 : Int32)) = (1 : Int32)
        · skip
          refine Go.by (T' := T210) (f' := (mkF m 139 LL213 [])) (fun _ k => XS.icmpNo X210.here hx rfl (hb hby at_136) rfl (teq hc136_323).2 k) ?_
          refine Go.by (T' := T210) (f' := (mkF m 141 LL213 [(.int (z4 &&& (65535 : Int32)))])) (fun _ k => XS.iload X210.here hx rfl (hb hby at_139) rfl k) ?_
          refine Go.by (T' := T210) (f' := (mkF m 142 LL213 [(.int (1 : Int32)), (.int (z4 &&& (65535 : Int32)))])) (fun _ k => XS.iconst X210.here hx rfl (hb hby at_141) k) ?_
          refine Go.by (T' := T210) (f' := (mkF m 144 LL213 [(.int z5), (.int (1 : Int32)), (.int (z4 &&& (65535 : Int32)))])) (fun _ k => XS.iload X210.here hx rfl (hb hby at_142) rfl k) ?_
          refine Go.by (T' := T210) (f' := (mkF m 145 LL213 [(.int (2 : Int32)), (.int z5), (.int (1 : Int32)), (.int (z4 &&& (65535 : Int32)))])) (fun _ k => XS.iconst X210.here hx rfl (hb hby at_144) k) ?_
          refine Go.by (T' := T210) (f' := (mkF m 146 LL213 [(.int ((z5.toUInt32 >>> ((2 : Int32) &&& 31).toUInt32).toInt32)), (.int (1 : Int32)), (.int (z4 &&& (65535 : Int32)))])) (fun _ k => XS.iushr X210.here hx rfl (hb hby at_145) rfl k) ?_
          refine Go.by (T' := T210) (f' := (mkF m 148 LL213 [(.int (15 : Int32)), (.int ((z5.toUInt32 >>> ((2 : Int32) &&& 31).toUInt32).toInt32)), (.int (1 : Int32)), (.int (z4 &&& (65535 : Int32)))])) (fun _ k => XS.bipush X210.here hx rfl (hb hby at_146) k) ?_
          refine Go.by (T' := T210) (f' := (mkF m 149 LL213 [(.int (((z5.toUInt32 >>> ((2 : Int32) &&& 31).toUInt32).toInt32) &&& (15 : Int32))), (.int (1 : Int32)), (.int (z4 &&& (65535 : Int32)))])) (fun _ k => XS.iand X210.here hx rfl (hb hby at_148) rfl k) ?_
          refine Go.by (T' := T210) (f' := (mkF m 150 LL213 [(.int ((1 : Int32) <<< ((((z5.toUInt32 >>> ((2 : Int32) &&& 31).toUInt32).toInt32) &&& (15 : Int32)) &&& 31))), (.int (z4 &&& (65535 : Int32)))])) (fun _ k => XS.ishl X210.here hx rfl (hb hby at_149) rfl k) ?_
          refine Go.by (T' := T210) (f' := (mkF m 151 LL213 [(.int ((z4 &&& (65535 : Int32)) ^^^ ((1 : Int32) <<< ((((z5.toUInt32 >>> ((2 : Int32) &&& 31).toUInt32).toInt32) &&& (15 : Int32)) &&& 31))))])) (fun _ k => XS.ixor X210.here hx rfl (hb hby at_150) rfl k) ?_
          let LL324 : Array Slot := #[.val (.int z0), .val (.int z1), .val (.int z2), .val (.int z3), .val (.int z4), .val (.int z5), .val (.int ((1 : Int32) + (z0 &&& (1 : Int32)))), .val (.int ((1 : Int32) + (z1 &&& (1 : Int32)))), .val (.int c4), .val (.int c6), .val (.int c8), .val (.int c10), .val (.ref b157), .val (.ref b208), .val (.int (z4 &&& (65535 : Int32))), .val (.int (z5 &&& (3 : Int32))), .val (.int ((z4 &&& (65535 : Int32)) ^^^ ((1 : Int32) <<< ((((z5.toUInt32 >>> ((2 : Int32) &&& 31).toUInt32).toInt32) &&& (15 : Int32)) &&& 31)))), .unset, .unset, .unset, .unset, .unset, .unset, .unset]
          refine Go.by (T' := T210) (f' := (mkF m 153 LL324 [])) (fun _ k => XS.istore X210.here hx rfl (hb hby at_151) rfl (l' := LL324) rfl k) ?_
          refine Go.by (T' := T210) (f' := (mkF m 165 LL324 [])) (fun _ k => XS.goto X210.here hx rfl (pc0 := 153) (pc' := 165) rfl (hb hby at_153) (by decide) (by decide) k) ?_
          exact key _ (own_x16 _ _)
        · skip
          refine Go.by (T' := T210) (f' := (mkF m 156 LL213 [])) (fun _ k => XS.icmpYes X210.here hx rfl (pc0 := 136) (pc' := 156) rfl (hb hby at_136) rfl (feq hc136_323).2 (by decide) (by decide) k) ?_
          refine Go.by (T' := T210) (f' := (mkF m 158 LL213 [(.int z5)])) (fun _ k => XS.iload X210.here hx rfl (hb hby at_156) rfl k) ?_
          refine Go.by (T' := T210) (f' := (mkF m 159 LL213 [(.int (2 : Int32)), (.int z5)])) (fun _ k => XS.iconst X210.here hx rfl (hb hby at_158) k) ?_
          refine Go.by (T' := T210) (f' := (mkF m 160 LL213 [(.int ((z5.toUInt32 >>> ((2 : Int32) &&& 31).toUInt32).toInt32))])) (fun _ k => XS.iushr X210.here hx rfl (hb hby at_159) rfl k) ?_
          refine Go.by (T' := T210) (f' := (mkF m 162 LL213 [(.int (65535 : Int32)), (.int ((z5.toUInt32 >>> ((2 : Int32) &&& 31).toUInt32).toInt32))])) (X210.ldcInt hx hown (mvT hZ (hw _ (List.mem_of_getElem? (i := 5) rfl))) (g := (mkF m 160 LL213 [(.int ((z5.toUInt32 >>> ((2 : Int32) &&& 31).toUInt32).toInt32))])) rfl (hb hby at_160)) ?_
          refine Go.by (T' := T210) (f' := (mkF m 163 LL213 [(.int (((z5.toUInt32 >>> ((2 : Int32) &&& 31).toUInt32).toInt32) &&& (65535 : Int32)))])) (fun _ k => XS.iand X210.here hx rfl (hb hby at_162) rfl k) ?_
          let LL325 : Array Slot := #[.val (.int z0), .val (.int z1), .val (.int z2), .val (.int z3), .val (.int z4), .val (.int z5), .val (.int ((1 : Int32) + (z0 &&& (1 : Int32)))), .val (.int ((1 : Int32) + (z1 &&& (1 : Int32)))), .val (.int c4), .val (.int c6), .val (.int c8), .val (.int c10), .val (.ref b157), .val (.ref b208), .val (.int (z4 &&& (65535 : Int32))), .val (.int (z5 &&& (3 : Int32))), .val (.int (((z5.toUInt32 >>> ((2 : Int32) &&& 31).toUInt32).toInt32) &&& (65535 : Int32))), .unset, .unset, .unset, .unset, .unset, .unset, .unset]
          refine Go.by (T' := T210) (f' := (mkF m 165 LL325 [])) (fun _ k => XS.istore X210.here hx rfl (hb hby at_163) rfl (l' := LL325) rfl k) ?_
          exact key _ (own_p16 _)

set_option maxRecDepth 65536 in
set_option maxHeartbeats 40000000 in
theorem comes_1 {Post : Tables → Env → Array Value → State → Outcome → State → Prop} (hpost : ∀ tb e args s v u, (limb_1_1.after args s (.returned v) u = true ∧ limb_1_2.after args s (.returned v) u = true ∧ True) → FrameEnd s (.returned v) u (Jvm.fieldLocs frame_1_writes args s ++ Jvm.arrayLocs frame_1_arrays args s ++ Jvm.staticLocs frame_1_statics s) 32 128 → Post tb e args s (.returned v) u) :
    ArmFor flags0 classFile x code maxLocals ret World_1 tables_1 room_1 Calls_1 rest_1 Pre_1 Post := by
  intro l hfl _ _ p e ha hc hk s m args below hf hA hF happ hP
  obtain ⟨hcalls, hrest, hpre⟩ := hP
  obtain ⟨-, -, -, hnamed, -, -, -, hat⟩ := (Spec.applies_iff hf).mp happ
  obtain ⟨hg, hn⟩ := and_e (Cond.before_iff.mp (show (Jvm.Cond.and given_1 narrow_1).before args s = true from hpre))
  obtain ⟨hcount, hg⟩ := and_e hg
  obtain ⟨w0, w1, w2, w3, w4, w5, rfl⟩ : ∃ w0 w1 w2 w3 w4 w5 : Value, args = #[w0, w1, w2, w3, w4, w5] := by
    have hs : args.size = 6 := by simpa [Cond.value, given_1] using hcount
    obtain ⟨L⟩ := args
    match L, hs with
    | [w0, w1, w2, w3, w4, w5], _ => exact ⟨w0, w1, w2, w3, w4, w5, rfl⟩
  have hw := fun d (hd : d ∈ tables_1) => atoms_spec (ws := Jvm.Cond.code x code maxLocals ret :: tables_1) hat d (List.mem_cons_of_mem _ hd)
  have hfit : Fit s := fun {y c} hc i hi => by
    obtain ⟨ha, rfl⟩ := Array.getElem?_eq_some_iff.mp hc
    have q := List.all_eq_true.mp ((Array.all_eq_true_iff_forall_mem.mp hF) _ (Array.getElem_mem ha)) i (List.mem_range.mpr hi)
    simpa [Array.getElem?_eq_getElem hi] using q
  obtain ⟨hg0, hg⟩ := and_e hg
  obtain ⟨i0, ei0⟩ := is_v hg0
  obtain rfl : w0 = (.int i0) := Option.some.inj ei0
  obtain ⟨hg1, hg⟩ := and_e hg
  obtain ⟨i1, ei1⟩ := is_v hg1
  obtain rfl : w1 = (.int i1) := Option.some.inj ei1
  obtain ⟨hg2, hg⟩ := and_e hg
  obtain ⟨i2, ei2⟩ := is_v hg2
  obtain rfl : w2 = (.int i2) := Option.some.inj ei2
  obtain ⟨hg3, hg⟩ := and_e hg
  obtain ⟨i3, ei3⟩ := is_v hg3
  obtain rfl : w3 = (.int i3) := Option.some.inj ei3
  obtain ⟨hg4, hg⟩ := and_e hg
  obtain ⟨i4, ei4⟩ := is_v hg4
  obtain rfl : w4 = (.int i4) := Option.some.inj ei4
  have hg5 := hg
  obtain ⟨i5, ei5⟩ := is_v hg5
  obtain rfl : w5 = (.int i5) := Option.some.inj ei5
  have hs : ∀ d ∈ jdkStatics_1, d.before #[.int i0, .int i1, .int i2, .int i3, .int i4, .int i5] s = true := (atoms_of jdkStatics_1 (own := restOwn_1) (rest_1_c_eq ▸ hrest)).1
  obtain ⟨zc, ezc⟩ := is_v (Cond.before_iff.mp (hs _ (List.mem_of_getElem? (i := 1) rfl)))
  have S_z : Sta s s.heap "java/lang/String" "COMPACT_STRINGS" "Z" (.int zc) := Sta.start ezc (Or.inl (hs _ (List.mem_of_getElem? (i := 0) rfl)))
  have H_z : ¬ zc = 0 := fun q => by have h := not_v (Cond.before_iff.mp (hs _ (List.mem_of_getElem? (i := 2) rfl))); rw [Jvm.Cond.eq_ints ezc (Term.int_eval 0)] at h; simp [q] at h
  obtain ⟨xh, yh, ehx, ehy, -, kinh⟩ := cmp_v (Or.inl (Cond.before_iff.mp (hs _ (List.mem_of_getElem? (i := 12) rfl))))
  obtain rfl : yh = .int 127 := (Option.some.inj ((Term.int_eval 127).symm.trans ehy)).symm
  obtain ⟨zh, rfl⟩ := kinh
  have ezh : zh = 127 := by have q := Cond.before_iff.mp (hs _ (List.mem_of_getElem? (i := 12) rfl)); simpa [Cond.value, ehx, ehy] using q
  subst ezh
  have S_high : Sta s s.heap "java/lang/Integer$IntegerCache" "high" "I" (.int 127) := Sta.start ehx (Or.inl (hs _ (List.mem_of_getElem? (i := 10) rfl)))
  obtain ⟨wc, ec⟩ := arr_v (Cond.before_iff.mp (hs _ (List.mem_of_getElem? (i := 13) rfl)))
  have S_cache : Sta s s.heap "java/lang/Integer$IntegerCache" "cache" "[Ljava/lang/Integer;" (.ref wc) := Sta.start ec (Or.inr ⟨(hw _ (List.mem_of_getElem? (i := 76) rfl)), (hs _ (List.mem_of_getElem? (i := 11) rfl))⟩)
  obtain ⟨cl, A_c⟩ := Arr.start ec (Cond.before_iff.mp (hs _ (List.mem_of_getElem? (i := 13) rfl)))
  obtain ⟨hsz, hsize⟩ := IntBox.length_fwd (hs _ (List.mem_of_getElem? (i := 15) rfl)) ec A_c.1 A_c.2.1 A_c.2.2
  have h256 : cl.slots.size = 256 := by have q := len_toInt hsz; rw [hsize] at q; have q2 : (256 : Int32).toInt = 256 := rfl; omega
  have H_c := own_cache ec A_c h256 (hs _ (List.mem_of_getElem? (i := 16) rfl))
  have hS : Sf s wc cl zc := ⟨S_high, S_cache, A_c, H_c, S_z, H_z, trivial⟩
  obtain ⟨n, o, h1, h2, h3, _, L, rfl, ⟨rfl, N⟩, hq⟩ := rm1 l s _ hw tables_1 i0 i1 i2 i3 i4 i5 wc cl zc hS s.heap s.heap.size (Old.start s) p e ha hc hk s m _ below hf ((Spec.applies_iff_loose hf).mp happ).1 ⟨rfl, State.Warmed39.refl s, rfl⟩ trivial
  refine ⟨n, _, h1, h2, h3, hpost _ _ _ _ _ _ ⟨Cond.after_iff.mpr rfl, Cond.after_iff.mpr (eq_i res_at (Term.int_eval (1)) rfl), trivial⟩ ⟨hq.1, hq.2.1, (hq.2.2.sift fun y hy => Or.inr (N y hy)).mono (by decide) (by decide)⟩⟩
theorem main_1_1 : Claimed_1_1 := comes_1 fun _ _ _ _ _ _ h hF => ⟨h.1, hF⟩
theorem main_1_2 : Claimed_1_2 := comes_1 fun _ _ _ _ _ _ h hF => ⟨h.2.1, hF⟩
end Jvm.Pilot.@@N@@
namespace Jvm.Pilot.@@N@@
open Jvm Jvm.ClassFile Sem Op Lib Jvm.Free Jvm.Stand Jvm.Pilot.@@N@@.Jvm.D
/-! MADE BY PROGRAM (witnessworld.py) out of the Statement's table words and the real class files: 24 classes; the members and pool entries that the words name. The judged class is class 1, her method 2. -/
namespace start1
open Jvm.ClassFile
def u (s : String) : CpInfo := .utf8 (stringToUtf16 s)
/-- a pool by its gaps: so many unusable entries, then the entry; so many at the end -/
def gap : Nat → List CpInfo → List CpInfo
  | 0, r => r
  | n + 1, r => .unusable :: gap n r
def poolList (es : List (Nat × CpInfo)) (last : Nat) : List CpInfo := es.foldr (fun e r => gap e.1 (e.2 :: r)) (gap last [])
def pool (es : List (Nat × CpInfo)) (last : Nat) : Array CpInfo := ⟨poolList es last⟩
def fileOf (pool : Array CpInfo) (this : Nat) (attrs : Array Attribute := #[]) (ms : Array MethodInfo := #[]) (fl : Nat := 33) (sup : Nat := 0) (ifs : Array Nat := #[]) (fds : Array FieldInfo := #[]) : ClassFile where
  minorVersion := 0
  majorVersion := 65
  constantPool := pool
  accessFlags := fl
  thisClass := this
  superClass := sup
  interfaces := ifs
  fields := fds
  methods := ms
  attributes := attrs
def plain (name : String) (sup : Option ClassId) : Class where
  name := name
  kind := .ordinary
  loader := none
  accessFlags := 33
  super := sup
  interfaces := #[]
  cf := none
  fields := #[]
  methods := #[]
  instanceTypes := #[]
  staticTypes := #[]
  resolved := #[]
  callSites := []
  init := .initialized
  statics := none
  mirror := none

def pool0 : Array CpInfo := pool [(5, u "<init>"), (0, u "()V"), (1, .class_ 10), (1, u "java/lang/Object")] 113

def k0c0 : Code := { maxStack := 0, maxLocals := 1, code := object_method_1_code, exceptionTable := #[], attributes := #[] }
def k0m0 : Method := { name := "<init>", desc := "()V", sig := { parameters := [], returnType := none }, accessFlags := 1, code := some k0c0 }
/-- java/lang/Object -/
def k0 : Class := { plain "java/lang/Object" none with
  accessFlags := 33
  interfaces := #[]
  cf := some (fileOf pool0 8 #[] #[{ accessFlags := 1, nameIndex := 5, descriptorIndex := 6, attributes := #[] }] 33 0 #[] #[])
  fields := #[]
  methods := #[k0m0]
  instanceTypes := #[]
  staticTypes := #[]
  resolved := Array.replicate 124 none
  statics := none }

def pool1 : Array CpInfo := pool [(2, .class_ 4), (1, u "java/lang/Object"), (0, u "<init>"), (0, u "()V"), (0, .methodref 8 9), (0, .class_ 10), (0, .nameAndType 11 12), (0, u "com/example/honest_replica/honestreplica/model/EndpointEqualsPinLaw"), (0, u "ch"), (0, u "(I)C"), (0, .integer 65535), (0, .class_ 15), (0, u "java/lang/String"), (0, .methodref 14 17), (0, .nameAndType 5 18), (0, u "([C)V"), (0, .class_ 20), (0, u "com/example/honest_replica/honestreplica/model/Endpoint"), (0, .methodref 19 22), (0, .nameAndType 5 23), (0, u "(Ljava/lang/String;I)V"), (0, .methodref 19 25), (0, .nameAndType 26 27), (0, u "equals"), (0, u "(Ljava/lang/Object;)Z"), (0, .methodref 29 30), (0, .class_ 31), (0, .nameAndType 32 33), (0, u "java/lang/Integer"), (0, u "valueOf"), (0, u "(I)Ljava/lang/Integer;"), (3, u "law"), (0, u "(IIIIII)Z")] 4

def k1m0 : Method := { name := "<init>", desc := "()V", sig := { parameters := [], returnType := none }, accessFlags := 1, code := none }
def k1c1 : Code := { maxStack := 3, maxLocals := 2, code := method_2_code, exceptionTable := #[], attributes := #[] }
def k1m1 : Method := { name := "ch", desc := "(I)C", sig := { parameters := [.int], returnType := some .char }, accessFlags := 10, code := some k1c1 }
def k1c2 : Code := { maxStack := 5, maxLocals := 24, code := code, exceptionTable := #[], attributes := #[] }
def k1m2 : Method := { name := "law", desc := "(IIIIII)Z", sig := { parameters := [.int, .int, .int, .int, .int, .int], returnType := some .boolean }, accessFlags := 9, code := some k1c2 }
/-- com/example/honest_replica/honestreplica/model/EndpointEqualsPinLaw -/
def k1 : Class := { plain "com/example/honest_replica/honestreplica/model/EndpointEqualsPinLaw" (some 0) with
  accessFlags := 49
  interfaces := #[]
  cf := some (fileOf pool1 8 #[] #[{ accessFlags := 1, nameIndex := 5, descriptorIndex := 6, attributes := #[] }, { accessFlags := 10, nameIndex := 11, descriptorIndex := 12, attributes := #[] }, { accessFlags := 9, nameIndex := 37, descriptorIndex := 38, attributes := #[] }] 49 2 #[] #[])
  fields := #[]
  methods := #[k1m0, k1m1, k1m2]
  instanceTypes := #[]
  staticTypes := #[]
  resolved := Array.replicate 43 none
  statics := none }

def pool2 : Array CpInfo := pool [(1, .class_ 2), (0, u "java/io/Serializable"), (0, .class_ 4), (0, u "java/lang/Object")] 2

/-- java/io/Serializable -/
def k2 : Class := { plain "java/io/Serializable" (some 0) with
  accessFlags := 1537
  interfaces := #[]
  cf := some (fileOf pool2 1 #[] #[] 1537 3 #[] #[])
  fields := #[]
  methods := #[]
  instanceTypes := #[]
  staticTypes := #[]
  resolved := Array.replicate 7 none
  statics := none }

def pool3 : Array CpInfo := pool [(1, .class_ 2), (0, u "java/lang/Comparable"), (0, .class_ 4), (0, u "java/lang/Object")] 7

/-- java/lang/Comparable -/
def k3 : Class := { plain "java/lang/Comparable" (some 0) with
  accessFlags := 1537
  interfaces := #[]
  cf := some (fileOf pool3 1 #[] #[] 1537 3 #[] #[])
  fields := #[]
  methods := #[]
  instanceTypes := #[]
  staticTypes := #[]
  resolved := Array.replicate 12 none
  statics := none }

def pool4 : Array CpInfo := pool [(2, .class_ 4), (1, u "java/lang/CharSequence"), (42, .class_ 48), (0, u "java/lang/CharSequence$1CodePointIterator"), (10, .class_ 60), (0, u "java/lang/CharSequence$1CharIterator"), (5, .class_ 67), (0, u "java/lang/Object")] 63

/-- java/lang/CharSequence -/
def k4 : Class := { plain "java/lang/CharSequence" (some 0) with
  accessFlags := 1537
  interfaces := #[]
  cf := some (fileOf pool4 2 #[.nestMembers #[47, 59]] #[] 1537 66 #[] #[])
  fields := #[]
  methods := #[]
  instanceTypes := #[]
  staticTypes := #[]
  resolved := Array.replicate 131 none
  statics := none }

def pool5 : Array CpInfo := pool [(1, .class_ 2), (0, u "java/lang/constant/Constable"), (0, .class_ 4), (0, u "java/lang/Object")] 6

/-- java/lang/constant/Constable -/
def k5 : Class := { plain "java/lang/constant/Constable" (some 0) with
  accessFlags := 1537
  interfaces := #[]
  cf := some (fileOf pool5 1 #[] #[] 1537 3 #[] #[])
  fields := #[]
  methods := #[]
  instanceTypes := #[]
  staticTypes := #[]
  resolved := Array.replicate 11 none
  statics := none }

def pool6 : Array CpInfo := pool [(1, .class_ 2), (0, u "java/lang/constant/ConstantDesc"), (0, .class_ 4), (0, u "java/lang/Object")] 32

/-- java/lang/constant/ConstantDesc -/
def k6 : Class := { plain "java/lang/constant/ConstantDesc" (some 0) with
  accessFlags := 1537
  interfaces := #[]
  cf := some (fileOf pool6 1 #[] #[] 1537 3 #[] #[])
  fields := #[]
  methods := #[]
  instanceTypes := #[]
  staticTypes := #[]
  resolved := Array.replicate 37 none
  statics := none }

def pool7 : Array CpInfo := pool [(1, .methodref 2 3), (0, .class_ 4), (0, .nameAndType 5 6), (0, u "java/lang/Object"), (0, u "<init>"), (0, u "()V"), (2, .fieldref 10 11), (0, .class_ 12), (0, .nameAndType 13 14), (0, u "java/lang/String"), (0, u "value"), (0, u "[B"), (0, .fieldref 10 16), (0, .nameAndType 17 18), (0, u "coder"), (0, u "B"), (2, u "hash"), (0, u "I"), (2, u "hashIsZero"), (0, u "Z"), (0, .methodref 10 28), (0, .nameAndType 5 29), (0, u "([CIILjava/lang/Void;)V"), (8, .fieldref 10 39), (0, .nameAndType 40 26), (0, u "COMPACT_STRINGS"), (1, .class_ 44), (1, u "java/lang/StringUTF16"), (0, u "compress"), (1, .methodref 42 48), (0, .nameAndType 49 50), (0, u "coderFromArrayLen"), (0, u "([BI)B"), (56, .class_ 109), (1, u "java/lang/StringLatin1"), (32, u "()Z"), (34, .methodref 42 178), (0, .nameAndType 45 179), (0, u "([CII)[B"), (361, .methodref 107 542), (0, .nameAndType 543 544), (0, u "equals"), (0, u "([B[B)Z"), (28, u "(Ljava/lang/Object;)Z"), (1, .class_ 576), (0, u "java/lang/CharSequence"), (22, u "CASE_INSENSITIVE_ORDER"), (0, u "Ljava/util/Comparator;"), (91, u "isEmpty"), (317, u "([C)V"), (90, u "serialPersistentFields"), (0, u "[Ljava/io/ObjectStreamField;"), (0, .class_ 1104), (0, u "java/lang/String$CaseInsensitiveComparator"), (1, .class_ 1107), (0, u "java/io/Serializable"), (0, .class_ 1109), (0, u "java/lang/Comparable"), (0, .class_ 1111), (0, u "java/lang/constant/Constable"), (0, .class_ 1113), (0, u "java/lang/constant/ConstantDesc"), (2, u "serialVersionUID"), (0, u "J"), (3, u "REPL"), (0, u "C"), (2, u "LATIN1"), (1, u "UTF16")] 323

def k7m0 : Method := { name := "<init>", desc := "()V", sig := { parameters := [], returnType := none }, accessFlags := 1, code := none }
def k7c1 : Code := { maxStack := 5, maxLocals := 2, code := jdk_42_method_3_code, exceptionTable := #[], attributes := #[] }
def k7m1 : Method := { name := "<init>", desc := "([C)V", sig := { parameters := [(.array .char)], returnType := none }, accessFlags := 1, code := some k7c1 }
def k7c2 : Code := { maxStack := 1, maxLocals := 1, code := jdk_42_method_55_code, exceptionTable := #[], attributes := #[] }
def k7m2 : Method := { name := "isEmpty", desc := "()Z", sig := { parameters := [], returnType := some .boolean }, accessFlags := 1, code := some k7c2 }
def k7c3 : Code := { maxStack := 2, maxLocals := 3, code := jdk_42_method_66_code, exceptionTable := #[], attributes := #[] }
def k7m3 : Method := { name := "equals", desc := "(Ljava/lang/Object;)Z", sig := { parameters := [(.object "java/lang/Object")], returnType := some .boolean }, accessFlags := 1, code := some k7c3 }
def k7c4 : Code := { maxStack := 4, maxLocals := 6, code := jdk_42_method_149_code, exceptionTable := #[], attributes := #[] }
def k7m4 : Method := { name := "<init>", desc := "([CIILjava/lang/Void;)V", sig := { parameters := [(.array .char), .int, .int, (.object "java/lang/Void")], returnType := none }, accessFlags := 2, code := some k7c4 }
/-- java/lang/String -/
def k7 : Class := { plain "java/lang/String" (some 0) with
  accessFlags := 49
  interfaces := #[2, 3, 4, 5, 6]
  cf := some (fileOf pool7 10 #[.nestMembers #[1103]] #[{ accessFlags := 1, nameIndex := 5, descriptorIndex := 6, attributes := #[] }, { accessFlags := 1, nameIndex := 5, descriptorIndex := 1010, attributes := #[] }, { accessFlags := 1, nameIndex := 692, descriptorIndex := 142, attributes := #[] }, { accessFlags := 1, nameIndex := 543, descriptorIndex := 573, attributes := #[] }, { accessFlags := 2, nameIndex := 5, descriptorIndex := 29, attributes := #[] }] 49 2 #[1106, 1108, 575, 1110, 1112] #[{ accessFlags := 18, nameIndex := 13, descriptorIndex := 14, attributes := #[] }, { accessFlags := 18, nameIndex := 17, descriptorIndex := 18, attributes := #[] }, { accessFlags := 2, nameIndex := 21, descriptorIndex := 22, attributes := #[] }, { accessFlags := 2, nameIndex := 25, descriptorIndex := 26, attributes := #[] }, { accessFlags := 26, nameIndex := 1116, descriptorIndex := 1117, attributes := #[] }, { accessFlags := 24, nameIndex := 40, descriptorIndex := 26, attributes := #[] }, { accessFlags := 26, nameIndex := 1101, descriptorIndex := 1102, attributes := #[] }, { accessFlags := 26, nameIndex := 1121, descriptorIndex := 1122, attributes := #[] }, { accessFlags := 25, nameIndex := 599, descriptorIndex := 600, attributes := #[] }, { accessFlags := 24, nameIndex := 1125, descriptorIndex := 18, attributes := #[] }, { accessFlags := 24, nameIndex := 1127, descriptorIndex := 18, attributes := #[] }])
  fields := #[{ name := "value", type := (.array .byte), accessFlags := 18, slot := 0, constantValue := 0 }, { name := "coder", type := .byte, accessFlags := 18, slot := 1, constantValue := 0 }, { name := "hash", type := .int, accessFlags := 2, slot := 2, constantValue := 0 }, { name := "hashIsZero", type := .boolean, accessFlags := 2, slot := 3, constantValue := 0 }, { name := "serialVersionUID", type := .long, accessFlags := 26, slot := 0, constantValue := 0 }, { name := "COMPACT_STRINGS", type := .boolean, accessFlags := 24, slot := 1, constantValue := 0 }, { name := "serialPersistentFields", type := (.array (.object "java/io/ObjectStreamField")), accessFlags := 26, slot := 2, constantValue := 0 }, { name := "REPL", type := .char, accessFlags := 26, slot := 3, constantValue := 0 }, { name := "CASE_INSENSITIVE_ORDER", type := (.object "java/util/Comparator"), accessFlags := 25, slot := 4, constantValue := 0 }, { name := "LATIN1", type := .byte, accessFlags := 24, slot := 5, constantValue := 0 }, { name := "UTF16", type := .byte, accessFlags := 24, slot := 6, constantValue := 0 }]
  methods := #[k7m0, k7m1, k7m2, k7m3, k7m4]
  instanceTypes := #[(.array .byte), .byte, .int, .boolean]
  staticTypes := #[.long, .boolean, (.array (.object "java/io/ObjectStreamField")), .char, (.object "java/util/Comparator"), .byte, .byte]
  resolved := Array.replicate 1451 none
  statics := some 0 }

def pool8 : Array CpInfo := pool [(6, .class_ 8), (1, u "java/lang/Object"), (0, u "<init>"), (0, u "()V"), (1, .class_ 14), (1, u "java/lang/StringUTF16"), (31, u "$assertionsDisabled"), (0, u "Z"), (13, u "HI_BYTE_SHIFT"), (0, u "I"), (2, u "LO_BYTE_SHIFT"), (49, .methodref 12 116), (0, .nameAndType 117 118), (0, u "compress"), (0, u "([CI[BII)I"), (3, u "([CII)[B"), (138, u "coderFromArrayLen"), (0, u "([BI)B"), (106, .class_ 371), (1, u "java/lang/StringUTF16$LinesSpliterator"), (58, u "MAX_LENGTH"), (196, .class_ 628), (0, u "java/lang/StringUTF16$CodePointsSpliterator"), (0, .class_ 630), (0, u "java/lang/StringUTF16$CharsSpliterator")] 4

def k8m0 : Method := { name := "<init>", desc := "()V", sig := { parameters := [], returnType := none }, accessFlags := 0, code := none }
def k8c1 : Code := { maxStack := 2, maxLocals := 2, code := jdk_52_method_15_code, exceptionTable := #[], attributes := #[] }
def k8m1 : Method := { name := "coderFromArrayLen", desc := "([BI)B", sig := { parameters := [(.array .byte), .int], returnType := some .byte }, accessFlags := 8, code := some k8c1 }
def k8c2 : Code := { maxStack := 5, maxLocals := 6, code := jdk_52_method_16_code, exceptionTable := #[], attributes := #[] }
def k8m2 : Method := { name := "compress", desc := "([CII)[B", sig := { parameters := [(.array .char), .int, .int], returnType := some (.array .byte) }, accessFlags := 9, code := some k8c2 }
def k8c3 : Code := { maxStack := 3, maxLocals := 7, code := jdk_52_method_21_code, exceptionTable := #[], attributes := #[] }
def k8m3 : Method := { name := "compress", desc := "([CI[BII)I", sig := { parameters := [(.array .char), .int, (.array .byte), .int, .int], returnType := some .int }, accessFlags := 9, code := some k8c3 }
/-- java/lang/StringUTF16 -/
def k8 : Class := { plain "java/lang/StringUTF16" (some 0) with
  accessFlags := 48
  interfaces := #[]
  cf := some (fileOf pool8 12 #[.nestMembers #[627, 629, 369]] #[{ accessFlags := 0, nameIndex := 9, descriptorIndex := 10, attributes := #[] }, { accessFlags := 8, nameIndex := 261, descriptorIndex := 262, attributes := #[] }, { accessFlags := 9, nameIndex := 117, descriptorIndex := 122, attributes := #[] }, { accessFlags := 9, nameIndex := 117, descriptorIndex := 118, attributes := #[] }] 48 6 #[] #[{ accessFlags := 26, nameIndex := 61, descriptorIndex := 62, attributes := #[] }, { accessFlags := 26, nameIndex := 65, descriptorIndex := 62, attributes := #[] }, { accessFlags := 24, nameIndex := 430, descriptorIndex := 62, attributes := #[] }, { accessFlags := 4120, nameIndex := 46, descriptorIndex := 47, attributes := #[] }])
  fields := #[{ name := "HI_BYTE_SHIFT", type := .int, accessFlags := 26, slot := 0, constantValue := 0 }, { name := "LO_BYTE_SHIFT", type := .int, accessFlags := 26, slot := 1, constantValue := 0 }, { name := "MAX_LENGTH", type := .int, accessFlags := 24, slot := 2, constantValue := 0 }, { name := "$assertionsDisabled", type := .boolean, accessFlags := 4120, slot := 3, constantValue := 0 }]
  methods := #[k8m0, k8m1, k8m2, k8m3]
  instanceTypes := #[]
  staticTypes := #[.int, .int, .int, .boolean]
  resolved := Array.replicate 635 none
  statics := none }

def pool9 : Array CpInfo := pool [(1, .methodref 2 3), (0, .class_ 4), (0, .nameAndType 5 6), (0, u "java/lang/Object"), (0, u "<init>"), (0, u "()V"), (0, .methodref 8 9), (0, .class_ 10), (0, .nameAndType 11 12), (0, u "java/lang/String"), (0, u "isEmpty"), (0, u "()Z"), (7, .class_ 21), (0, u "com/example/honest_replica/honestreplica/model/Endpoint"), (0, .integer 65535), (8, .fieldref 20 32), (0, .nameAndType 33 34), (0, u "host"), (0, u "Ljava/lang/String;"), (0, .fieldref 20 36), (0, .nameAndType 37 38), (0, u "port"), (0, u "I"), (59, u "(Ljava/lang/String;I)V"), (5, .methodref 8 105), (0, .nameAndType 106 107), (0, u "equals"), (0, u "(Ljava/lang/Object;)Z"), (9, u "MAX_PORT")] 51

def k9c0 : Code := { maxStack := 3, maxLocals := 3, code := prog_33_method_1_code, exceptionTable := #[], attributes := #[] }
def k9m0 : Method := { name := "<init>", desc := "(Ljava/lang/String;I)V", sig := { parameters := [(.object "java/lang/String"), .int], returnType := none }, accessFlags := 1, code := some k9c0 }
def k9c1 : Code := { maxStack := 2, maxLocals := 3, code := prog_33_method_7_code, exceptionTable := #[], attributes := #[] }
def k9m1 : Method := { name := "equals", desc := "(Ljava/lang/Object;)Z", sig := { parameters := [(.object "java/lang/Object")], returnType := some .boolean }, accessFlags := 1, code := some k9c1 }
/-- com/example/honest_replica/honestreplica/model/Endpoint -/
def k9 : Class := { plain "com/example/honest_replica/honestreplica/model/Endpoint" (some 0) with
  accessFlags := 33
  interfaces := #[]
  cf := some (fileOf pool9 20 #[] #[{ accessFlags := 1, nameIndex := 5, descriptorIndex := 98, attributes := #[] }, { accessFlags := 1, nameIndex := 106, descriptorIndex := 107, attributes := #[] }] 33 2 #[] #[{ accessFlags := 26, nameIndex := 117, descriptorIndex := 38, attributes := #[] }, { accessFlags := 18, nameIndex := 33, descriptorIndex := 34, attributes := #[] }, { accessFlags := 18, nameIndex := 37, descriptorIndex := 38, attributes := #[] }])
  fields := #[{ name := "MAX_PORT", type := .int, accessFlags := 26, slot := 0, constantValue := 0 }, { name := "host", type := (.object "java/lang/String"), accessFlags := 18, slot := 0, constantValue := 0 }, { name := "port", type := .int, accessFlags := 18, slot := 1, constantValue := 0 }]
  methods := #[k9m0, k9m1]
  instanceTypes := #[(.object "java/lang/String"), .int]
  staticTypes := #[.int]
  resolved := Array.replicate 169 none
  statics := none }

def pool10 : Array CpInfo := pool [(4, .class_ 6), (1, u "java/lang/Object"), (0, u "<init>"), (0, u "()V"), (5, .class_ 16), (1, u "java/lang/StringLatin1"), (104, u "$assertionsDisabled"), (0, u "Z"), (98, .class_ 223), (1, u "java/lang/StringLatin1$LinesSpliterator"), (57, u "equals"), (0, u "([B[B)Z"), (107, .class_ 391), (0, u "java/lang/StringLatin1$CharsSpliterator")] 3

def k10m0 : Method := { name := "<init>", desc := "()V", sig := { parameters := [], returnType := none }, accessFlags := 0, code := none }
def k10c1 : Code := { maxStack := 3, maxLocals := 3, code := jdk_43_method_13_code, exceptionTable := #[], attributes := #[] }
def k10m1 : Method := { name := "equals", desc := "([B[B)Z", sig := { parameters := [(.array .byte), (.array .byte)], returnType := some .boolean }, accessFlags := 9, code := some k10c1 }
/-- java/lang/StringLatin1 -/
def k10 : Class := { plain "java/lang/StringLatin1" (some 0) with
  accessFlags := 48
  interfaces := #[]
  cf := some (fileOf pool10 14 #[.nestMembers #[390, 221]] #[{ accessFlags := 0, nameIndex := 7, descriptorIndex := 8, attributes := #[] }, { accessFlags := 9, nameIndex := 281, descriptorIndex := 282, attributes := #[] }] 48 4 #[] #[{ accessFlags := 4120, nameIndex := 121, descriptorIndex := 122, attributes := #[] }])
  fields := #[{ name := "$assertionsDisabled", type := .boolean, accessFlags := 4120, slot := 0, constantValue := 0 }]
  methods := #[k10m0, k10m1]
  instanceTypes := #[]
  staticTypes := #[.boolean]
  resolved := Array.replicate 395 none
  statics := none }

def pool11 : Array CpInfo := pool [(1, .methodref 2 3), (0, .class_ 4), (0, .nameAndType 5 6), (0, u "java/lang/Object"), (0, u "<init>"), (0, u "()V"), (1, .class_ 10), (1, u "java/lang/Number"), (2, .class_ 14), (0, u "java/io/Serializable"), (0, u "serialVersionUID"), (0, u "J")] 20

def k11c0 : Code := { maxStack := 1, maxLocals := 1, code := jdk_18_method_1_code, exceptionTable := #[], attributes := #[] }
def k11m0 : Method := { name := "<init>", desc := "()V", sig := { parameters := [], returnType := none }, accessFlags := 1, code := some k11c0 }
/-- java/lang/Number -/
def k11 : Class := { plain "java/lang/Number" (some 0) with
  accessFlags := 1057
  interfaces := #[2]
  cf := some (fileOf pool11 8 #[] #[{ accessFlags := 1, nameIndex := 5, descriptorIndex := 6, attributes := #[] }] 1057 2 #[13] #[{ accessFlags := 26, nameIndex := 15, descriptorIndex := 16, attributes := #[] }])
  fields := #[{ name := "serialVersionUID", type := .long, accessFlags := 26, slot := 0, constantValue := 0 }]
  methods := #[k11m0]
  instanceTypes := #[]
  staticTypes := #[.long]
  resolved := Array.replicate 37 none
  statics := none }

def pool12 : Array CpInfo := pool [(1, .class_ 2), (0, u "java/lang/Integer"), (16, u "digits"), (0, u "[C"), (46, u "<init>"), (17, u "DigitOnes"), (0, u "[B"), (2, u "DigitTens"), (10, .nameAndType 67 101), (0, u "()V"), (85, u "valueOf"), (0, u "(I)Ljava/lang/Integer;"), (0, .class_ 190), (0, u "java/lang/Integer$IntegerCache"), (0, .fieldref 189 192), (0, .nameAndType 193 194), (0, u "high"), (0, u "I"), (0, .fieldref 189 196), (0, .nameAndType 197 198), (0, u "cache"), (0, u "[Ljava/lang/Integer;"), (0, .methodref 1 200), (0, .nameAndType 67 201), (0, u "(I)V"), (0, .methodref 203 100), (0, .class_ 204), (0, u "java/lang/Number"), (0, .fieldref 1 206), (0, .nameAndType 207 194), (0, u "value"), (94, u "TYPE"), (0, u "Ljava/lang/Class;"), (0, .class_ 305), (0, u "java/lang/Comparable"), (0, .class_ 307), (0, u "java/lang/constant/Constable"), (0, .class_ 309), (0, u "java/lang/constant/ConstantDesc"), (0, u "MIN_VALUE"), (1, u "MAX_VALUE"), (3, u "SIZE"), (1, u "BYTES"), (1, u "serialVersionUID"), (0, u "J")] 131

def k12c0 : Code := { maxStack := 3, maxLocals := 1, code := jdk_33_method_22_code, exceptionTable := #[], attributes := #[] }
def k12m0 : Method := { name := "valueOf", desc := "(I)Ljava/lang/Integer;", sig := { parameters := [.int], returnType := some (.object "java/lang/Integer") }, accessFlags := 9, code := some k12c0 }
def k12c1 : Code := { maxStack := 2, maxLocals := 2, code := jdk_33_method_23_code, exceptionTable := #[], attributes := #[] }
def k12m1 : Method := { name := "<init>", desc := "(I)V", sig := { parameters := [.int], returnType := none }, accessFlags := 1, code := some k12c1 }
/-- java/lang/Integer -/
def k12 : Class := { plain "java/lang/Integer" (some 11) with
  accessFlags := 49
  interfaces := #[3, 5, 6]
  cf := some (fileOf pool12 1 #[.nestMembers #[189]] #[{ accessFlags := 9, nameIndex := 187, descriptorIndex := 188, attributes := #[] }, { accessFlags := 1, nameIndex := 67, descriptorIndex := 201, attributes := #[] }] 49 203 #[304, 306, 308] #[{ accessFlags := 25, nameIndex := 310, descriptorIndex := 194, attributes := #[] }, { accessFlags := 25, nameIndex := 312, descriptorIndex := 194, attributes := #[] }, { accessFlags := 25, nameIndex := 302, descriptorIndex := 303, attributes := #[] }, { accessFlags := 24, nameIndex := 19, descriptorIndex := 20, attributes := #[] }, { accessFlags := 24, nameIndex := 89, descriptorIndex := 86, attributes := #[] }, { accessFlags := 24, nameIndex := 85, descriptorIndex := 86, attributes := #[] }, { accessFlags := 18, nameIndex := 207, descriptorIndex := 194, attributes := #[] }, { accessFlags := 25, nameIndex := 316, descriptorIndex := 194, attributes := #[] }, { accessFlags := 25, nameIndex := 318, descriptorIndex := 194, attributes := #[] }, { accessFlags := 26, nameIndex := 320, descriptorIndex := 321, attributes := #[] }])
  fields := #[{ name := "MIN_VALUE", type := .int, accessFlags := 25, slot := 0, constantValue := 0 }, { name := "MAX_VALUE", type := .int, accessFlags := 25, slot := 1, constantValue := 0 }, { name := "TYPE", type := (.object "java/lang/Class"), accessFlags := 25, slot := 2, constantValue := 0 }, { name := "digits", type := (.array .char), accessFlags := 24, slot := 3, constantValue := 0 }, { name := "DigitTens", type := (.array .byte), accessFlags := 24, slot := 4, constantValue := 0 }, { name := "DigitOnes", type := (.array .byte), accessFlags := 24, slot := 5, constantValue := 0 }, { name := "value", type := .int, accessFlags := 18, slot := 0, constantValue := 0 }, { name := "SIZE", type := .int, accessFlags := 25, slot := 6, constantValue := 0 }, { name := "BYTES", type := .int, accessFlags := 25, slot := 7, constantValue := 0 }, { name := "serialVersionUID", type := .long, accessFlags := 26, slot := 8, constantValue := 0 }]
  methods := #[k12m0, k12m1]
  instanceTypes := #[.int]
  staticTypes := #[.int, .int, (.object "java/lang/Class"), (.array .char), (.array .byte), (.array .byte), .int, .int, .long]
  resolved := Array.replicate 453 none
  statics := none }

def pool13 : Array CpInfo := pool [(2, .class_ 4), (1, u "java/lang/Object"), (0, u "<init>"), (0, u "()V"), (0, .class_ 8), (0, u "java/lang/Integer"), (7, .class_ 18), (1, u "java/lang/Integer$IntegerCache"), (0, u "$assertionsDisabled"), (0, u "Z"), (26, u "high"), (0, u "I"), (8, u "archivedCache"), (0, u "[Ljava/lang/Integer;"), (12, u "cache"), (0, u "low")] 27

def k13m0 : Method := { name := "<init>", desc := "()V", sig := { parameters := [], returnType := none }, accessFlags := 2, code := none }
/-- java/lang/Integer$IntegerCache -/
def k13 : Class := { plain "java/lang/Integer$IntegerCache" (some 0) with
  accessFlags := 48
  interfaces := #[]
  cf := some (fileOf pool13 16 #[.nestHost 7] #[{ accessFlags := 2, nameIndex := 5, descriptorIndex := 6, attributes := #[] }] 48 2 #[] #[{ accessFlags := 24, nameIndex := 72, descriptorIndex := 48, attributes := #[] }, { accessFlags := 24, nameIndex := 47, descriptorIndex := 48, attributes := #[] }, { accessFlags := 24, nameIndex := 71, descriptorIndex := 58, attributes := #[] }, { accessFlags := 8, nameIndex := 57, descriptorIndex := 58, attributes := #[] }, { accessFlags := 4120, nameIndex := 19, descriptorIndex := 20, attributes := #[] }])
  fields := #[{ name := "low", type := .int, accessFlags := 24, slot := 0, constantValue := 0 }, { name := "high", type := .int, accessFlags := 24, slot := 1, constantValue := 0 }, { name := "cache", type := (.array (.object "java/lang/Integer")), accessFlags := 24, slot := 2, constantValue := 0 }, { name := "archivedCache", type := (.array (.object "java/lang/Integer")), accessFlags := 8, slot := 3, constantValue := 0 }, { name := "$assertionsDisabled", type := .boolean, accessFlags := 4120, slot := 4, constantValue := 0 }]
  methods := #[k13m0]
  instanceTypes := #[]
  staticTypes := #[.int, .int, (.array (.object "java/lang/Integer")), (.array (.object "java/lang/Integer")), .boolean]
  resolved := Array.replicate 100 none
  statics := some 1 }

def pool14 : Array CpInfo := pool [(2, .class_ 4), (1, u "java/lang/Object"), (0, u "<init>"), (0, u "()V"), (17, .class_ 26), (1, u "jdk/internal/util/Preconditions"), (28, .class_ 56), (0, u "jdk/internal/util/Preconditions$4"), (57, .class_ 115), (0, u "jdk/internal/util/Preconditions$1"), (7, u "SIOOBE_FORMATTER"), (0, u "Ljava/util/function/BiFunction;"), (0, .class_ 126), (0, u "jdk/internal/util/Preconditions$2"), (3, u "AIOOBE_FORMATTER"), (0, .class_ 132), (0, u "jdk/internal/util/Preconditions$3"), (3, u "IOOBE_FORMATTER")] 57

def k14m0 : Method := { name := "<init>", desc := "()V", sig := { parameters := [], returnType := none }, accessFlags := 1, code := none }
/-- jdk/internal/util/Preconditions -/
def k14 : Class := { plain "jdk/internal/util/Preconditions" (some 0) with
  accessFlags := 33
  interfaces := #[]
  cf := some (fileOf pool14 24 #[.nestMembers #[55, 131, 125, 114]] #[{ accessFlags := 1, nameIndex := 5, descriptorIndex := 6, attributes := #[] }] 33 2 #[] #[{ accessFlags := 25, nameIndex := 123, descriptorIndex := 124, attributes := #[] }, { accessFlags := 25, nameIndex := 130, descriptorIndex := 124, attributes := #[] }, { accessFlags := 25, nameIndex := 136, descriptorIndex := 124, attributes := #[] }])
  fields := #[{ name := "SIOOBE_FORMATTER", type := (.object "java/util/function/BiFunction"), accessFlags := 25, slot := 0, constantValue := 0 }, { name := "AIOOBE_FORMATTER", type := (.object "java/util/function/BiFunction"), accessFlags := 25, slot := 1, constantValue := 0 }, { name := "IOOBE_FORMATTER", type := (.object "java/util/function/BiFunction"), accessFlags := 25, slot := 2, constantValue := 0 }]
  methods := #[k14m0]
  instanceTypes := #[]
  staticTypes := #[(.object "java/util/function/BiFunction"), (.object "java/util/function/BiFunction"), (.object "java/util/function/BiFunction")]
  resolved := Array.replicate 194 none
  statics := some 2 }

def pool15 : Array CpInfo := pool [(9, u "<init>"), (6, .class_ 18), (1, u "java/lang/Object"), (0, u "()V"), (1, .class_ 23), (1, u "jdk/internal/util/ArraysSupport"), (0, u "LOG2_ARRAY_LONG_INDEX_SCALE"), (0, u "I"), (2, u "U"), (0, u "Ljdk/internal/misc/Unsafe;"), (8, u "BIG_ENDIAN"), (0, u "Z"), (8, u "LOG2_BYTE_BIT_SIZE"), (4, u "LOG2_ARRAY_INT_INDEX_SCALE"), (54, u "JLA"), (0, u "Ljdk/internal/access/JavaLangAccess;"), (11, u "LOG2_ARRAY_BOOLEAN_INDEX_SCALE"), (9, u "LOG2_ARRAY_BYTE_INDEX_SCALE"), (5, u "LOG2_ARRAY_CHAR_INDEX_SCALE"), (5, u "LOG2_ARRAY_SHORT_INDEX_SCALE"), (18, u "LOG2_ARRAY_FLOAT_INDEX_SCALE"), (24, u "LOG2_ARRAY_DOUBLE_INDEX_SCALE"), (89, u "T_BOOLEAN"), (2, u "T_CHAR"), (1, u "T_FLOAT"), (1, u "T_DOUBLE"), (1, u "T_BYTE"), (1, u "T_SHORT"), (1, u "T_INT"), (1, u "T_LONG"), (1, u "SOFT_MAX_ARRAY_LENGTH")] 83

def k15m0 : Method := { name := "<init>", desc := "()V", sig := { parameters := [], returnType := none }, accessFlags := 2, code := none }
/-- jdk/internal/util/ArraysSupport -/
def k15 : Class := { plain "jdk/internal/util/ArraysSupport" (some 0) with
  accessFlags := 33
  interfaces := #[]
  cf := some (fileOf pool15 21 #[] #[{ accessFlags := 2, nameIndex := 9, descriptorIndex := 19, attributes := #[] }] 33 16 #[] #[{ accessFlags := 24, nameIndex := 28, descriptorIndex := 29, attributes := #[] }, { accessFlags := 26, nameIndex := 38, descriptorIndex := 39, attributes := #[] }, { accessFlags := 25, nameIndex := 121, descriptorIndex := 25, attributes := #[] }, { accessFlags := 25, nameIndex := 131, descriptorIndex := 25, attributes := #[] }, { accessFlags := 25, nameIndex := 137, descriptorIndex := 25, attributes := #[] }, { accessFlags := 25, nameIndex := 143, descriptorIndex := 25, attributes := #[] }, { accessFlags := 25, nameIndex := 53, descriptorIndex := 25, attributes := #[] }, { accessFlags := 25, nameIndex := 24, descriptorIndex := 25, attributes := #[] }, { accessFlags := 25, nameIndex := 162, descriptorIndex := 25, attributes := #[] }, { accessFlags := 25, nameIndex := 187, descriptorIndex := 25, attributes := #[] }, { accessFlags := 26, nameIndex := 48, descriptorIndex := 25, attributes := #[] }, { accessFlags := 25, nameIndex := 277, descriptorIndex := 25, attributes := #[] }, { accessFlags := 25, nameIndex := 280, descriptorIndex := 25, attributes := #[] }, { accessFlags := 25, nameIndex := 282, descriptorIndex := 25, attributes := #[] }, { accessFlags := 25, nameIndex := 284, descriptorIndex := 25, attributes := #[] }, { accessFlags := 25, nameIndex := 286, descriptorIndex := 25, attributes := #[] }, { accessFlags := 25, nameIndex := 288, descriptorIndex := 25, attributes := #[] }, { accessFlags := 25, nameIndex := 290, descriptorIndex := 25, attributes := #[] }, { accessFlags := 25, nameIndex := 292, descriptorIndex := 25, attributes := #[] }, { accessFlags := 26, nameIndex := 108, descriptorIndex := 109, attributes := #[] }, { accessFlags := 25, nameIndex := 294, descriptorIndex := 25, attributes := #[] }])
  fields := #[{ name := "U", type := (.object "jdk/internal/misc/Unsafe"), accessFlags := 24, slot := 0, constantValue := 0 }, { name := "BIG_ENDIAN", type := .boolean, accessFlags := 26, slot := 1, constantValue := 0 }, { name := "LOG2_ARRAY_BOOLEAN_INDEX_SCALE", type := .int, accessFlags := 25, slot := 2, constantValue := 0 }, { name := "LOG2_ARRAY_BYTE_INDEX_SCALE", type := .int, accessFlags := 25, slot := 3, constantValue := 0 }, { name := "LOG2_ARRAY_CHAR_INDEX_SCALE", type := .int, accessFlags := 25, slot := 4, constantValue := 0 }, { name := "LOG2_ARRAY_SHORT_INDEX_SCALE", type := .int, accessFlags := 25, slot := 5, constantValue := 0 }, { name := "LOG2_ARRAY_INT_INDEX_SCALE", type := .int, accessFlags := 25, slot := 6, constantValue := 0 }, { name := "LOG2_ARRAY_LONG_INDEX_SCALE", type := .int, accessFlags := 25, slot := 7, constantValue := 0 }, { name := "LOG2_ARRAY_FLOAT_INDEX_SCALE", type := .int, accessFlags := 25, slot := 8, constantValue := 0 }, { name := "LOG2_ARRAY_DOUBLE_INDEX_SCALE", type := .int, accessFlags := 25, slot := 9, constantValue := 0 }, { name := "LOG2_BYTE_BIT_SIZE", type := .int, accessFlags := 26, slot := 10, constantValue := 0 }, { name := "T_BOOLEAN", type := .int, accessFlags := 25, slot := 11, constantValue := 0 }, { name := "T_CHAR", type := .int, accessFlags := 25, slot := 12, constantValue := 0 }, { name := "T_FLOAT", type := .int, accessFlags := 25, slot := 13, constantValue := 0 }, { name := "T_DOUBLE", type := .int, accessFlags := 25, slot := 14, constantValue := 0 }, { name := "T_BYTE", type := .int, accessFlags := 25, slot := 15, constantValue := 0 }, { name := "T_SHORT", type := .int, accessFlags := 25, slot := 16, constantValue := 0 }, { name := "T_INT", type := .int, accessFlags := 25, slot := 17, constantValue := 0 }, { name := "T_LONG", type := .int, accessFlags := 25, slot := 18, constantValue := 0 }, { name := "JLA", type := (.object "jdk/internal/access/JavaLangAccess"), accessFlags := 26, slot := 19, constantValue := 0 }, { name := "SOFT_MAX_ARRAY_LENGTH", type := .int, accessFlags := 25, slot := 20, constantValue := 0 }]
  methods := #[k15m0]
  instanceTypes := #[]
  staticTypes := #[(.object "jdk/internal/misc/Unsafe"), .boolean, .int, .int, .int, .int, .int, .int, .int, .int, .int, .int, .int, .int, .int, .int, .int, .int, .int, (.object "jdk/internal/access/JavaLangAccess"), .int]
  resolved := Array.replicate 378 none
  statics := none }

def pool16 : Array CpInfo := pool [(1, u "java/lang/Cloneable"), (0, .class_ 1), (0, u "java/lang/Object"), (0, .class_ 3)] 3

/-- java/lang/Cloneable -/
def k16 : Class := { plain "java/lang/Cloneable" (some 0) with
  accessFlags := 1537
  interfaces := #[]
  cf := some (fileOf pool16 2 #[] #[] 1537 4 #[] #[])
  fields := #[]
  methods := #[]
  instanceTypes := #[]
  staticTypes := #[]
  resolved := Array.replicate 8 none
  statics := none }

/-- the primitive byte -/
def k17 : Class := { plain "byte" none with kind := .primitive 'B', accessFlags := 0x411 }
/-- [B -/
def k18 : Class := { plain "[B" (some 0) with kind := .array 17 .byte, interfaces := #[16, 2], accessFlags := 1041 }

/-- the primitive char -/
def k19 : Class := { plain "char" none with kind := .primitive 'C', accessFlags := 0x411 }
/-- [C -/
def k20 : Class := { plain "[C" (some 0) with kind := .array 19 .char, interfaces := #[16, 2], accessFlags := 1041 }

/-- the primitive int -/
def k21 : Class := { plain "int" none with kind := .primitive 'I', accessFlags := 0x411 }
/-- [I -/
def k22 : Class := { plain "[I" (some 0) with kind := .array 21 .int, interfaces := #[16, 2], accessFlags := 1041 }

/-- [Ljava/lang/Integer; -/
def k23 : Class := { plain "[Ljava/lang/Integer;" (some 0) with kind := .array 12 (.object "java/lang/Integer"), interfaces := #[16, 2], accessFlags := 1041 }

def heap : Heap := #[{ cls := 7, slots := #[.long 0, .int 1, .null, .int 0, .null, .int 0, .int 0], vm := .statics 7 },
  { cls := 13, slots := #[.int 0, .int 127, .ref 3, .null, .int 0], vm := .statics 13 },
  { cls := 14, slots := #[.null, .null, .null], vm := .statics 14 },
  { cls := 23, slots := #[.ref 4, .ref 5, .ref 6, .ref 7, .ref 8, .ref 9, .ref 10, .ref 11, .ref 12, .ref 13, .ref 14, .ref 15, .ref 16, .ref 17, .ref 18, .ref 19, .ref 20, .ref 21, .ref 22, .ref 23, .ref 24, .ref 25, .ref 26, .ref 27, .ref 28, .ref 29, .ref 30, .ref 31, .ref 32, .ref 33, .ref 34, .ref 35, .ref 36, .ref 37, .ref 38, .ref 39, .ref 40, .ref 41, .ref 42, .ref 43, .ref 44, .ref 45, .ref 46, .ref 47, .ref 48, .ref 49, .ref 50, .ref 51, .ref 52, .ref 53, .ref 54, .ref 55, .ref 56, .ref 57, .ref 58, .ref 59, .ref 60, .ref 61, .ref 62, .ref 63, .ref 64, .ref 65, .ref 66, .ref 67, .ref 68, .ref 69, .ref 70, .ref 71, .ref 72, .ref 73, .ref 74, .ref 75, .ref 76, .ref 77, .ref 78, .ref 79, .ref 80, .ref 81, .ref 82, .ref 83, .ref 84, .ref 85, .ref 86, .ref 87, .ref 88, .ref 89, .ref 90, .ref 91, .ref 92, .ref 93, .ref 94, .ref 95, .ref 96, .ref 97, .ref 98, .ref 99, .ref 100, .ref 101, .ref 102, .ref 103, .ref 104, .ref 105, .ref 106, .ref 107, .ref 108, .ref 109, .ref 110, .ref 111, .ref 112, .ref 113, .ref 114, .ref 115, .ref 116, .ref 117, .ref 118, .ref 119, .ref 120, .ref 121, .ref 122, .ref 123, .ref 124, .ref 125, .ref 126, .ref 127, .ref 128, .ref 129, .ref 130, .ref 131, .ref 132, .ref 133, .ref 134, .ref 135, .ref 136, .ref 137, .ref 138, .ref 139, .ref 140, .ref 141, .ref 142, .ref 143, .ref 144, .ref 145, .ref 146, .ref 147, .ref 148, .ref 149, .ref 150, .ref 151, .ref 152, .ref 153, .ref 154, .ref 155, .ref 156, .ref 157, .ref 158, .ref 159, .ref 160, .ref 161, .ref 162, .ref 163, .ref 164, .ref 165, .ref 166, .ref 167, .ref 168, .ref 169, .ref 170, .ref 171, .ref 172, .ref 173, .ref 174, .ref 175, .ref 176, .ref 177, .ref 178, .ref 179, .ref 180, .ref 181, .ref 182, .ref 183, .ref 184, .ref 185, .ref 186, .ref 187, .ref 188, .ref 189, .ref 190, .ref 191, .ref 192, .ref 193, .ref 194, .ref 195, .ref 196, .ref 197, .ref 198, .ref 199, .ref 200, .ref 201, .ref 202, .ref 203, .ref 204, .ref 205, .ref 206, .ref 207, .ref 208, .ref 209, .ref 210, .ref 211, .ref 212, .ref 213, .ref 214, .ref 215, .ref 216, .ref 217, .ref 218, .ref 219, .ref 220, .ref 221, .ref 222, .ref 223, .ref 224, .ref 225, .ref 226, .ref 227, .ref 228, .ref 229, .ref 230, .ref 231, .ref 232, .ref 233, .ref 234, .ref 235, .ref 236, .ref 237, .ref 238, .ref 239, .ref 240, .ref 241, .ref 242, .ref 243, .ref 244, .ref 245, .ref 246, .ref 247, .ref 248, .ref 249, .ref 250, .ref 251, .ref 252, .ref 253, .ref 254, .ref 255, .ref 256, .ref 257, .ref 258, .ref 259], vm := .none },
  { cls := 12, slots := #[.int (-128)], vm := .none },
  { cls := 12, slots := #[.int (-127)], vm := .none },
  { cls := 12, slots := #[.int (-126)], vm := .none },
  { cls := 12, slots := #[.int (-125)], vm := .none },
  { cls := 12, slots := #[.int (-124)], vm := .none },
  { cls := 12, slots := #[.int (-123)], vm := .none },
  { cls := 12, slots := #[.int (-122)], vm := .none },
  { cls := 12, slots := #[.int (-121)], vm := .none },
  { cls := 12, slots := #[.int (-120)], vm := .none },
  { cls := 12, slots := #[.int (-119)], vm := .none },
  { cls := 12, slots := #[.int (-118)], vm := .none },
  { cls := 12, slots := #[.int (-117)], vm := .none },
  { cls := 12, slots := #[.int (-116)], vm := .none },
  { cls := 12, slots := #[.int (-115)], vm := .none },
  { cls := 12, slots := #[.int (-114)], vm := .none },
  { cls := 12, slots := #[.int (-113)], vm := .none },
  { cls := 12, slots := #[.int (-112)], vm := .none },
  { cls := 12, slots := #[.int (-111)], vm := .none },
  { cls := 12, slots := #[.int (-110)], vm := .none },
  { cls := 12, slots := #[.int (-109)], vm := .none },
  { cls := 12, slots := #[.int (-108)], vm := .none },
  { cls := 12, slots := #[.int (-107)], vm := .none },
  { cls := 12, slots := #[.int (-106)], vm := .none },
  { cls := 12, slots := #[.int (-105)], vm := .none },
  { cls := 12, slots := #[.int (-104)], vm := .none },
  { cls := 12, slots := #[.int (-103)], vm := .none },
  { cls := 12, slots := #[.int (-102)], vm := .none },
  { cls := 12, slots := #[.int (-101)], vm := .none },
  { cls := 12, slots := #[.int (-100)], vm := .none },
  { cls := 12, slots := #[.int (-99)], vm := .none },
  { cls := 12, slots := #[.int (-98)], vm := .none },
  { cls := 12, slots := #[.int (-97)], vm := .none },
  { cls := 12, slots := #[.int (-96)], vm := .none },
  { cls := 12, slots := #[.int (-95)], vm := .none },
  { cls := 12, slots := #[.int (-94)], vm := .none },
  { cls := 12, slots := #[.int (-93)], vm := .none },
  { cls := 12, slots := #[.int (-92)], vm := .none },
  { cls := 12, slots := #[.int (-91)], vm := .none },
  { cls := 12, slots := #[.int (-90)], vm := .none },
  { cls := 12, slots := #[.int (-89)], vm := .none },
  { cls := 12, slots := #[.int (-88)], vm := .none },
  { cls := 12, slots := #[.int (-87)], vm := .none },
  { cls := 12, slots := #[.int (-86)], vm := .none },
  { cls := 12, slots := #[.int (-85)], vm := .none },
  { cls := 12, slots := #[.int (-84)], vm := .none },
  { cls := 12, slots := #[.int (-83)], vm := .none },
  { cls := 12, slots := #[.int (-82)], vm := .none },
  { cls := 12, slots := #[.int (-81)], vm := .none },
  { cls := 12, slots := #[.int (-80)], vm := .none },
  { cls := 12, slots := #[.int (-79)], vm := .none },
  { cls := 12, slots := #[.int (-78)], vm := .none },
  { cls := 12, slots := #[.int (-77)], vm := .none },
  { cls := 12, slots := #[.int (-76)], vm := .none },
  { cls := 12, slots := #[.int (-75)], vm := .none },
  { cls := 12, slots := #[.int (-74)], vm := .none },
  { cls := 12, slots := #[.int (-73)], vm := .none },
  { cls := 12, slots := #[.int (-72)], vm := .none },
  { cls := 12, slots := #[.int (-71)], vm := .none },
  { cls := 12, slots := #[.int (-70)], vm := .none },
  { cls := 12, slots := #[.int (-69)], vm := .none },
  { cls := 12, slots := #[.int (-68)], vm := .none },
  { cls := 12, slots := #[.int (-67)], vm := .none },
  { cls := 12, slots := #[.int (-66)], vm := .none },
  { cls := 12, slots := #[.int (-65)], vm := .none },
  { cls := 12, slots := #[.int (-64)], vm := .none },
  { cls := 12, slots := #[.int (-63)], vm := .none },
  { cls := 12, slots := #[.int (-62)], vm := .none },
  { cls := 12, slots := #[.int (-61)], vm := .none },
  { cls := 12, slots := #[.int (-60)], vm := .none },
  { cls := 12, slots := #[.int (-59)], vm := .none },
  { cls := 12, slots := #[.int (-58)], vm := .none },
  { cls := 12, slots := #[.int (-57)], vm := .none },
  { cls := 12, slots := #[.int (-56)], vm := .none },
  { cls := 12, slots := #[.int (-55)], vm := .none },
  { cls := 12, slots := #[.int (-54)], vm := .none },
  { cls := 12, slots := #[.int (-53)], vm := .none },
  { cls := 12, slots := #[.int (-52)], vm := .none },
  { cls := 12, slots := #[.int (-51)], vm := .none },
  { cls := 12, slots := #[.int (-50)], vm := .none },
  { cls := 12, slots := #[.int (-49)], vm := .none },
  { cls := 12, slots := #[.int (-48)], vm := .none },
  { cls := 12, slots := #[.int (-47)], vm := .none },
  { cls := 12, slots := #[.int (-46)], vm := .none },
  { cls := 12, slots := #[.int (-45)], vm := .none },
  { cls := 12, slots := #[.int (-44)], vm := .none },
  { cls := 12, slots := #[.int (-43)], vm := .none },
  { cls := 12, slots := #[.int (-42)], vm := .none },
  { cls := 12, slots := #[.int (-41)], vm := .none },
  { cls := 12, slots := #[.int (-40)], vm := .none },
  { cls := 12, slots := #[.int (-39)], vm := .none },
  { cls := 12, slots := #[.int (-38)], vm := .none },
  { cls := 12, slots := #[.int (-37)], vm := .none },
  { cls := 12, slots := #[.int (-36)], vm := .none },
  { cls := 12, slots := #[.int (-35)], vm := .none },
  { cls := 12, slots := #[.int (-34)], vm := .none },
  { cls := 12, slots := #[.int (-33)], vm := .none },
  { cls := 12, slots := #[.int (-32)], vm := .none },
  { cls := 12, slots := #[.int (-31)], vm := .none },
  { cls := 12, slots := #[.int (-30)], vm := .none },
  { cls := 12, slots := #[.int (-29)], vm := .none },
  { cls := 12, slots := #[.int (-28)], vm := .none },
  { cls := 12, slots := #[.int (-27)], vm := .none },
  { cls := 12, slots := #[.int (-26)], vm := .none },
  { cls := 12, slots := #[.int (-25)], vm := .none },
  { cls := 12, slots := #[.int (-24)], vm := .none },
  { cls := 12, slots := #[.int (-23)], vm := .none },
  { cls := 12, slots := #[.int (-22)], vm := .none },
  { cls := 12, slots := #[.int (-21)], vm := .none },
  { cls := 12, slots := #[.int (-20)], vm := .none },
  { cls := 12, slots := #[.int (-19)], vm := .none },
  { cls := 12, slots := #[.int (-18)], vm := .none },
  { cls := 12, slots := #[.int (-17)], vm := .none },
  { cls := 12, slots := #[.int (-16)], vm := .none },
  { cls := 12, slots := #[.int (-15)], vm := .none },
  { cls := 12, slots := #[.int (-14)], vm := .none },
  { cls := 12, slots := #[.int (-13)], vm := .none },
  { cls := 12, slots := #[.int (-12)], vm := .none },
  { cls := 12, slots := #[.int (-11)], vm := .none },
  { cls := 12, slots := #[.int (-10)], vm := .none },
  { cls := 12, slots := #[.int (-9)], vm := .none },
  { cls := 12, slots := #[.int (-8)], vm := .none },
  { cls := 12, slots := #[.int (-7)], vm := .none },
  { cls := 12, slots := #[.int (-6)], vm := .none },
  { cls := 12, slots := #[.int (-5)], vm := .none },
  { cls := 12, slots := #[.int (-4)], vm := .none },
  { cls := 12, slots := #[.int (-3)], vm := .none },
  { cls := 12, slots := #[.int (-2)], vm := .none },
  { cls := 12, slots := #[.int (-1)], vm := .none },
  { cls := 12, slots := #[.int (0)], vm := .none },
  { cls := 12, slots := #[.int (1)], vm := .none },
  { cls := 12, slots := #[.int (2)], vm := .none },
  { cls := 12, slots := #[.int (3)], vm := .none },
  { cls := 12, slots := #[.int (4)], vm := .none },
  { cls := 12, slots := #[.int (5)], vm := .none },
  { cls := 12, slots := #[.int (6)], vm := .none },
  { cls := 12, slots := #[.int (7)], vm := .none },
  { cls := 12, slots := #[.int (8)], vm := .none },
  { cls := 12, slots := #[.int (9)], vm := .none },
  { cls := 12, slots := #[.int (10)], vm := .none },
  { cls := 12, slots := #[.int (11)], vm := .none },
  { cls := 12, slots := #[.int (12)], vm := .none },
  { cls := 12, slots := #[.int (13)], vm := .none },
  { cls := 12, slots := #[.int (14)], vm := .none },
  { cls := 12, slots := #[.int (15)], vm := .none },
  { cls := 12, slots := #[.int (16)], vm := .none },
  { cls := 12, slots := #[.int (17)], vm := .none },
  { cls := 12, slots := #[.int (18)], vm := .none },
  { cls := 12, slots := #[.int (19)], vm := .none },
  { cls := 12, slots := #[.int (20)], vm := .none },
  { cls := 12, slots := #[.int (21)], vm := .none },
  { cls := 12, slots := #[.int (22)], vm := .none },
  { cls := 12, slots := #[.int (23)], vm := .none },
  { cls := 12, slots := #[.int (24)], vm := .none },
  { cls := 12, slots := #[.int (25)], vm := .none },
  { cls := 12, slots := #[.int (26)], vm := .none },
  { cls := 12, slots := #[.int (27)], vm := .none },
  { cls := 12, slots := #[.int (28)], vm := .none },
  { cls := 12, slots := #[.int (29)], vm := .none },
  { cls := 12, slots := #[.int (30)], vm := .none },
  { cls := 12, slots := #[.int (31)], vm := .none },
  { cls := 12, slots := #[.int (32)], vm := .none },
  { cls := 12, slots := #[.int (33)], vm := .none },
  { cls := 12, slots := #[.int (34)], vm := .none },
  { cls := 12, slots := #[.int (35)], vm := .none },
  { cls := 12, slots := #[.int (36)], vm := .none },
  { cls := 12, slots := #[.int (37)], vm := .none },
  { cls := 12, slots := #[.int (38)], vm := .none },
  { cls := 12, slots := #[.int (39)], vm := .none },
  { cls := 12, slots := #[.int (40)], vm := .none },
  { cls := 12, slots := #[.int (41)], vm := .none },
  { cls := 12, slots := #[.int (42)], vm := .none },
  { cls := 12, slots := #[.int (43)], vm := .none },
  { cls := 12, slots := #[.int (44)], vm := .none },
  { cls := 12, slots := #[.int (45)], vm := .none },
  { cls := 12, slots := #[.int (46)], vm := .none },
  { cls := 12, slots := #[.int (47)], vm := .none },
  { cls := 12, slots := #[.int (48)], vm := .none },
  { cls := 12, slots := #[.int (49)], vm := .none },
  { cls := 12, slots := #[.int (50)], vm := .none },
  { cls := 12, slots := #[.int (51)], vm := .none },
  { cls := 12, slots := #[.int (52)], vm := .none },
  { cls := 12, slots := #[.int (53)], vm := .none },
  { cls := 12, slots := #[.int (54)], vm := .none },
  { cls := 12, slots := #[.int (55)], vm := .none },
  { cls := 12, slots := #[.int (56)], vm := .none },
  { cls := 12, slots := #[.int (57)], vm := .none },
  { cls := 12, slots := #[.int (58)], vm := .none },
  { cls := 12, slots := #[.int (59)], vm := .none },
  { cls := 12, slots := #[.int (60)], vm := .none },
  { cls := 12, slots := #[.int (61)], vm := .none },
  { cls := 12, slots := #[.int (62)], vm := .none },
  { cls := 12, slots := #[.int (63)], vm := .none },
  { cls := 12, slots := #[.int (64)], vm := .none },
  { cls := 12, slots := #[.int (65)], vm := .none },
  { cls := 12, slots := #[.int (66)], vm := .none },
  { cls := 12, slots := #[.int (67)], vm := .none },
  { cls := 12, slots := #[.int (68)], vm := .none },
  { cls := 12, slots := #[.int (69)], vm := .none },
  { cls := 12, slots := #[.int (70)], vm := .none },
  { cls := 12, slots := #[.int (71)], vm := .none },
  { cls := 12, slots := #[.int (72)], vm := .none },
  { cls := 12, slots := #[.int (73)], vm := .none },
  { cls := 12, slots := #[.int (74)], vm := .none },
  { cls := 12, slots := #[.int (75)], vm := .none },
  { cls := 12, slots := #[.int (76)], vm := .none },
  { cls := 12, slots := #[.int (77)], vm := .none },
  { cls := 12, slots := #[.int (78)], vm := .none },
  { cls := 12, slots := #[.int (79)], vm := .none },
  { cls := 12, slots := #[.int (80)], vm := .none },
  { cls := 12, slots := #[.int (81)], vm := .none },
  { cls := 12, slots := #[.int (82)], vm := .none },
  { cls := 12, slots := #[.int (83)], vm := .none },
  { cls := 12, slots := #[.int (84)], vm := .none },
  { cls := 12, slots := #[.int (85)], vm := .none },
  { cls := 12, slots := #[.int (86)], vm := .none },
  { cls := 12, slots := #[.int (87)], vm := .none },
  { cls := 12, slots := #[.int (88)], vm := .none },
  { cls := 12, slots := #[.int (89)], vm := .none },
  { cls := 12, slots := #[.int (90)], vm := .none },
  { cls := 12, slots := #[.int (91)], vm := .none },
  { cls := 12, slots := #[.int (92)], vm := .none },
  { cls := 12, slots := #[.int (93)], vm := .none },
  { cls := 12, slots := #[.int (94)], vm := .none },
  { cls := 12, slots := #[.int (95)], vm := .none },
  { cls := 12, slots := #[.int (96)], vm := .none },
  { cls := 12, slots := #[.int (97)], vm := .none },
  { cls := 12, slots := #[.int (98)], vm := .none },
  { cls := 12, slots := #[.int (99)], vm := .none },
  { cls := 12, slots := #[.int (100)], vm := .none },
  { cls := 12, slots := #[.int (101)], vm := .none },
  { cls := 12, slots := #[.int (102)], vm := .none },
  { cls := 12, slots := #[.int (103)], vm := .none },
  { cls := 12, slots := #[.int (104)], vm := .none },
  { cls := 12, slots := #[.int (105)], vm := .none },
  { cls := 12, slots := #[.int (106)], vm := .none },
  { cls := 12, slots := #[.int (107)], vm := .none },
  { cls := 12, slots := #[.int (108)], vm := .none },
  { cls := 12, slots := #[.int (109)], vm := .none },
  { cls := 12, slots := #[.int (110)], vm := .none },
  { cls := 12, slots := #[.int (111)], vm := .none },
  { cls := 12, slots := #[.int (112)], vm := .none },
  { cls := 12, slots := #[.int (113)], vm := .none },
  { cls := 12, slots := #[.int (114)], vm := .none },
  { cls := 12, slots := #[.int (115)], vm := .none },
  { cls := 12, slots := #[.int (116)], vm := .none },
  { cls := 12, slots := #[.int (117)], vm := .none },
  { cls := 12, slots := #[.int (118)], vm := .none },
  { cls := 12, slots := #[.int (119)], vm := .none },
  { cls := 12, slots := #[.int (120)], vm := .none },
  { cls := 12, slots := #[.int (121)], vm := .none },
  { cls := 12, slots := #[.int (122)], vm := .none },
  { cls := 12, slots := #[.int (123)], vm := .none },
  { cls := 12, slots := #[.int (124)], vm := .none },
  { cls := 12, slots := #[.int (125)], vm := .none },
  { cls := 12, slots := #[.int (126)], vm := .none },
  { cls := 12, slots := #[.int (127)], vm := .none }]
def classes : Array Class := #[k0, k1, k2, k3, k4, k5, k6, k7, k8, k9, k10, k11, k12, k13, k14, k15, k16, k17, k18, k19, k20, k21, k22, k23]
def interned : List (Array UInt16 × Addr) := []
def slotsUsed : Nat := 527
def theMethod : MethodId := ⟨1, 2⟩
def args0 : Array Value := #[.int 5, .int 6, .int 7, .int 8, .int 0, .int 3]
def aboutOver (below : List Frame) : State where
  vm := { classes := classes, interned := interned.toArray }
  heap := heap
  slotsUsed := slotsUsed
  threads := #[{ frames := .invoking theMethod args0 :: below }]
def below0 : List Frame := [.native { method := ⟨0, 0⟩, args := #[] }]
def about1 : State := aboutOver below0
def p0 : Program := .bare "" "" ""
def e0 : Env := launch0.env 0 0 0
theorem w_frames : about1.frames = Frame.invoking theMethod args0 :: below0 := rfl
set_option maxRecDepth 65536 in
theorem w_args : argsFit about1.vm theMethod args0 = true := by decide +kernel
set_option maxRecDepth 65536 in
theorem w_heap : heapFits about1 = true := by decide +kernel
set_option maxRecDepth 65536 in
theorem w_runnable : about1.curStatus? = some .runnable := by decide +kernel
set_option maxRecDepth 65536 in
theorem w_alone : about1.alone = true := by decide +kernel
set_option maxRecDepth 65536 in
theorem w_named : about1.methodNamed? x = some theMethod := by decide +kernel
set_option maxRecDepth 65536 in
theorem w_hears : about1.hears theMethod below0 = true := by decide +kernel
set_option maxRecDepth 65536 in
theorem w_ripe : about1.ripe theMethod args0 below0 = true := by decide +kernel
theorem w_running : about1.status = .running := rfl
set_option maxRecDepth 65536 in
theorem w_room : about1.hasRoom e0.platform room_1 = true :=
  launch0.hasRoom_least _ room_1 (by decide +kernel) (by decide +kernel) (by decide +kernel) (by decide +kernel) (by decide +kernel) (by decide +kernel)
theorem allAtoms_all (ts : List Jvm.Cond) (a : Array Jvm.Value) (st : Jvm.State) : (allAtoms ts).before a st = ts.all (fun c => c.before a st) := by
  induction ts with
  | nil => rfl
  | cons c t ih =>
    show (Jvm.Cond.and c (allAtoms t)).before a st = _
    rw [Jvm.Cond.before_and, ih, List.all_cons]
def words1 : List Jvm.Cond := Jvm.Cond.code x code maxLocals ret :: tables_1
/-- a 'code' word, met by the world's own term for the bytes: nothing is compared byte by byte -/
theorem code_word {y : MethodName} {bytes : ByteArray} {mx : Nat} {rt : Option FieldType} {a : Array Value} {s : State} {m : MethodId} {meth : Method} {c : Code} (h1 : s.methodNamed? y = some m) (h2 : s.vm.method? m = some meth) (h3 : meth.code = some c) (h4 : c.code = bytes)
    (h5 : (c.maxLocals == mx && c.exceptionTable.isEmpty && decide (c.maxStack ≤ mostOperands) && decide (meth.sig.returnType = rt) && !meth.locks && decide (parseMethodDescriptor y.desc = some meth.sig)) = true) : (Jvm.Cond.code y bytes mx rt).before a s = true := by
  simp only [Bool.and_eq_true, beq_iff_eq, Bool.not_eq_true', decide_eq_true_eq] at h5
  obtain ⟨⟨⟨⟨⟨g1, g2⟩, g3⟩, g4⟩, g5⟩, g6⟩ := h5
  simp [Cond.before, Cond.holds, Cond.value, h1, h2, h3, h4, g1, g2, g3, g4, g5, g6]
def isCode : Jvm.Cond → Bool
  | .code _ _ _ _ => true
  | _ => false
theorem all_split {L : List Jvm.Cond} {P : Jvm.Cond → Bool} (h1 : L.all (fun c => isCode c || P c) = true) (h2 : ∀ c ∈ L.filter isCode, P c = true) : L.all P = true := by
  refine List.all_eq_true.mpr fun c hc => ?_
  have h := List.all_eq_true.mp h1 c hc
  rcases Bool.eq_false_or_eq_true (isCode c) with hi | hi
  · exact h2 c (List.mem_filter.mpr ⟨hc, hi⟩)
  · simpa [hi] using h
set_option maxRecDepth 65536 in
theorem w_c0 : (Jvm.Cond.code x code maxLocals ret).before args0 about1 = true := code_word (m := ⟨1, 2⟩) (meth := k1m2) (c := k1c2) (by decide +kernel) rfl rfl rfl (by decide +kernel)
set_option maxRecDepth 65536 in
theorem w_c1 : (Jvm.Cond.code ({ cls := "com/example/honest_replica/honestreplica/model/EndpointEqualsPinLaw", name := "ch", desc := "(I)C" } : Jvm.MethodName) method_2_code (2 : Nat) (Option.some Jvm.ClassFile.FieldType.char)).before args0 about1 = true := code_word (m := ⟨1, 1⟩) (meth := k1m1) (c := k1c1) (by decide +kernel) rfl rfl rfl (by decide +kernel)
set_option maxRecDepth 65536 in
theorem w_c2 : (Jvm.Cond.code ({ cls := "java/lang/String", name := "<init>", desc := "([C)V" } : Jvm.MethodName) jdk_42_method_3_code (2 : Nat) (Option.none : Option Jvm.ClassFile.FieldType)).before args0 about1 = true := code_word (m := ⟨7, 1⟩) (meth := k7m1) (c := k7c1) (by decide +kernel) rfl rfl rfl (by decide +kernel)
set_option maxRecDepth 65536 in
theorem w_c3 : (Jvm.Cond.code ({ cls := "java/lang/String", name := "<init>", desc := "([CIILjava/lang/Void;)V" } : Jvm.MethodName) jdk_42_method_149_code (6 : Nat) (Option.none : Option Jvm.ClassFile.FieldType)).before args0 about1 = true := code_word (m := ⟨7, 4⟩) (meth := k7m4) (c := k7c4) (by decide +kernel) rfl rfl rfl (by decide +kernel)
set_option maxRecDepth 65536 in
theorem w_c4 : (Jvm.Cond.code ({ cls := "java/lang/Object", name := "<init>", desc := "()V" } : Jvm.MethodName) object_method_1_code (1 : Nat) (Option.none : Option Jvm.ClassFile.FieldType)).before args0 about1 = true := code_word (m := ⟨0, 0⟩) (meth := k0m0) (c := k0c0) (by decide +kernel) rfl rfl rfl (by decide +kernel)
set_option maxRecDepth 65536 in
theorem w_c5 : (Jvm.Cond.code ({ cls := "java/lang/StringUTF16", name := "compress", desc := "([CII)[B" } : Jvm.MethodName) jdk_52_method_16_code (6 : Nat) (Option.some (Jvm.ClassFile.FieldType.array Jvm.ClassFile.FieldType.byte))).before args0 about1 = true := code_word (m := ⟨8, 2⟩) (meth := k8m2) (c := k8c2) (by decide +kernel) rfl rfl rfl (by decide +kernel)
set_option maxRecDepth 65536 in
theorem w_c6 : (Jvm.Cond.code ({ cls := "java/lang/StringUTF16", name := "compress", desc := "([CI[BII)I" } : Jvm.MethodName) jdk_52_method_21_code (7 : Nat) (Option.some Jvm.ClassFile.FieldType.int)).before args0 about1 = true := code_word (m := ⟨8, 3⟩) (meth := k8m3) (c := k8c3) (by decide +kernel) rfl rfl rfl (by decide +kernel)
set_option maxRecDepth 65536 in
theorem w_c7 : (Jvm.Cond.code ({ cls := "java/lang/StringUTF16", name := "coderFromArrayLen", desc := "([BI)B" } : Jvm.MethodName) jdk_52_method_15_code (2 : Nat) (Option.some Jvm.ClassFile.FieldType.byte)).before args0 about1 = true := code_word (m := ⟨8, 1⟩) (meth := k8m1) (c := k8c1) (by decide +kernel) rfl rfl rfl (by decide +kernel)
set_option maxRecDepth 65536 in
theorem w_c8 : (Jvm.Cond.code ({ cls := "com/example/honest_replica/honestreplica/model/Endpoint", name := "<init>", desc := "(Ljava/lang/String;I)V" } : Jvm.MethodName) prog_33_method_1_code (3 : Nat) (Option.none : Option Jvm.ClassFile.FieldType)).before args0 about1 = true := code_word (m := ⟨9, 0⟩) (meth := k9m0) (c := k9c0) (by decide +kernel) rfl rfl rfl (by decide +kernel)
set_option maxRecDepth 65536 in
theorem w_c9 : (Jvm.Cond.code ({ cls := "java/lang/String", name := "isEmpty", desc := "()Z" } : Jvm.MethodName) jdk_42_method_55_code (1 : Nat) (Option.some Jvm.ClassFile.FieldType.boolean)).before args0 about1 = true := code_word (m := ⟨7, 2⟩) (meth := k7m2) (c := k7c2) (by decide +kernel) rfl rfl rfl (by decide +kernel)
set_option maxRecDepth 65536 in
theorem w_c10 : (Jvm.Cond.code ({ cls := "com/example/honest_replica/honestreplica/model/Endpoint", name := "equals", desc := "(Ljava/lang/Object;)Z" } : Jvm.MethodName) prog_33_method_7_code (3 : Nat) (Option.some Jvm.ClassFile.FieldType.boolean)).before args0 about1 = true := code_word (m := ⟨9, 1⟩) (meth := k9m1) (c := k9c1) (by decide +kernel) rfl rfl rfl (by decide +kernel)
set_option maxRecDepth 65536 in
theorem w_c11 : (Jvm.Cond.code ({ cls := "java/lang/String", name := "equals", desc := "(Ljava/lang/Object;)Z" } : Jvm.MethodName) jdk_42_method_66_code (3 : Nat) (Option.some Jvm.ClassFile.FieldType.boolean)).before args0 about1 = true := code_word (m := ⟨7, 3⟩) (meth := k7m3) (c := k7c3) (by decide +kernel) rfl rfl rfl (by decide +kernel)
set_option maxRecDepth 65536 in
theorem w_c12 : (Jvm.Cond.code ({ cls := "java/lang/StringLatin1", name := "equals", desc := "([B[B)Z" } : Jvm.MethodName) jdk_43_method_13_code (3 : Nat) (Option.some Jvm.ClassFile.FieldType.boolean)).before args0 about1 = true := code_word (m := ⟨10, 1⟩) (meth := k10m1) (c := k10c1) (by decide +kernel) rfl rfl rfl (by decide +kernel)
set_option maxRecDepth 65536 in
theorem w_c13 : (Jvm.Cond.code ({ cls := "java/lang/Integer", name := "valueOf", desc := "(I)Ljava/lang/Integer;" } : Jvm.MethodName) jdk_33_method_22_code (1 : Nat) (Option.some (Jvm.ClassFile.FieldType.object "java/lang/Integer"))).before args0 about1 = true := code_word (m := ⟨12, 0⟩) (meth := k12m0) (c := k12c0) (by decide +kernel) rfl rfl rfl (by decide +kernel)
set_option maxRecDepth 65536 in
theorem w_c14 : (Jvm.Cond.code ({ cls := "java/lang/Integer", name := "<init>", desc := "(I)V" } : Jvm.MethodName) jdk_33_method_23_code (2 : Nat) (Option.none : Option Jvm.ClassFile.FieldType)).before args0 about1 = true := code_word (m := ⟨12, 1⟩) (meth := k12m1) (c := k12c1) (by decide +kernel) rfl rfl rfl (by decide +kernel)
set_option maxRecDepth 65536 in
theorem w_c15 : (Jvm.Cond.code ({ cls := "java/lang/Number", name := "<init>", desc := "()V" } : Jvm.MethodName) jdk_18_method_1_code (1 : Nat) (Option.none : Option Jvm.ClassFile.FieldType)).before args0 about1 = true := code_word (m := ⟨11, 0⟩) (meth := k11m0) (c := k11c0) (by decide +kernel) rfl rfl rfl (by decide +kernel)
def codes1 : List Jvm.Cond := [Jvm.Cond.code x code maxLocals ret, Jvm.Cond.code ({ cls := "com/example/honest_replica/honestreplica/model/EndpointEqualsPinLaw", name := "ch", desc := "(I)C" } : Jvm.MethodName) method_2_code (2 : Nat) (Option.some Jvm.ClassFile.FieldType.char), Jvm.Cond.code ({ cls := "java/lang/String", name := "<init>", desc := "([C)V" } : Jvm.MethodName) jdk_42_method_3_code (2 : Nat) (Option.none : Option Jvm.ClassFile.FieldType), Jvm.Cond.code ({ cls := "java/lang/String", name := "<init>", desc := "([CIILjava/lang/Void;)V" } : Jvm.MethodName) jdk_42_method_149_code (6 : Nat) (Option.none : Option Jvm.ClassFile.FieldType), Jvm.Cond.code ({ cls := "java/lang/Object", name := "<init>", desc := "()V" } : Jvm.MethodName) object_method_1_code (1 : Nat) (Option.none : Option Jvm.ClassFile.FieldType), Jvm.Cond.code ({ cls := "java/lang/StringUTF16", name := "compress", desc := "([CII)[B" } : Jvm.MethodName) jdk_52_method_16_code (6 : Nat) (Option.some (Jvm.ClassFile.FieldType.array Jvm.ClassFile.FieldType.byte)), Jvm.Cond.code ({ cls := "java/lang/StringUTF16", name := "compress", desc := "([CI[BII)I" } : Jvm.MethodName) jdk_52_method_21_code (7 : Nat) (Option.some Jvm.ClassFile.FieldType.int), Jvm.Cond.code ({ cls := "java/lang/StringUTF16", name := "coderFromArrayLen", desc := "([BI)B" } : Jvm.MethodName) jdk_52_method_15_code (2 : Nat) (Option.some Jvm.ClassFile.FieldType.byte), Jvm.Cond.code ({ cls := "com/example/honest_replica/honestreplica/model/Endpoint", name := "<init>", desc := "(Ljava/lang/String;I)V" } : Jvm.MethodName) prog_33_method_1_code (3 : Nat) (Option.none : Option Jvm.ClassFile.FieldType), Jvm.Cond.code ({ cls := "java/lang/String", name := "isEmpty", desc := "()Z" } : Jvm.MethodName) jdk_42_method_55_code (1 : Nat) (Option.some Jvm.ClassFile.FieldType.boolean), Jvm.Cond.code ({ cls := "com/example/honest_replica/honestreplica/model/Endpoint", name := "equals", desc := "(Ljava/lang/Object;)Z" } : Jvm.MethodName) prog_33_method_7_code (3 : Nat) (Option.some Jvm.ClassFile.FieldType.boolean), Jvm.Cond.code ({ cls := "java/lang/String", name := "equals", desc := "(Ljava/lang/Object;)Z" } : Jvm.MethodName) jdk_42_method_66_code (3 : Nat) (Option.some Jvm.ClassFile.FieldType.boolean), Jvm.Cond.code ({ cls := "java/lang/StringLatin1", name := "equals", desc := "([B[B)Z" } : Jvm.MethodName) jdk_43_method_13_code (3 : Nat) (Option.some Jvm.ClassFile.FieldType.boolean), Jvm.Cond.code ({ cls := "java/lang/Integer", name := "valueOf", desc := "(I)Ljava/lang/Integer;" } : Jvm.MethodName) jdk_33_method_22_code (1 : Nat) (Option.some (Jvm.ClassFile.FieldType.object "java/lang/Integer")), Jvm.Cond.code ({ cls := "java/lang/Integer", name := "<init>", desc := "(I)V" } : Jvm.MethodName) jdk_33_method_23_code (2 : Nat) (Option.none : Option Jvm.ClassFile.FieldType), Jvm.Cond.code ({ cls := "java/lang/Number", name := "<init>", desc := "()V" } : Jvm.MethodName) jdk_18_method_1_code (1 : Nat) (Option.none : Option Jvm.ClassFile.FieldType)]
set_option maxRecDepth 65536 in
theorem codes_eq : words1.filter isCode = codes1 := rfl
theorem w_codes : ∀ c ∈ words1.filter isCode, c.before args0 about1 = true := by
  rw [codes_eq]
  intro c hc
  simp only [codes1, List.mem_cons, List.not_mem_nil, or_false] at hc
  rcases hc with rfl | rfl | rfl | rfl | rfl | rfl | rfl | rfl | rfl | rfl | rfl | rfl | rfl | rfl | rfl | rfl
  · exact w_c0
  · exact w_c1
  · exact w_c2
  · exact w_c3
  · exact w_c4
  · exact w_c5
  · exact w_c6
  · exact w_c7
  · exact w_c8
  · exact w_c9
  · exact w_c10
  · exact w_c11
  · exact w_c12
  · exact w_c13
  · exact w_c14
  · exact w_c15
set_option maxRecDepth 65536 in
theorem w_t1 : (words1.take 24).all (fun c => isCode c || c.before args0 about1) = true := by decide +kernel
set_option maxRecDepth 65536 in
theorem w_t2 : ((words1.drop 24).take 24).all (fun c => isCode c || c.before args0 about1) = true := by decide +kernel
set_option maxRecDepth 65536 in
theorem w_t3 : (((words1.drop 24).drop 24).take 24).all (fun c => isCode c || c.before args0 about1) = true := by decide +kernel
set_option maxRecDepth 65536 in
theorem w_t4 : (((words1.drop 24).drop 24).drop 24).all (fun c => isCode c || c.before args0 about1) = true := by decide +kernel
theorem w_tables : (allAtoms (Jvm.Cond.code x code maxLocals ret :: tables_1)).before args0 about1 = true := by
  rw [allAtoms_all]
  show words1.all (fun c => c.before args0 about1) = true
  refine all_split ?_ w_codes
  rw [← List.take_append_drop 24 words1, List.all_append, w_t1, ← List.take_append_drop 24 (words1.drop 24), List.all_append, w_t2, ← List.take_append_drop 24 ((words1.drop 24).drop 24), List.all_append, w_t3, w_t4]
  rfl
set_option maxRecDepth 65536 in
theorem w_rest : rest_1_c.before args0 about1 = true := by decide +kernel
set_option maxRecDepth 65536 in
theorem w_case : (Jvm.Cond.and given_1 narrow_1).before args0 about1 = true := by decide +kernel
theorem w_applies : (headSpec (Jvm.Cond.code x code maxLocals ret :: tables_1) room_1).applies x e0.platform about1 = true :=
  (Spec.applies_iff w_frames).mpr ⟨w_running, w_runnable, w_alone, w_named, w_hears, w_ripe, w_room, w_tables⟩
theorem atStart : AtStart classFile x code maxLocals ret World_1 tables_1 room_1 Calls_1 rest_1 Pre_1 launch0 p0 e0 about1 theMethod args0 below0 :=
  ⟨lists_1, trivial, launch0.admits_env _ _ _, launch0.least_env, fairChoices_fair.cas, fairChoices_fair.clock, w_frames, w_args, w_heap, w_applies, trivial, w_rest, w_case⟩
end start1
theorem witness_1 : WitnessClaimed_1 := ⟨start1.p0, start1.e0, start1.about1, start1.theMethod, start1.args0, start1.below0, start1.atStart⟩
end Jvm.Pilot.@@N@@
