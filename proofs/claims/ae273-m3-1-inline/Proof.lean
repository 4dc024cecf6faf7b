import JvmDerived
import JvmDerived.Pilot.@@N@@Statement
import JvmDerived.Pilot.@@N@@Code
set_option linter.unusedVariables false
set_option linter.unusedSimpArgs false
set_option maxRecDepth 65536
set_option maxHeartbeats 40000000
@@BLOCK:NumsL.lean.txt@@
@@BLOCK:TracedD.lean.txt@@
namespace Jvm.Pilot.@@N@@
open Jvm Jvm.ClassFile Sem Op Lib Jvm.Free Jvm.Stand Jvm.LawKit Jvm.RoadKit Bundle Jvm.Pilot.@@N@@.Jvm.D
/-- from this state and frame the body comes to its end, with what G says -/
def Go (p : Program) (e : Env) (below : List Frame) (G : Outcome → State → Prop) (T : State) (f : JFrame) : Prop :=
  ∃ s₂ o, Steps p.tables e below (T.setTop f) s₂ ∧ s₂.status = .running ∧ Ended s₂ below o ∧ G o s₂
theorem Go.by {p : Program} {e : Env} {below : List Frame} {G : Outcome → State → Prop} {T T' : State} {f f' : JFrame} (k : ∀ t, Steps p.tables e below (T'.setTop f') t → Steps p.tables e below (T.setTop f) t) (g : Go p e below G T' f') : Go p e below G T f := by
  obtain ⟨s₂, o, h1, h2⟩ := g; exact ⟨s₂, o, k _ h1, h2⟩
theorem Old.le {Z : State} {n0 : Nat} {h : Heap} (O : Old Z n0 h) : n0 ≤ h.size := O.1 ▸ O.2.1

theorem ord_fld {args : Array Value} {s : State} {t : Term} {C n d : String} {k : Int32} {a : Addr} (h : (Cond.eq (Term.field t C n d) (Term.int k)).value args s none s [] = some true) (ht : t.eval args s none [] s = some (.ref a)) : Fld s s.heap a C n d (.int k) := by
  obtain ⟨x, y, hx, hy, -, kin⟩ := cmp_v (Or.inl h)
  obtain rfl : y = .int k := (Option.some.inj ((Term.int_eval k).symm.trans hy)).symm
  obtain ⟨z, rfl⟩ := kin
  have e : z = k := by simpa [Cond.value, hx, hy] using h
  subst e
  exact Fld.start (by rw [← fld_at ht]; exact hx)

def Qpure (r : Option Value) (h0 : Heap) (n0 : Nat) (v : Option Value) (h : Heap) (L : List Loc) : Prop := v = r ∧ Fr n0 L ∧ h = h0

theorem own_nat {a : Nat} (ha : a < 2147483648) : (Int32.ofNat a).toNatClampNeg = a := by
  rw [Int32.toNatClampNeg, Int32.toInt_ofNat_of_lt (by show a < 2 ^ 31; omega)]; rfl
theorem own_nlt {a b : Nat} (ha : a < 2147483648) (hb : b < 2147483648) : Int32.ofNat a < Int32.ofNat b ↔ a < b := by
  rw [Int32.lt_iff_toInt_lt, Int32.toInt_ofNat_of_lt (by show a < 2 ^ 31; omega), Int32.toInt_ofNat_of_lt (by show b < 2 ^ 31; omega)]; omega
theorem own_neq {a b : Nat} (ha : a < 2147483648) (hb : b < 2147483648) : Int32.ofNat a = Int32.ofNat b ↔ a = b :=
  ⟨fun h => by have := congrArg Int32.toNatClampNeg h; rwa [own_nat ha, own_nat hb] at this, fun h => by rw [h]⟩
theorem own_neg {a : Nat} (ha : a < 2147483648) : ¬ Int32.ofNat a < 0 := fun h => absurd ((own_nlt (b := 0) ha (by decide)).mp h) (Nat.not_lt_zero _)
theorem own_shr0 (x : Int32) : (x >>> ((0 : Int32) &&& 31)) = x := by
  rw [show ((0 : Int32) &&& 31) = 0 by decide]; exact Int32.shiftRight_zero
theorem own_shl0 (x : Int32) : (x <<< ((0 : Int32) &&& 31)) = x := by
  rw [show ((0 : Int32) &&& 31) = 0 by decide]; exact Int32.shiftLeft_zero
theorem own_add (a b : Nat) : Int32.ofNat a + Int32.ofNat b = Int32.ofNat (a + b) := (Int32.ofNat_add a b).symm
theorem own_sub {a b : Nat} (h : b ≤ a) : Int32.ofNat a - Int32.ofNat b = Int32.ofNat (a - b) := (Int32.ofNat_sub a b h).symm
theorem own_pos {a b : Nat} (ha : a < 1073741824) (hb : b < 1073741824) : (0 : Int32) < Int32.ofNat a - Int32.ofNat b ↔ b < a := by
  have e1 : (Int32.ofNat a).toInt = a := Int32.toInt_ofNat_of_lt (by show a < 2 ^ 31; omega)
  have e2 : (Int32.ofNat b).toInt = b := Int32.toInt_ofNat_of_lt (by show b < 2 ^ 31; omega)
  have e3 : (Int32.ofNat a - Int32.ofNat b).toInt = (a : Int) - b := by
    rw [Int32.toInt_sub, e1, e2]; exact Int.bmod_eq_of_le (by omega) (by omega)
  have e0 : (0 : Int32).toInt = 0 := rfl
  rw [Int32.lt_iff_toInt_lt, e3, e0]; omega
theorem own_selp {s : State} {args : Array Value} {y : MethodName} {C : String} (hsel : (Cond.selects C y y).before args s = true) (hpriv : s.PrivateAt y) (hinst : (Cond.instanceMethod y).before args s = true) (hy : y.cls ≠ "java/lang/invoke/MethodHandle" ∧ y.cls ≠ "java/lang/invoke/VarHandle") : (Cond.selects y.cls y y).before args s = true := by
  obtain ⟨mk, methM, hnamed, hmethM, -, -⟩ := Cond.instanceMethod_spec hinst
  obtain ⟨c2, r2, m2, -, q2, q3, -, kP, hkP, hkPi⟩ := Cond.selects_spec hsel
  cases (State.methodFound?_of_named hnamed hy).symm.trans q2
  cases hnamed.symm.trans q3
  exact selects_self_of_private (findClass_of_methodNamed hnamed) hkP hkPi hpriv hinst hy
theorem own_same {s : State} {args : Array Value} {y z z' : MethodName} {C : String} (hsel : (Cond.selects C z z').before args s = true) (hz : z'.cls = y.cls) (hinst : (Cond.instanceMethod y).before args s = true) (hy : y.cls ≠ "java/lang/invoke/MethodHandle" ∧ y.cls ≠ "java/lang/invoke/VarHandle") : (Cond.sameMethod y.cls y.cls y.name y.desc).before args s = true := by
  obtain ⟨mk, methM, hnamed, -⟩ := Cond.instanceMethod_spec hinst
  obtain ⟨c2, r2, m2, -, q2, q3, -, kP, hkP, hkPi⟩ := Cond.selects_spec hsel
  have e1 := findClass_of_methodNamed hnamed
  have e2 := findClass_of_methodNamed q3
  rw [hz] at e2
  have e3 : mk.cls = m2.cls := Option.some.inj (e1.symm.trans e2)
  rw [← e3] at hkP
  have hf := State.methodFound?_of_named hnamed hy
  have hn : s.methodNamed? ⟨y.cls, y.name, y.desc⟩ = some mk := hnamed
  simp [Cond.before, Cond.holds, Cond.value, e1, hf, hn, hkP, hkPi]
theorem own_nf {s : State} {args : Array Value} {y z z' : MethodName} {C : String} (hsel : (Cond.selects C z z').before args s = true) (hz : z'.cls = y.cls) : NotFace s y := fun r0 h0 => by
  obtain ⟨c2, r2, m2, -, q2, q3, -, kP, hkP, hkPi⟩ := Cond.selects_spec hsel
  have e1 := findClass_of_methodNamed h0
  have e2 := findClass_of_methodNamed q3
  rw [hz] at e2
  have e3 : r0.cls = m2.cls := Option.some.inj (e1.symm.trans e2)
  rw [← e3] at hkP
  exact ⟨kP, hkP, hkPi⟩
theorem own_nev {Z : State} {h : Heap} {a b : Addr} {C : String} {a0 : Array Value} {n : Nat} {k : ClassId} {ty : FieldType} {z : Int32} {vs : List Value} {d : Value} (E : Exa Z h a C) (wi : (Cond.instantiable C n).before a0 Z = true) (V : Arv Z h b k ty z vs d) : a ≠ b := fun e => by
  subst e
  obtain ⟨c1, kc, h1, h2, h3, -, -⟩ := E
  obtain ⟨c2, A, -⟩ := V
  cases h1.symm.trans A.1
  obtain ⟨hs, k2, hk2, comp, hkind⟩ := A.2.1
  obtain ⟨t, kt, g1, g2, g3, -, -⟩ := Cond.instantiable_spec wi
  cases h2.symm.trans g1
  cases hk2.symm.trans g2
  rw [hkind] at g3; cases g3
theorem own_full {Z : State} {h : Heap} {a : Addr} {k : ClassId} {ty : FieldType} {z : Int32} {vs : List Value} {d : Value} (V : Arv Z h a k ty z vs d) : ∃ vs' : List Value, vs'.length = z.toNatClampNeg ∧ Arv Z h a k ty z vs' d := by
  refine ⟨(List.range z.toNatClampNeg).map fun i => vs.getD i d, by simp, ?_⟩
  obtain ⟨c, A, q, S, n, H, G⟩ := V
  have e : ∀ i, i < c.slots.size → ((List.range z.toNatClampNeg).map fun i => vs.getD i d).getD i d = vs.getD i d := fun i hi => by
    rw [S] at hi
    simp [List.getD_eq_getElem?_getD, hi]
  exact ⟨c, A, q, S, n, fun i hi => by rw [e i hi]; exact H i hi, fun i hi => by rw [e i hi]; exact G i hi⟩
theorem own_or {n0 : Nat} {t t' : Addr} {H : Heap} (q : t' = t ∨ H.size ≤ t') (g : n0 ≤ t) (g2 : n0 ≤ H.size) : n0 ≤ t' := by exact q.elim (fun z => z ▸ g) (fun z => Nat.le_trans g2 z)
theorem own_orin {ws : List Addr} {t t' : Addr} {H h0 : Heap} (q : t' = t ∨ H.size ≤ t') (g : t ∈ ws ∨ h0.size ≤ t) (g2 : h0.size ≤ H.size) : t' ∈ ws ∨ h0.size ≤ t' := by exact q.elim (fun z => z ▸ g) (fun z => Or.inr (Nat.le_trans g2 z))
theorem own_orne {x t t' : Addr} {H : Heap} (q : t' = t ∨ H.size ≤ t') (g : x ≠ t) (l : x < H.size) : x ≠ t' := by exact q.elim (fun z => z ▸ g) (fun z => Nat.ne_of_lt (Nat.lt_of_lt_of_le l z))

theorem own_shl {a k : Nat} (hk : k < 32) (ha : a * 2 ^ k < 2147483648) : Int32.ofNat a <<< Int32.ofNat k = Int32.ofNat (a * 2 ^ k) := by
  apply Int32.toBitVec_inj.mp
  rw [Int32.toBitVec_shiftLeft]
  apply BitVec.eq_of_toNat_eq
  have e : ((Int32.ofNat k).toBitVec.smod 32).toNat = k := by
    have : ∀ k : Fin 32, ((Int32.ofNat k.val).toBitVec.smod 32).toNat = k.val := by decide
    exact this ⟨k, hk⟩
  simp only [BitVec.shiftLeft_eq', BitVec.toNat_shiftLeft, e]
  show ((BitVec.ofNat 32 a).toNat <<< k) % 2 ^ 32 = (BitVec.ofNat 32 (a * 2 ^ k)).toNat
  have hp : 1 ≤ 2 ^ k := Nat.one_le_two_pow
  have ha' : a < 2147483648 := Nat.lt_of_le_of_lt (Nat.le_mul_of_pos_right a hp) ha
  rw [BitVec.toNat_ofNat, BitVec.toNat_ofNat, Nat.shiftLeft_eq, Nat.mod_eq_of_lt (show a < 2 ^ 32 by omega)]
theorem own_shr {a k : Nat} (hk : k < 32) (ha : a < 2147483648) : Int32.ofNat a >>> Int32.ofNat k = Int32.ofNat (a / 2 ^ k) := by
  apply Int32.toInt_inj.mp
  have e : ((Int32.ofNat k).toBitVec.smod 32).toNat = k := by
    have : ∀ k : Fin 32, ((Int32.ofNat k.val).toBitVec.smod 32).toNat = k.val := by decide
    exact this ⟨k, hk⟩
  have h2 : a / 2 ^ k ≤ a := Nat.div_le_self _ _
  rw [Int32.toInt_ofNat_of_lt (show a / 2 ^ k < 2 ^ 31 by omega)]
  rw [← Int32.toInt_toBitVec, Int32.toBitVec_shiftRight, BitVec.sshiftRight_eq', e, BitVec.toInt_sshiftRight, Int32.toInt_toBitVec, Int32.toInt_ofNat_of_lt (show a < 2 ^ 31 by omega), Int.shiftRight_eq_div_pow]
  simp
theorem own_orN {k h : Nat} (hk : k < 256) (hh : h < 256) : Int32.ofNat k ||| Int32.ofNat (h * 256) = Int32.ofNat (k + 256 * h) := by
  apply Int32.toBitVec_inj.mp
  rw [Int32.toBitVec_or]
  apply BitVec.eq_of_toNat_eq
  rw [BitVec.toNat_or]
  show (BitVec.ofNat 32 k).toNat ||| (BitVec.ofNat 32 (h * 256)).toNat = (BitVec.ofNat 32 (k + 256 * h)).toNat
  rw [BitVec.toNat_ofNat, BitVec.toNat_ofNat, BitVec.toNat_ofNat, Nat.mod_eq_of_lt (show k < 2 ^ 32 by omega), Nat.mod_eq_of_lt (show h * 256 < 2 ^ 32 by omega), Nat.mod_eq_of_lt (show k + 256 * h < 2 ^ 32 by omega)]
  have q := Nat.shiftLeft_add_eq_or_of_lt (show k < 2 ^ 8 by omega) h
  rw [Nat.shiftLeft_eq] at q
  rw [Nat.or_comm]
  show h * 2 ^ 8 ||| k = _
  rw [← q]; omega
theorem own_orG {a b : Nat} (ha : a < 2147483648) (hb : b < 2147483648) : Int32.ofNat a ||| Int32.ofNat b = Int32.ofNat (a ||| b) ∧ a ||| b < 2147483648 := by
  have q : a ||| b < 2147483648 := Nat.or_lt_two_pow (n := 31) ha hb
  refine ⟨?_, q⟩
  apply Int32.toBitVec_inj.mp
  rw [Int32.toBitVec_or]
  apply BitVec.eq_of_toNat_eq
  rw [BitVec.toNat_or]
  show (BitVec.ofNat 32 a).toNat ||| (BitVec.ofNat 32 b).toNat = (BitVec.ofNat 32 (a ||| b)).toNat
  rw [BitVec.toNat_ofNat, BitVec.toNat_ofNat, BitVec.toNat_ofNat, Nat.mod_eq_of_lt (show a < 2 ^ 32 by omega), Nat.mod_eq_of_lt (show b < 2 ^ 32 by omega), Nat.mod_eq_of_lt (show a ||| b < 2 ^ 32 by omega)]
theorem own_or3 {a b c : Nat} (ha : a < 2147483648) (hb : b < 2147483648) (hc : c < 2147483648) : ¬ ((Int32.ofNat a ||| Int32.ofNat b) ||| Int32.ofNat c) < 0 := by
  obtain ⟨e1, q1⟩ := own_orG ha hb
  obtain ⟨e2, q2⟩ := own_orG q1 hc
  rw [e1, e2]; exact own_neg q2
theorem own_i2cN {c : Nat} (hc : c < 65536) : (Int32.ofNat c).toUInt32.toUInt16.toUInt32.toInt32 = Int32.ofNat c := by
  apply Int32.toBitVec_inj.mp
  apply BitVec.eq_of_toNat_eq
  show (((Int32.ofNat c).toUInt32.toUInt16.toUInt32).toBitVec).toNat = (BitVec.ofNat 32 c).toNat
  have : (Int32.ofNat c).toUInt32.toNat = c := by
    show (BitVec.ofNat 32 c).toNat = c
    rw [BitVec.toNat_ofNat]; omega
  show ((Int32.ofNat c).toUInt32.toUInt16.toUInt32).toNat = _
  rw [UInt16.toNat_toUInt32, UInt32.toNat_toUInt16, this, BitVec.toNat_ofNat]; omega
theorem own_i8 (c : Nat) : (Int32.ofNat c).toInt8 = Int8.ofNat (c % 256) := by
  apply Int8.toBitVec_inj.mp
  apply BitVec.eq_of_toNat_eq
  show ((BitVec.ofNat 32 c).signExtend 8).toNat = (BitVec.ofNat 8 (c % 256)).toNat
  rw [BitVec.signExtend_eq_setWidth_of_le _ (by decide)]
  simp
theorem own_b8 : ∀ k : Fin 256, (Int8.ofNat k.val).toInt32 &&& (255 : Int32) = Int32.ofNat k.val := by decide +kernel
def dec (a b : Int32) : Int32 := ((a &&& (255 : Int32)) ||| ((b &&& (255 : Int32)) <<< ((8 : Int32) &&& 31))).toUInt32.toUInt16.toUInt32.toInt32
theorem own_dec0 {k h : Nat} (hk : k < 256) (hh : h < 256) {a b : Int32} (ha : a &&& 255 = Int32.ofNat k) (hb : b &&& 255 = Int32.ofNat h) : dec a b = Int32.ofNat (k + 256 * h) := by
  unfold dec
  rw [ha, hb, show ((8 : Int32) &&& 31) = Int32.ofNat 8 by decide, own_shl (by decide) (by omega), own_orN hk hh, own_i2cN (by omega)]
theorem own_lo (c : Nat) : (Int32.ofNat c).toInt8.toInt32 &&& (255 : Int32) = Int32.ofNat (c % 256) := by
  rw [own_i8]; exact own_b8 ⟨c % 256, Nat.mod_lt _ (by decide)⟩
theorem own_putget {c : Nat} (hc : c < 65536) : dec ((Int32.ofNat c >>> ((0 : Int32) &&& 31)).toInt8.toInt32) ((Int32.ofNat c >>> ((8 : Int32) &&& 31)).toInt8.toInt32) = Int32.ofNat c := by
  rw [show ((0 : Int32) &&& 31) = Int32.ofNat 0 by decide, show ((8 : Int32) &&& 31) = Int32.ofNat 8 by decide, own_shr (by decide) (by omega), own_shr (by decide) (by omega), own_dec0 (Nat.mod_lt _ (by decide)) (Nat.mod_lt _ (by decide)) (own_lo _) (own_lo _)]
  congr 1
  omega
theorem own_shl1 {a : Nat} (ha : a < 1073741824) : (Int32.ofNat a <<< ((1 : Int32) &&& 31)) = Int32.ofNat (2 * a) := by
  rw [show ((1 : Int32) &&& 31) = Int32.ofNat 1 by decide, own_shl (by decide) (by omega)]; congr 1; omega
theorem own_shr1 {a : Nat} (ha : a < 1073741824) : (Int32.ofNat (2 * a) >>> ((1 : Int32) &&& 31)) = Int32.ofNat a := by
  rw [show ((1 : Int32) &&& 31) = Int32.ofNat 1 by decide, own_shr (by decide) (by omega)]; congr 1; omega
theorem own_cp {h l : Nat} (h1 : 55296 ≤ h) (h2 : h < 56320) (l1 : 56320 ≤ l) (l2 : l < 57344) : ((Int32.ofNat h <<< ((10 : Int32) &&& 31)) + Int32.ofNat l) + (-56613888) = Int32.ofNat (h * 1024 + l - 56613888) ∧ 65536 ≤ h * 1024 + l - 56613888 := by
  refine ⟨?_, by omega⟩
  rw [show ((10 : Int32) &&& 31) = Int32.ofNat 10 by decide, own_shl (by decide) (by omega), own_add, show h * 2 ^ 10 + l = h * 1024 + l by omega, show (-56613888 : Int32) = - Int32.ofNat 56613888 by decide, ← Int32.sub_eq_add_neg, own_sub (by omega)]
theorem own_cf0 : ∀ n : Fin 261, ((Int32.ofNat n.val - Int32.ofNat n.val).toUInt32 >>> ((31 : Int32) &&& 31).toUInt32).toInt32.toInt8.toInt32.toInt8.toInt32 = 0 := by decide +kernel
theorem own_cf1 : ∀ n : Fin 261, 0 < n.val → ((Int32.ofNat n.val - Int32.ofNat (2 * n.val)).toUInt32 >>> ((31 : Int32) &&& 31).toUInt32).toInt32.toInt8.toInt32.toInt8.toInt32 = 1 := by decide +kernel
def hiS (c : Nat) : Bool := decide (55296 ≤ c ∧ c < 56320)
def loS (c : Nat) : Bool := decide (56320 ≤ c ∧ c < 57344)
def b2i (b : Bool) : Int32 := if b then 1 else 0
theorem own_b2i {b : Bool} : b2i b = 0 ↔ b = false := by cases b <;> decide
def pr (c : Nat → Nat) (n i : Nat) : Bool := decide (i + 1 < n) && hiS (c i) && loS (c (i + 1))
def adv (c : Nat → Nat) (n i : Nat) : Nat := if pr c n i then i + 2 else i + 1
def cct (r : Nat) : Nat := if r < 65536 then 1 else 2
def Ej (c : Nat → Nat) (n : Nat) : Nat → Nat
  | 0 => 0
  | q + 1 => adv c n (Ej c n q)
def stp (t : Nat → Nat) (i : Nat) : Nat := if 8 ≤ i then i else adv t 8 i
theorem own_adv (c : Nat → Nat) (n i : Nat) : i < adv c n i ∧ adv c n i ≤ i + 2 ∧ (i < n → adv c n i ≤ n) := by
  unfold adv
  split
  · next h =>
    unfold pr at h
    simp only [Bool.and_eq_true, decide_eq_true_eq] at h
    omega
  · omega
theorem own_advc {c : Nat → Nat} {n i r : Nat} (h : 65536 ≤ r ↔ pr c n i = true) : i + cct r = adv c n i := by
  unfold adv cct
  by_cases q : r < 65536
  · rw [if_pos q, if_neg (fun z => absurd (h.mpr z) (by omega))]
  · rw [if_neg q, if_pos (h.mp (by omega))]
theorem own_Ej1 {c : Nat → Nat} {n : Nat} (hn : 252 < n) (hc : ∀ i, i < 252 → c i < 55296) : ∀ q, q ≤ 252 → Ej c n q = q := by
  intro q
  induction q with
  | zero => intro _; rfl
  | succ q ih =>
    intro hq
    show adv c n (Ej c n q) = q + 1
    rw [ih (by omega)]
    have h1 : hiS (c q) = false := by have := hc q (by omega); unfold hiS; simp; omega
    unfold adv pr
    rw [h1]
    simp
theorem own_adv2 {c t : Nat → Nat} (ht : ∀ j, j < 8 → c (252 + j) = t j) {j : Nat} (hj : j < 8) : adv c 260 (252 + j) = 252 + adv t 8 j := by
  have e : pr c 260 (252 + j) = pr t 8 j := by
    unfold pr
    rw [ht j hj]
    by_cases q : j + 1 < 8
    · rw [show 252 + j + 1 = 252 + (j + 1) by omega, ht (j + 1) q]
      have q2 : 252 + (j + 1) < 260 := by omega
      simp [q, q2]
    · have : ¬ 252 + j + 1 < 260 := by omega
      simp [q, this]
  unfold adv
  rw [e]
  split <;> omega
theorem own_Ej {c t : Nat → Nat} (hc : ∀ i, i < 252 → c i < 55296) (ht : ∀ j, j < 8 → c (252 + j) = t j) : Ej c 260 256 = 252 + stp t (stp t (stp t (stp t 0))) := by
  have e0 : Ej c 260 252 = 252 + 0 := own_Ej1 (by decide) hc 252 (by decide)
  have a0 := own_adv t 8 0
  have e1 : Ej c 260 253 = 252 + stp t 0 := by
    show adv c 260 (Ej c 260 252) = _
    rw [e0, own_adv2 ht (by decide)]; rfl
  have s1 : stp t 0 = adv t 8 0 := rfl
  have a1 := own_adv t 8 (stp t 0)
  have s2 : stp t (stp t 0) = adv t 8 (stp t 0) := by show (if 8 ≤ stp t 0 then _ else _) = _; rw [if_neg (by omega)]
  have e2 : Ej c 260 254 = 252 + stp t (stp t 0) := by
    show adv c 260 (Ej c 260 253) = _
    rw [e1, own_adv2 ht (by omega), s2]
  have a2 := own_adv t 8 (stp t (stp t 0))
  have s3 : stp t (stp t (stp t 0)) = adv t 8 (stp t (stp t 0)) := by show (if 8 ≤ stp t (stp t 0) then _ else _) = _; rw [if_neg (by omega)]
  have e3 : Ej c 260 255 = 252 + stp t (stp t (stp t 0)) := by
    show adv c 260 (Ej c 260 254) = _
    rw [e2, own_adv2 ht (by omega), s3]
  have s4 : stp t (stp t (stp t (stp t 0))) = adv t 8 (stp t (stp t (stp t 0))) := by show (if 8 ≤ stp t (stp t (stp t 0)) then _ else _) = _; rw [if_neg (by omega)]
  show adv c 260 (Ej c 260 255) = _
  rw [e3, own_adv2 ht (by omega), s4]
theorem own_Ejlt {c : Nat → Nat} (hc : ∀ i, i < 252 → c i < 55296) : ∀ q, q < 256 → Ej c 260 q < 260 := by
  intro q hq
  have e0 : Ej c 260 252 = 252 := own_Ej1 (by decide) hc 252 (by decide)
  have a0 := own_adv c 260 252
  have e1 : Ej c 260 253 = adv c 260 252 := by show adv c 260 (Ej c 260 252) = _; rw [e0]
  have a1 := own_adv c 260 (Ej c 260 253)
  have e2 : Ej c 260 254 = adv c 260 (Ej c 260 253) := rfl
  have a2 := own_adv c 260 (Ej c 260 254)
  have e3 : Ej c 260 255 = adv c 260 (Ej c 260 254) := rfl
  by_cases h : q ≤ 252
  · rw [own_Ej1 (by decide) hc q h]; omega
  · have : q = 253 ∨ q = 254 ∨ q = 255 := by omega
    rcases this with rfl | rfl | rfl <;> omega
theorem own_Ej256 {c : Nat → Nat} (hc : ∀ i, i < 252 → c i < 55296) : 256 ≤ Ej c 260 256 ∧ Ej c 260 256 ≤ 260 := by
  have e0 : Ej c 260 252 = 252 := own_Ej1 (by decide) hc 252 (by decide)
  have a0 := own_adv c 260 (Ej c 260 252)
  have e1 : Ej c 260 253 = adv c 260 (Ej c 260 252) := rfl
  have a1 := own_adv c 260 (Ej c 260 253)
  have e2 : Ej c 260 254 = adv c 260 (Ej c 260 253) := rfl
  have a2 := own_adv c 260 (Ej c 260 254)
  have e3 : Ej c 260 255 = adv c 260 (Ej c 260 254) := rfl
  have a3 := own_adv c 260 (Ej c 260 255)
  have e4 : Ej c 260 256 = adv c 260 (Ej c 260 255) := rfl
  omega
def cont (n : Nat) (f : Nat → Int32) : List Value := (List.range n).map fun i => .int (f i)
def chf (c : Nat → Nat) : Nat → Int32 := fun i => Int32.ofNat (c i)
def upd (f : Nat → Int32) (i : Nat) (v : Int32) : Nat → Int32 := fun j => if j = i then v else f j
def cpy (f : Nat → Int32) (sp : Nat) (g : Nat → Int32) (dp nn : Nat) : Nat → Int32 := fun j => if dp ≤ j ∧ j < dp + nn then f (sp + (j - dp)) else g j
theorem own_clen (n : Nat) (f : Nat → Int32) : (cont n f).length = n := by simp [cont]
theorem own_cget {n i : Nat} {f : Nat → Int32} (h : i < n) (d : Value) : (cont n f).getD i d = .int (f i) := by
  simp [cont, List.getD_eq_getElem?_getD, h]
theorem own_at {n i : Nat} {f : Nat → Int32} (h : i < n) (hn : n < 2147483648) : (cont n f).getD (Int32.ofNat i).toNatClampNeg (.int 0) = .int (f i) := by
  rw [own_nat (by omega), own_cget h]
theorem own_ceq {n : Nat} {vs : List Value} {f : Nat → Int32} (hl : vs.length = n) (h : ∀ i, i < n → vs.getD i (.int 0) = .int (f i)) : vs = cont n f := by
  refine List.ext_getElem (by rw [hl, own_clen]) fun i h1 h2 => ?_
  have h3 : i < n := by rw [← hl]; exact h1
  have q := h i h3
  have q2 := own_cget (f := f) h3 (.int 0)
  rw [List.getD_eq_getElem?_getD, List.getElem?_eq_getElem h1] at q
  rw [List.getD_eq_getElem?_getD, List.getElem?_eq_getElem h2] at q2
  exact Option.some.inj (congrArg some (q.trans q2.symm)) |> fun z => z
theorem own_cset {n i : Nat} {f : Nat → Int32} {v : Int32} (h : i < n) : (cont n f).set i (.int v) = cont n (upd f i v) := by
  refine own_ceq (by simp [own_clen]) fun j hj => ?_
  unfold upd
  by_cases e : j = i
  · subst e; simp [List.getD_eq_getElem?_getD, own_clen, h]
  · rw [if_neg e, List.getD_eq_getElem?_getD, List.getElem?_set_ne (fun q => e q.symm), ← List.getD_eq_getElem?_getD]; exact own_cget hj _
theorem own_ccp {n n' sp dp nn : Nat} {f g : Nat → Int32} (h1 : sp + nn ≤ n) (h2 : dp + nn ≤ n') :
    (cont n' g).take dp ++ ((List.range nn).map fun i => (cont n f).getD (sp + i) (.int 0)) ++ (cont n' g).drop (dp + nn) = cont n' (cpy f sp g dp nn) := by
  refine own_ceq (by simp [own_clen]; omega) fun j hj => ?_
  unfold cpy
  rw [List.getD_eq_getElem?_getD, List.append_assoc]
  by_cases a : j < dp
  · rw [if_neg (by omega), List.getElem?_append_left (by simp [own_clen]; omega), List.getElem?_take_of_lt a, ← List.getD_eq_getElem?_getD]; exact own_cget hj _
  · have el : ((cont n' g).take dp).length = dp := by simp [own_clen]; omega
    rw [List.getElem?_append_right (by rw [el]; omega), el]
    by_cases b : j < dp + nn
    · rw [if_pos ⟨by omega, b⟩, List.getElem?_append_left (by simp; omega)]
      simp only [List.getElem?_map, List.getElem?_range (show j - dp < nn by omega), Option.map_some, Option.getD_some]
      exact own_cget (by omega) _
    · rw [if_neg (by omega), List.getElem?_append_right (by simp; omega)]
      simp only [List.length_map, List.length_range, List.getElem?_drop]
      rw [show dp + nn + (j - dp - nn) = j by omega, ← List.getD_eq_getElem?_getD]; exact own_cget hj _

def Sf (Z : State) (zc : Int32) (fm : Value) : Prop := Sta Z Z.heap "java/lang/String" "COMPACT_STRINGS" "Z" (.int zc) ∧ ¬ zc = 0 ∧ Sta Z Z.heap "jdk/internal/util/Preconditions" "SIOOBE_FORMATTER" "Ljava/util/function/BiFunction;" fm ∧ fm.isRef = true ∧ Sta Z Z.heap "java/lang/StringUTF16" "$assertionsDisabled" "Z" (.int 1) ∧ Sta Z Z.heap "java/lang/StringUTF16" "HI_BYTE_SHIFT" "I" (.int 0) ∧ Sta Z Z.heap "java/lang/StringUTF16" "LO_BYTE_SHIFT" "I" (.int 8)
theorem own_shrg {a : Nat} (ha : a < 2147483648) : (Int32.ofNat a >>> ((1 : Int32) &&& 31)) = Int32.ofNat (a / 2) := by
  rw [show ((1 : Int32) &&& 31) = Int32.ofNat 1 by decide, own_shr (by decide) ha]
theorem own_cnew {Z : State} {h : Heap} {a : Addr} {k : ClassId} {ty : FieldType} {z : Int32} {n : Nat} (V : Arv Z h a k ty z [] (.int 0)) : Arv Z h a k ty z (cont n (fun _ => 0)) (.int 0) := V.pad fun i => by
  by_cases q : i < n
  · rw [own_cget q]; rfl
  · simp [cont, List.getD_eq_getElem?_getD, q]
theorem own_cong {Z : State} {h : Heap} {a : Addr} {k : ClassId} {ty : FieldType} {z : Int32} {n : Nat} {f g : Nat → Int32} (V : Arv Z h a k ty z (cont n f) (.int 0)) (q : ∀ i, i < n → f i = g i) : Arv Z h a k ty z (cont n g) (.int 0) := by
  have e : cont n f = cont n g := own_ceq (own_clen _ _) (fun i hi => by rw [own_cget hi, q i hi])
  rw [← e]; exact V
theorem own_ref {v : Value} (h : v.isRef = true) : (∃ a, v = .ref a) ∨ v = .null := by cases v <;> simp_all [Value.isRef]
theorem own_gcv {a b : Int32} {k : Nat} (h : dec a b = Int32.ofNat k) (hk : k < 65536) : nar .char (((a &&& (255 : Int32)) ||| ((b &&& (255 : Int32)) <<< ((8 : Int32) &&& 31))).toUInt32.toUInt16.toUInt32.toInt32) = Int32.ofNat k := by
  show nar .char (dec a b) = _
  rw [h]; exact own_i2cN hk
theorem own_narc {k : Nat} (hk : k < 65536) : nar .char (Int32.ofNat k) = Int32.ofNat k := own_i2cN hk
theorem own_b1 {k : Nat} (hk : k < 256) : nar .byte ((Int32.ofNat k).toInt8.toInt32) &&& 255 = Int32.ofNat k := by
  have e := own_i8 k
  show ((Int32.ofNat k).toInt8.toInt32).toInt8.toInt32 &&& 255 = _
  rw [e, Nat.mod_eq_of_lt hk]
  exact (by decide +kernel : ∀ k : Fin 256, ((Int8.ofNat k.val).toInt32).toInt8.toInt32 &&& 255 = Int32.ofNat k.val) ⟨k, hk⟩
theorem own_n8 (x : Int32) : nar .byte (x.toInt8.toInt32) = x.toInt8.toInt32 := by
  show (x.toInt8.toInt32).toInt8.toInt32 = _
  rw [Int8.toInt8_toInt32]
def Lat (n : Nat) (f : Nat → Int32) (ch : Nat → Nat) : Prop := ∀ i, i < n → ch i < 256 ∧ f i &&& 255 = Int32.ofNat (ch i)
def Utf (n : Nat) (f : Nat → Int32) (ch : Nat → Nat) : Prop := ∀ i, i < n → dec (f (2 * i)) (f (2 * i + 1)) = Int32.ofNat (ch i)
def Rp (cd : Int32) (n lb : Nat) (f : Nat → Int32) (ch : Nat → Nat) : Prop := (cd = 0 ∧ n = lb ∧ Lat n f ch) ∨ (cd = 1 ∧ 2 * n = lb ∧ Utf n f ch)
theorem own_L0s {i : Nat} {f g : Nat → Int32} {ch : Nat → Nat} (h : Lat i f ch) (hc : ¬ 255 < ch i) (e : g = upd f i (nar .byte ((Int32.ofNat (ch i)).toInt8.toInt32))) : Lat (i + 1) g ch := fun j hj => by
  subst e
  by_cases q : j = i
  · subst q; unfold upd; rw [if_pos rfl]; exact ⟨by omega, own_b1 (by omega)⟩
  · unfold upd; rw [if_neg q]; exact h j (by omega)
theorem own_L1s {i : Nat} {f g : Nat → Int32} {ch : Nat → Nat} (h : Utf i f ch) (e1 : dec (g (2 * i)) (g (2 * i + 1)) = Int32.ofNat (ch i)) (e2 : ∀ j, j ≠ 2 * i → j ≠ 2 * i + 1 → g j = f j) : Utf (i + 1) g ch := fun j hj => by
  by_cases q : j = i
  · subst q; exact e1
  · rw [e2 _ (by omega) (by omega), e2 _ (by omega) (by omega)]; exact h j (by omega)
theorem own_put2 {i k : Nat} {f g1 g2 : Nat → Int32} (hk : k < 65536) (e1 : g1 = upd f (2 * i) (nar .byte (((Int32.ofNat k) >>> ((0 : Int32) &&& 31)).toInt8.toInt32))) (e2 : g2 = upd g1 (2 * i + 1) (nar .byte (((Int32.ofNat k) >>> ((8 : Int32) &&& 31)).toInt8.toInt32))) : dec (g2 (2 * i)) (g2 (2 * i + 1)) = Int32.ofNat k ∧ ∀ j, j ≠ 2 * i → j ≠ 2 * i + 1 → g2 j = f j := by
  subst e1; subst e2
  refine ⟨?_, fun j h1 h2 => by simp [upd, h1, h2]⟩
  have a : upd (upd f (2 * i) (nar .byte (((Int32.ofNat k) >>> ((0 : Int32) &&& 31)).toInt8.toInt32))) (2 * i + 1) (nar .byte (((Int32.ofNat k) >>> ((8 : Int32) &&& 31)).toInt8.toInt32)) (2 * i) = nar .byte (((Int32.ofNat k) >>> ((0 : Int32) &&& 31)).toInt8.toInt32) := by
    unfold upd; rw [if_neg (by omega), if_pos rfl]
  have b : upd (upd f (2 * i) (nar .byte (((Int32.ofNat k) >>> ((0 : Int32) &&& 31)).toInt8.toInt32))) (2 * i + 1) (nar .byte (((Int32.ofNat k) >>> ((8 : Int32) &&& 31)).toInt8.toInt32)) (2 * i + 1) = nar .byte (((Int32.ofNat k) >>> ((8 : Int32) &&& 31)).toInt8.toInt32) := by
    unfold upd; rw [if_pos rfl]
  rw [a, b, own_n8, own_n8]; exact own_putget hk
def Qwr (Z : State) (t : Addr) (lb : Nat) (P : (Nat → Int32) → Prop) (h0 : Heap) (n0 : Nat) (v : Option Value) (h : Heap) (L : List Loc) : Prop := v = none ∧ Fr n0 L ∧ Keep h0 h [t] ∧ ∃ (k' : ClassId) (f : Nat → Int32), Arv Z h t k' .byte (Int32.ofNat lb) (cont lb f) (.int 0) ∧ P f
def Qnw (Z : State) (lb : Nat) (P : (Nat → Int32) → Prop) (h0 : Heap) (n0 : Nat) (v : Option Value) (h : Heap) (L : List Loc) : Prop := ∃ (r : Addr) (k' : ClassId) (f : Nat → Int32), v = some (.ref r) ∧ Fr n0 L ∧ Keep h0 h [] ∧ h0.size ≤ r ∧ Arv Z h r k' .byte (Int32.ofNat lb) (cont lb f) (.int 0) ∧ Exa Z h r "[B" ∧ P f
def Qcm (Z : State) (n : Nat) (ch : Nat → Nat) (h0 : Heap) (n0 : Nat) (v : Option Value) (h : Heap) (L : List Loc) : Prop := ∃ (r : Addr) (k' : ClassId) (cd : Int32) (lb : Nat) (f : Nat → Int32), v = some (.ref r) ∧ Fr n0 L ∧ Keep h0 h [] ∧ h0.size ≤ r ∧ Arv Z h r k' .byte (Int32.ofNat lb) (cont lb f) (.int 0) ∧ Exa Z h r "[B" ∧ Rp cd n lb f ch
def Qcp (Z : State) (t : Addr) (n : Nat) (ch : Nat → Nat) (h0 : Heap) (n0 : Nat) (v : Option Value) (h : Heap) (L : List Loc) : Prop := ∃ (k : Nat) (k' : ClassId) (f : Nat → Int32), v = some (.int (Int32.ofNat k)) ∧ Fr n0 L ∧ Keep h0 h [t] ∧ Arv Z h t k' .byte (Int32.ofNat n) (cont n f) (.int 0) ∧ k ≤ n ∧ Lat k f ch ∧ (k < n → 255 < ch k)
def Qst (Z : State) (n : Nat) (ch : Nat → Nat) (h0 : Heap) (n0 : Nat) (v : Option Value) (h : Heap) (L : List Loc) : Prop := ∃ (x r : Addr) (k' : ClassId) (cd : Int32) (lb : Nat) (f : Nat → Int32), v = some (.ref x) ∧ Fr n0 L ∧ Keep h0 h [] ∧ h0.size ≤ x ∧ h0.size ≤ r ∧ Exa Z h x "java/lang/String" ∧ Fld Z h x "java/lang/String" "value" "[B" (.ref r) ∧ Fld Z h x "java/lang/String" "coder" "B" (.int cd) ∧ Arv Z h r k' .byte (Int32.ofNat lb) (cont lb f) (.int 0) ∧ Exa Z h r "[B" ∧ Rp cd n lb f ch
def Qin (Z : State) (x : Addr) (n : Nat) (ch : Nat → Nat) (h0 : Heap) (n0 : Nat) (v : Option Value) (h : Heap) (L : List Loc) : Prop := v = none ∧ Fr n0 L ∧ Keep h0 h [x] ∧ ∃ (r : Addr) (k' : ClassId) (cd : Int32) (lb : Nat) (f : Nat → Int32), h0.size ≤ r ∧ Fld Z h x "java/lang/String" "value" "[B" (.ref r) ∧ Fld Z h x "java/lang/String" "coder" "B" (.int cd) ∧ Arv Z h r k' .byte (Int32.ofNat lb) (cont lb f) (.int 0) ∧ Exa Z h r "[B" ∧ Rp cd n lb f ch
def Qbb (Z : State) (x r : Addr) (cd : Int32) (h0 : Heap) (n0 : Nat) (v : Option Value) (h : Heap) (L : List Loc) : Prop := v = none ∧ Fr n0 L ∧ Keep h0 h [x] ∧ Fld Z h x "java/lang/String" "value" "[B" (.ref r) ∧ Fld Z h x "java/lang/String" "coder" "B" (.int cd)
def Qcpa (ch : Nat → Nat) (n i : Nat) (h0 : Heap) (n0 : Nat) (v : Option Value) (h : Heap) (L : List Loc) : Prop := ∃ r : Nat, v = some (.int (Int32.ofNat r)) ∧ Fr n0 L ∧ h = h0 ∧ r < 2147483648 ∧ (65536 ≤ r ↔ pr ch n i = true)
def Qch (h0 : Heap) (n0 : Nat) (v : Option Value) (h : Heap) (L : List Loc) : Prop := ∃ r : Nat, v = some (.int (Int32.ofNat r)) ∧ Fr n0 L ∧ h = h0 ∧ r < 65536

theorem gb {p : Program} {e : Env} {below : List Frame} {G : Outcome → State → Prop} {T : State} {f : JFrame} (m : MethodId) (T' : State) (pc : Nat) (L : Array Slot) (S : List Value) (k : ∀ t, Steps p.tables e below (T'.setTop (mkF m pc L S)) t → Steps p.tables e below (T.setTop f) t) (g : Go p e below G T' (mkF m pc L S)) : Go p e below G T f := Go.by k g
theorem wv {a0 : Array Value} {Z : State} (hw : ∀ d ∈ tables_1, d.before a0 Z = true) (i : Nat) {d : Jvm.Cond} (h : tables_1[i]? = some d) : d.before a0 Z = true := hw _ (List.mem_of_getElem? h)

abbrev nI (n : Nat) : Int32 := Int32.ofNat n
abbrev rk (a b c d : Nat) : Room := { frames := a, cells := b, slots := c, locals := d }
abbrev MF (l : Launch) (Z : State) (h0 : Heap) (y : MethodName) (bs : ByteArray) (ml : Nat) (rt : Option FieldType) (ws : List Jvm.Cond) (R : Room) (A : Array Value) (Q : Option Value → Heap → List Loc → Prop) : Prop := MetFree l y (head1 (Jvm.Cond.code y bs ml rt :: ws) R) (fun as_ U => as_ = A ∧ Z.Warmed39 U.vm ∧ U.heap = h0) (fun _ _ _ _ _ => True) (fun _ U o U' => ∃ v L, o = .returned v ∧ Q v U'.heap L ∧ FrameEnd U o U' L R.cells R.slots)
theorem sg {l : Launch} {Z : State} {h0 : Heap} {y : MethodName} {bs : ByteArray} {ml : Nat} {rt : Option FieldType} {ws : List Jvm.Cond} {R : Room} {A : Array Value} {Q : Option Value → Heap → List Loc → Prop} {L0 : Array Slot} (n0 : Nat) (wl : List Addr) {own : String} (pn : plainFor y = true) (ho : y.cls = own) (ef : ∀ m, entryFrame m A ml = mkF m 0 L0 [])
    (W : ∀ (p : Program) (e : Env) (s : State) (m : MethodId) (below : List Frame) (meth : Method) (c : Code) (s₁ : State) (Bd : BodyLoose p l y (head1 (Jvm.Cond.code y bs ml rt :: ws) R) bs ml rt e s m A below meth c s₁), c.maxLocals = ml → Z.Warmed39 s.vm → s.heap = h0 → p.tables.exec = Jvm.exec → (∀ {pc : Nat} {r : Except ClassFile.DecodeError (ClassFile.Instr × Nat)}, decode bs pc = r → decode c.code pc = r) → s.vm.findClass own = some m.cls → meth.name = y.name → Stand p l e R s m A below meth c s₁ [] 0 0 → s₁.heap = h0 → Fr n0 [] → Keep h0 h0 wl →
      Go p e below (fun o U' => ∃ v L, o = .returned v ∧ Q v U'.heap L ∧ FrameEnd s o U' L R.cells R.slots) s₁ (mkF m 0 L0 [])) : MF l Z h0 y bs ml rt ws R A Q := by
  refine MetFree.of_bodySF pn hisR ?_
  intro p e s m args below meth c s₁ Bd hml hP hK
  obtain ⟨rfl, hZ, hh⟩ := hP
  obtain ⟨s₂, o, h1, h2⟩ := W p e s m below meth c s₁ Bd hml hZ hh Bd.exec (fun h => hb Bd.bytes h) (ho ▸ findClass_of_methodNamed Bd.named) (name_of_methodNamed Bd.named Bd.method).1 (Stand.of_body Bd) (by rw [← hh, Bd.state]; rfl) (Fr.nil n0) (Keep.refl _ _)
  exact ⟨s₂, o, castTop (ef m) h1, h2⟩
theorem cS {p : Program} {l : Launch} {e : Env} {R : Room} {s : State} {m : MethodId} {args : Array Value} {below : List Frame} {meth : Method} {c : Code} {T : State} {locs : List Loc} {cells slots : Nat} {Z : State} {h : Heap} {own : String} {idx pc ml : Nat} {y : MethodName} {bytes : ByteArray} {maxL : Nat} {ret : Option FieldType} {rm : Room} {as_ a0 : Array Value} {Q : Option Value → Heap → List Loc → Prop} {ps : List FieldType} {r : Option FieldType} (LL : Array Slot) (rest : List Value) (X : Stand p l e R s m args below meth c T locs cells slots) (hx : p.tables.exec = Jvm.exec) (hZ : Z.Warmed39 s.vm) (hown : s.vm.findClass own = some m.cls) (hw : ∀ d ∈ tables_1, d.before a0 Z = true) (eT : T.heap = h) (hml : c.maxLocals = ml) (i1 i2 i3 i4 : Nat) (w1 : tables_1[i1]? = some (Jvm.Cond.methodLink own idx y)) (w2 : tables_1[i2]? = some (Jvm.Cond.static y)) (w3 : tables_1[i3]? = some (Jvm.Cond.initialized y.cls)) (w4 : tables_1[i4]? = some (Jvm.Cond.code y bytes maxL ret)) (hy : y.cls ≠ "java/lang/invoke/MethodHandle" ∧ y.cls ≠ "java/lang/invoke/VarHandle") (hM : MetFree l y (head1 [Jvm.Cond.code y bytes maxL ret] rm) (fun a U => a = as_ ∧ Z.Warmed39 U.vm ∧ U.heap = h) (fun _ _ _ _ _ => True) (fun _ U o U' => ∃ v L, o = .returned v ∧ Q v U'.heap L ∧ FrameEnd U o U' L rm.cells rm.slots)) (hd : parseMethodDescriptor y.desc = some ⟨ps, r⟩) (hl : as_.toList.length = ps.length) (hs : LL.size = ml) (D : decode c.code pc = .ok (.invokestatic idx, 3)) (hr : (Nat.ble (rm.frames + 1) R.frames && Nat.ble ((rest.map fun v => v.category).sum + (maxL + 11) + rm.locals) R.locals && Nat.ble (cells + rm.cells) R.cells && Nat.ble (slots + rm.slots) R.slots) = true) :
    ∃ (v : Option Value) (T' : State) (Lc : List Loc), Stand p l e R s m args below meth c T' (locs ++ Lc) (cells + rm.cells) (slots + rm.slots) ∧ Q v T'.heap Lc ∧ ∀ target, Steps p.tables e below (T'.setTop (mkF m (pc + 3) LL (v.toList ++ rest))) target → Steps p.tables e below (T.setTop (mkF m pc LL (as_.toList.reverse ++ rest))) target := by
  simp only [Bool.and_eq_true] at hr
  obtain ⟨⟨⟨r1, r2⟩, r3⟩, r4⟩ := hr
  obtain ⟨v, _, ⟨T', L', k', n'⟩, -, X', ⟨Lc, hQ, e1, e2, e3⟩, st⟩ := Jvm.LawKit.callS X hx (y := y) hown (mvT hZ (wv hw i1 w1)) (mvT hZ (wv hw i2 w2)) (mvT hZ (wv hw i3 w3)) (mvT hZ (wv hw i4 w4)) hy (backOf (W := (rest.map fun v => v.category).sum) hM hZ (wv hw i4 w4) (wv hw i3 w3) (Nat.le_of_ble_eq_true r1) (Nat.le_of_ble_eq_true r2)) (g := mkF m pc LL (as_.toList.reverse ++ rest)) rfl (hs.trans hml.symm) (argsL := as_.toList) (rest := rest) (lenOf hd hl) rfl (by show 2 * 0 + _ ≤ _; omega) D (fun _ _ => ⟨Array.toArray_toList, eT, Nat.le_of_ble_eq_true r3, Nat.le_of_ble_eq_true r4⟩)
  dsimp only [Pt.U, Pt.locs, Pt.cells, Pt.slots] at X' e1 e2 e3 st hQ
  subst e1 e2 e3
  exact ⟨v, T', Lc, X', hQ, st⟩
theorem cV {p : Program} {l : Launch} {e : Env} {R : Room} {s : State} {m : MethodId} {args : Array Value} {below : List Frame} {meth : Method} {c : Code} {T : State} {locs : List Loc} {cells slots : Nat} {Z : State} {h : Heap} {own : String} {idx pc ml : Nat} {y : MethodName} {bytes : ByteArray} {maxL : Nat} {ret : Option FieldType} {rm : Room} {a0 : Array Value} {Q : Option Value → Heap → List Loc → Prop} {ps : List FieldType} {r : Option FieldType} {C : String} {b : Addr} {al : List Value} (LL : Array Slot) (rest : List Value) (X : Stand p l e R s m args below meth c T locs cells slots) (hx : p.tables.exec = Jvm.exec) (hZ : Z.Warmed39 s.vm) (hown : s.vm.findClass own = some m.cls) (hw : ∀ d ∈ tables_1, d.before a0 Z = true) (eT : T.heap = h) (hml : c.maxLocals = ml) (E : Exa Z h b C) (i1 i2 i3 i4 i5 i6 : Nat) (w1 : tables_1[i1]? = some (Jvm.Cond.methodLink own idx y)) (w2 : tables_1[i2]? = some (Jvm.Cond.declares y)) (w3 : tables_1[i3]? = some (Jvm.Cond.selects C y y)) (w4 : tables_1[i4]? = some (Jvm.Cond.instanceMethod y)) (w5 : tables_1[i5]? = some (Jvm.Cond.initialized y.cls)) (w6 : tables_1[i6]? = some (Jvm.Cond.code y bytes maxL ret)) (hy : y.cls ≠ "java/lang/invoke/MethodHandle" ∧ y.cls ≠ "java/lang/invoke/VarHandle") (hM : MetFree l y (head1 [Jvm.Cond.code y bytes maxL ret] rm) (fun a U => a = (Value.ref b :: al).toArray ∧ Z.Warmed39 U.vm ∧ U.heap = h) (fun _ _ _ _ _ => True) (fun _ U o U' => ∃ v L, o = .returned v ∧ Q v U'.heap L ∧ FrameEnd U o U' L rm.cells rm.slots)) (hd : parseMethodDescriptor y.desc = some ⟨ps, r⟩) (hl : al.length = ps.length) (hs : LL.size = ml) (D : decode c.code pc = .ok (.invokevirtual idx, 3)) (hr : (Nat.ble (rm.frames + 1) R.frames && Nat.ble ((rest.map fun v => v.category).sum + (maxL + 11) + rm.locals) R.locals && Nat.ble (cells + rm.cells) R.cells && Nat.ble (slots + rm.slots) R.slots) = true) :
    ∃ (v : Option Value) (T' : State) (Lc : List Loc), Stand p l e R s m args below meth c T' (locs ++ Lc) (cells + rm.cells) (slots + rm.slots) ∧ Q v T'.heap Lc ∧ ∀ target, Steps p.tables e below (T'.setTop (mkF m (pc + 3) LL (v.toList ++ rest))) target → Steps p.tables e below (T.setTop (mkF m pc LL (al.reverse ++ .ref b :: rest))) target := by
  simp only [Bool.and_eq_true] at hr
  obtain ⟨⟨⟨r1, r2⟩, r3⟩, r4⟩ := hr
  obtain ⟨cB, kB, qa, qb, qc⟩ := isOf hZ eT E
  obtain ⟨v, _, ⟨T', L', k', n'⟩, -, X', ⟨Lc, hQ, e1, e2, e3⟩, st⟩ := X.virtualBack hx (y := y) (z := y) hown (mvT hZ (wv hw i1 w1)) (mvT hZ (wv hw i2 w2)) (notFace_of_selects (args := #[]) (mvT hZ (wv hw i3 w3))) (mvT hZ (wv hw i3 w3)) (mvT hZ (wv hw i4 w4)) hy (backOf (W := (rest.map fun v => v.category).sum) hM hZ (wv hw i6 w6) (wv hw i5 w5) (Nat.le_of_ble_eq_true r1) (Nat.le_of_ble_eq_true r2)) qa qc (g := mkF m pc LL (al.reverse ++ .ref b :: rest)) rfl (hs.trans hml.symm) (Steps.refl _) (argsL := al) (rest := rest) (lenOf hd hl) rfl (by show 2 * 0 + _ ≤ _; omega) D (fun _ _ => ⟨rfl, eT, Nat.le_of_ble_eq_true r3, Nat.le_of_ble_eq_true r4⟩)
  dsimp only [Pt.U, Pt.locs, Pt.cells, Pt.slots] at X' e1 e2 e3 st hQ
  subst e1 e2 e3
  exact ⟨v, T', Lc, X', hQ, fun _ k => st.trans k⟩
theorem sI (pc' : Nat) {p : Program} {l : Launch} {e : Env} {R : Room} {s : State} {m : MethodId} {args : Array Value} {below : List Frame} {meth : Method} {c : Code} {T : State} {locs : List Loc} {cells slots : Nat} {G : Outcome → State → Prop} {pc : Nat} {L : Array Slot} {S : List Value} {k : Fin 4} {v : Int32} (X : Stand p l e R s m args below meth c T locs cells slots) (hx : p.tables.exec = Jvm.exec) (D : decode c.code pc = .ok (.iload_n k, 1)) (hl : L[k.val]? = some (.val (.int v))) (hp : pc + 1 = pc') (g : Go p e below G T (mkF m pc' L (.int v :: S))) : Go p e below G T (mkF m pc L S) := by
  subst hp; exact Go.by (fun _ k => XS.iloadN X.here hx rfl D hl k) g
theorem sA (pc' : Nat) {p : Program} {l : Launch} {e : Env} {R : Room} {s : State} {m : MethodId} {args : Array Value} {below : List Frame} {meth : Method} {c : Code} {T : State} {locs : List Loc} {cells slots : Nat} {G : Outcome → State → Prop} {pc : Nat} {L : Array Slot} {S : List Value} {k : Fin 4} {v : Value} (X : Stand p l e R s m args below meth c T locs cells slots) (hx : p.tables.exec = Jvm.exec) (D : decode c.code pc = .ok (.aload_n k, 1)) (hl : L[k.val]? = some (.val v)) (hv : v.isRef = true) (hp : pc + 1 = pc') (g : Go p e below G T (mkF m pc' L (v :: S))) : Go p e below G T (mkF m pc L S) := by
  subst hp; exact Go.by (fun _ k => XS.aloadN X.here hx rfl D hl hv k) g
theorem tI (pc' : Nat) {p : Program} {l : Launch} {e : Env} {R : Room} {s : State} {m : MethodId} {args : Array Value} {below : List Frame} {meth : Method} {c : Code} {T : State} {locs : List Loc} {cells slots : Nat} {G : Outcome → State → Prop} {pc : Nat} {L : Array Slot} {S : List Value} {k : Nat} {v : Int32} (X : Stand p l e R s m args below meth c T locs cells slots) (hx : p.tables.exec = Jvm.exec) (D : decode c.code pc = .ok (.iload k, 2)) (hl : L[k]? = some (.val (.int v))) (hp : pc + 2 = pc') (g : Go p e below G T (mkF m pc' L (.int v :: S))) : Go p e below G T (mkF m pc L S) := by
  subst hp; exact Go.by (fun _ k => XS.iload X.here hx rfl D hl k) g
theorem tA (pc' : Nat) {p : Program} {l : Launch} {e : Env} {R : Room} {s : State} {m : MethodId} {args : Array Value} {below : List Frame} {meth : Method} {c : Code} {T : State} {locs : List Loc} {cells slots : Nat} {G : Outcome → State → Prop} {pc : Nat} {L : Array Slot} {S : List Value} {k : Nat} {v : Value} (X : Stand p l e R s m args below meth c T locs cells slots) (hx : p.tables.exec = Jvm.exec) (D : decode c.code pc = .ok (.aload k, 2)) (hl : L[k]? = some (.val v)) (hv : v.isRef = true) (hp : pc + 2 = pc') (g : Go p e below G T (mkF m pc' L (v :: S))) : Go p e below G T (mkF m pc L S) := by
  subst hp; exact Go.by (fun _ k => XS.aload X.here hx rfl D hl hv k) g
theorem sC (pc' : Nat) (v : Int32) {p : Program} {l : Launch} {e : Env} {R : Room} {s : State} {m : MethodId} {args : Array Value} {below : List Frame} {meth : Method} {c : Code} {T : State} {locs : List Loc} {cells slots : Nat} {G : Outcome → State → Prop} {pc : Nat} {L : Array Slot} {S : List Value} {i : Int} (X : Stand p l e R s m args below meth c T locs cells slots) (hx : p.tables.exec = Jvm.exec) (D : decode c.code pc = .ok (.iconst i, 1)) (hv : Int32.ofInt i = v) (hp : pc + 1 = pc') (g : Go p e below G T (mkF m pc' L (.int v :: S))) : Go p e below G T (mkF m pc L S) := by
  subst hp; subst hv; exact Go.by (fun _ k => XS.iconst X.here hx rfl D k) g
theorem sS (pc' : Nat) (v : Int32) {p : Program} {l : Launch} {e : Env} {R : Room} {s : State} {m : MethodId} {args : Array Value} {below : List Frame} {meth : Method} {c : Code} {T : State} {locs : List Loc} {cells slots : Nat} {G : Outcome → State → Prop} {pc : Nat} {L : Array Slot} {S : List Value} {i : Int} (X : Stand p l e R s m args below meth c T locs cells slots) (hx : p.tables.exec = Jvm.exec) (D : decode c.code pc = .ok (.sipush i, 3)) (hv : (Int16.ofInt i).toInt32 = v) (hp : pc + 3 = pc') (g : Go p e below G T (mkF m pc' L (.int v :: S))) : Go p e below G T (mkF m pc L S) := by
  subst hp; subst hv; exact Go.by (fun _ k => XS.sipush X.here hx rfl D k) g
theorem sB (pc' : Nat) (v : Int32) {p : Program} {l : Launch} {e : Env} {R : Room} {s : State} {m : MethodId} {args : Array Value} {below : List Frame} {meth : Method} {c : Code} {T : State} {locs : List Loc} {cells slots : Nat} {G : Outcome → State → Prop} {pc : Nat} {L : Array Slot} {S : List Value} {i : Int} (X : Stand p l e R s m args below meth c T locs cells slots) (hx : p.tables.exec = Jvm.exec) (D : decode c.code pc = .ok (.bipush i, 2)) (hv : (Int8.ofInt i).toInt32 = v) (hp : pc + 2 = pc') (g : Go p e below G T (mkF m pc' L (.int v :: S))) : Go p e below G T (mkF m pc L S) := by
  subst hp; subst hv; exact Go.by (fun _ k => XS.bipush X.here hx rfl D k) g

abbrev c0 : ByteArray := jdk_29_method_65_code
abbrev c1 : ByteArray := jdk_29_method_69_code
abbrev c2 : ByteArray := jdk_48_method_27_code
abbrev c3 : ByteArray := jdk_65_method_131_code
abbrev c4 : ByteArray := jdk_41_method_11_code
abbrev c5 : ByteArray := jdk_41_method_12_code
abbrev c6 : ByteArray := jdk_41_method_13_code
abbrev c7 : ByteArray := jdk_42_method_155_code
abbrev c8 : ByteArray := jdk_42_method_158_code
abbrev c9 : ByteArray := jdk_42_method_157_code
abbrev c10 : ByteArray := jdk_52_method_3_code
abbrev c11 : ByteArray := jdk_89_method_14_code
abbrev c12 : ByteArray := jdk_89_method_15_code
abbrev c13 : ByteArray := method_3_code
abbrev c14 : ByteArray := method_4_code
abbrev c15 : ByteArray := jdk_89_method_19_code
abbrev c16 : ByteArray := jdk_89_method_18_code
abbrev c17 : ByteArray := jdk_52_method_6_code
abbrev c18 : ByteArray := jdk_52_method_94_code
abbrev c19 : ByteArray := jdk_52_method_91_code
abbrev c20 : ByteArray := jdk_52_method_5_code
abbrev c21 : ByteArray := jdk_52_method_4_code
abbrev c22 : ByteArray := jdk_52_method_2_code
abbrev c23 : ByteArray := jdk_52_method_21_code
abbrev c24 : ByteArray := jdk_52_method_14_code
abbrev c25 : ByteArray := jdk_52_method_16_code
abbrev c26 : ByteArray := jdk_52_method_15_code
abbrev c27 : ByteArray := jdk_42_method_149_code
abbrev c28 : ByteArray := jdk_42_method_3_code
abbrev c29 : ByteArray := jdk_42_method_152_code
abbrev c30 : ByteArray := jdk_42_method_154_code
abbrev c31 : ByteArray := jdk_42_method_54_code
abbrev c32 : ByteArray := jdk_52_method_7_code
abbrev c33 : ByteArray := jdk_52_method_8_code
abbrev c34 : ByteArray := jdk_42_method_57_code
abbrev c35 : ByteArray := jdk_43_method_2_code
abbrev c36 : ByteArray := jdk_52_method_83_code
abbrev c37 : ByteArray := jdk_42_method_56_code
abbrev c38 : ByteArray := jdk_65_method_133_code
abbrev c39 : ByteArray := jdk_65_method_132_code
abbrev c40 : ByteArray := jdk_42_method_151_code
abbrev c41 : ByteArray := jdk_43_method_47_code
abbrev c42 : ByteArray := jdk_52_method_22_code
abbrev c43 : ByteArray := jdk_52_method_17_code
abbrev c44 : ByteArray := jdk_52_method_69_code
abbrev c45 : ByteArray := jdk_42_method_92_code
abbrev c46 : ByteArray := jdk_68_method_2_code
abbrev c47 : ByteArray := jdk_67_method_1_code
abbrev c48 : ByteArray := jdk_68_method_10_code
abbrev c49 : ByteArray := jdk_65_method_121_code
abbrev c50 : ByteArray := jdk_68_method_9_code
abbrev c51 : ByteArray := jdk_68_method_68_code
abbrev c52 : ByteArray := jdk_52_method_86_code
abbrev c53 : ByteArray := jdk_43_method_50_code
abbrev c54 : ByteArray := jdk_68_method_11_code
abbrev c55 : ByteArray := jdk_68_method_71_code
abbrev c56 : ByteArray := jdk_42_method_147_code
abbrev c57 : ByteArray := jdk_68_method_73_code
abbrev c58 : ByteArray := jdk_68_method_22_code
abbrev c59 : ByteArray := jdk_67_method_7_code
abbrev c60 : ByteArray := jdk_68_method_64_code
abbrev c61 : ByteArray := jdk_68_method_6_code
abbrev c62 : ByteArray := jdk_67_method_93_code
abbrev c63 : ByteArray := jdk_42_method_150_code
abbrev c64 : ByteArray := jdk_42_method_53_code
abbrev c65 : ByteArray := jdk_67_method_42_code
abbrev c66 : ByteArray := prog_2_method_2_code
abbrev c67 : ByteArray := method_2_code
abbrev c68 : ByteArray := method_5_code
abbrev c69 : ByteArray := jdk_42_method_66_code
abbrev c70 : ByteArray := jdk_42_method_55_code
theorem d0_0 : decode c0 0 = .ok (.iload_n 0, 1) := by decide +kernel
theorem d0_1 : decode c0 1 = .ok (.iload_n 1, 1) := by decide +kernel
theorem d0_2 : decode c0 2 = .ok (.if_icmp .lt 7, 3) := by decide +kernel
theorem d0_5 : decode c0 5 = .ok (.iload_n 0, 1) := by decide +kernel
theorem d0_6 : decode c0 6 = .ok (.goto 4, 3) := by decide +kernel
theorem d0_9 : decode c0 9 = .ok (.iload_n 1, 1) := by decide +kernel
theorem d0_10 : decode c0 10 = .ok (.ireturn, 1) := by decide +kernel
theorem pn_max : plainFor (⟨"java/lang/Math", "max", "(II)I"⟩ : MethodName) = true := by decide +kernel
theorem ef_max (m : MethodId) (x0 : Int32) (x1 : Int32) : entryFrame m #[(.int x0), (.int x1)] 2 = mkF m 0 #[.val (.int x0), .val (.int x1)] [] := by first | (simp [entryFrame, mkF, argsToLocals, Value.category]; done) | rfl
theorem rm_max (l : Launch) (Z : State) (a0 : Array Value) (hw : ∀ d ∈ tables_1, d.before a0 Z = true) (ws : List Jvm.Cond) (xa xb : Nat)  (h0 : Heap) (n0 : Nat) (O : Old Z n0 h0) (hy0 : xa < 1073741824) (hy1 : xb < 1073741824) :
    MF l Z h0 (⟨"java/lang/Math", "max", "(II)I"⟩ : MethodName) c0 2 (some .int) ws (rk 0 0 0 0) #[(.int (nI xa)), (.int (nI xb))] (Qpure (some (.int (nI (max xa xb)))) h0 n0) := by
  refine sg n0 [] pn_max rfl (fun m => ef_max m (nI xa) (nI xb)) fun p e s m below meth c s₁ Bd hml hZ hh hx B hown hnm X0 e0 N K => ?_
  let LL1 : Array Slot := #[.val (.int (nI xa)), .val (.int (nI xb))]
  refine sI 1 X0 hx (B d0_0) rfl rfl ?_
  refine sI 2 X0 hx (B d0_1) rfl rfl ?_
  by_cases hc2_2 : xa < xb
  ·
   refine gb m s₁ 9 LL1 [] (fun _ k => XS.icmpYes X0.here hx rfl (pc0 := 2) (pc' := 9) rfl (B d0_2) rfl (tlt ((own_nlt (a := xa) (b := xb) (by omega) (by omega)).mpr hc2_2)).1 (by decide) (by decide) k) ?_
   refine sI 10 X0 hx (B d0_9) rfl rfl ?_
   obtain ⟨fs, hr, hrun, hended, hW, hsame⟩ := X0.leave (v := some (.int (nI xb))) (fun h => by rw [Bd.returns] at h; cases h)
   refine ⟨_, _, retOut X0 hx Bd.returns rfl (Or.inl ⟨rfl, Or.inl rfl, _, rfl⟩) (B d0_10) hr, hrun, hended, _, _, rfl, ?_, ⟨_, rfl⟩, hW, hsame.mono (by decide) (by decide)⟩
   show Qpure (some (.int (nI (max xa xb)))) h0 n0 (some (.int (nI xb))) s₁.heap _
   rw [e0]
   exact ⟨by rw [show max xa xb = xb by omega], N, rfl⟩
  ·
   refine gb m s₁ 5 LL1 [] (fun _ k => XS.icmpNo X0.here hx rfl (B d0_2) rfl (flt (mt (own_nlt (a := xa) (b := xb) (by omega) (by omega)).mp hc2_2)).1 k) ?_
   refine sI 6 X0 hx (B d0_5) rfl rfl ?_
   refine gb m s₁ 10 LL1 [(.int (nI xa))] (fun _ k => XS.goto X0.here hx rfl (pc0 := 6) (pc' := 10) rfl (B d0_6) (by decide) (by decide) k) ?_
   obtain ⟨fs, hr, hrun, hended, hW, hsame⟩ := X0.leave (v := some (.int (nI xa))) (fun h => by rw [Bd.returns] at h; cases h)
   refine ⟨_, _, retOut X0 hx Bd.returns rfl (Or.inl ⟨rfl, Or.inl rfl, _, rfl⟩) (B d0_10) hr, hrun, hended, _, _, rfl, ?_, ⟨_, rfl⟩, hW, hsame.mono (by decide) (by decide)⟩
   show Qpure (some (.int (nI (max xa xb)))) h0 n0 (some (.int (nI xa))) s₁.heap _
   rw [e0]
   exact ⟨by rw [show max xa xb = xa by omega], N, rfl⟩

theorem d1_0 : decode c1 0 = .ok (.iload_n 0, 1) := by decide +kernel
theorem d1_1 : decode c1 1 = .ok (.iload_n 1, 1) := by decide +kernel
theorem d1_2 : decode c1 2 = .ok (.if_icmp .gt 7, 3) := by decide +kernel
theorem d1_5 : decode c1 5 = .ok (.iload_n 0, 1) := by decide +kernel
theorem d1_6 : decode c1 6 = .ok (.goto 4, 3) := by decide +kernel
theorem d1_9 : decode c1 9 = .ok (.iload_n 1, 1) := by decide +kernel
theorem d1_10 : decode c1 10 = .ok (.ireturn, 1) := by decide +kernel
theorem pn_min : plainFor (⟨"java/lang/Math", "min", "(II)I"⟩ : MethodName) = true := by decide +kernel
theorem ef_min (m : MethodId) (x0 : Int32) (x1 : Int32) : entryFrame m #[(.int x0), (.int x1)] 2 = mkF m 0 #[.val (.int x0), .val (.int x1)] [] := by first | (simp [entryFrame, mkF, argsToLocals, Value.category]; done) | rfl
theorem rm_min (l : Launch) (Z : State) (a0 : Array Value) (hw : ∀ d ∈ tables_1, d.before a0 Z = true) (ws : List Jvm.Cond) (xa xb : Nat)  (h0 : Heap) (n0 : Nat) (O : Old Z n0 h0) (hy0 : xa < 1073741824) (hy1 : xb < 1073741824) :
    MF l Z h0 (⟨"java/lang/Math", "min", "(II)I"⟩ : MethodName) c1 2 (some .int) ws (rk 0 0 0 0) #[(.int (nI xa)), (.int (nI xb))] (Qpure (some (.int (nI (min xa xb)))) h0 n0) := by
  refine sg n0 [] pn_min rfl (fun m => ef_min m (nI xa) (nI xb)) fun p e s m below meth c s₁ Bd hml hZ hh hx B hown hnm X0 e0 N K => ?_
  let LL1 : Array Slot := #[.val (.int (nI xa)), .val (.int (nI xb))]
  refine sI 1 X0 hx (B d1_0) rfl rfl ?_
  refine sI 2 X0 hx (B d1_1) rfl rfl ?_
  by_cases hc2_2 : xb < xa
  ·
   refine gb m s₁ 9 LL1 [] (fun _ k => XS.icmpYes X0.here hx rfl (pc0 := 2) (pc' := 9) rfl (B d1_2) rfl (tlt ((own_nlt (a := xb) (b := xa) (by omega) (by omega)).mpr hc2_2)).2.2.1 (by decide) (by decide) k) ?_
   refine sI 10 X0 hx (B d1_9) rfl rfl ?_
   obtain ⟨fs, hr, hrun, hended, hW, hsame⟩ := X0.leave (v := some (.int (nI xb))) (fun h => by rw [Bd.returns] at h; cases h)
   refine ⟨_, _, retOut X0 hx Bd.returns rfl (Or.inl ⟨rfl, Or.inl rfl, _, rfl⟩) (B d1_10) hr, hrun, hended, _, _, rfl, ?_, ⟨_, rfl⟩, hW, hsame.mono (by decide) (by decide)⟩
   show Qpure (some (.int (nI (min xa xb)))) h0 n0 (some (.int (nI xb))) s₁.heap _
   rw [e0]
   exact ⟨by rw [show min xa xb = xb by omega], N, rfl⟩
  ·
   refine gb m s₁ 5 LL1 [] (fun _ k => XS.icmpNo X0.here hx rfl (B d1_2) rfl (flt (mt (own_nlt (a := xb) (b := xa) (by omega) (by omega)).mp hc2_2)).2.2.1 k) ?_
   refine sI 6 X0 hx (B d1_5) rfl rfl ?_
   refine gb m s₁ 10 LL1 [(.int (nI xa))] (fun _ k => XS.goto X0.here hx rfl (pc0 := 6) (pc' := 10) rfl (B d1_6) (by decide) (by decide) k) ?_
   obtain ⟨fs, hr, hrun, hended, hW, hsame⟩ := X0.leave (v := some (.int (nI xa))) (fun h => by rw [Bd.returns] at h; cases h)
   refine ⟨_, _, retOut X0 hx Bd.returns rfl (Or.inl ⟨rfl, Or.inl rfl, _, rfl⟩) (B d1_10) hr, hrun, hended, _, _, rfl, ?_, ⟨_, rfl⟩, hW, hsame.mono (by decide) (by decide)⟩
   show Qpure (some (.int (nI (min xa xb)))) h0 n0 (some (.int (nI xa))) s₁.heap _
   rw [e0]
   exact ⟨by rw [show min xa xb = xa by omega], N, rfl⟩

theorem d2_0 : decode c2 0 = .ok (.iload_n 0, 1) := by decide +kernel
theorem d2_1 : decode c2 1 = .ok (.iload_n 1, 1) := by decide +kernel
theorem d2_2 : decode c2 2 = .ok (.iload_n 2, 1) := by decide +kernel
theorem d2_3 : decode c2 3 = .ok (.invokestatic 194, 3) := by decide +kernel
theorem d2_6 : decode c2 6 = .ok (.iadd, 1) := by decide +kernel
theorem d2_7 : decode c2 7 = .ok (.istore_n 3, 1) := by decide +kernel
theorem d2_8 : decode c2 8 = .ok (.iconst 0, 1) := by decide +kernel
theorem d2_9 : decode c2 9 = .ok (.iload_n 3, 1) := by decide +kernel
theorem d2_10 : decode c2 10 = .ok (.if_icmp .ge 11, 3) := by decide +kernel
theorem d2_13 : decode c2 13 = .ok (.iload_n 3, 1) := by decide +kernel
theorem d2_14 : decode c2 14 = .ok (.ldc 200, 2) := by decide +kernel
theorem d2_16 : decode c2 16 = .ok (.if_icmp .gt 5, 3) := by decide +kernel
theorem d2_19 : decode c2 19 = .ok (.iload_n 3, 1) := by decide +kernel
theorem d2_20 : decode c2 20 = .ok (.ireturn, 1) := by decide +kernel
theorem pn_newlen : plainFor (⟨"jdk/internal/util/ArraysSupport", "newLength", "(III)I"⟩ : MethodName) = true := plainFor_of_name (by first | (simp [plainName, overriddenIn]; done) | decide +kernel)
theorem pd0 : parseMethodDescriptor "(II)I" = some ⟨[.int, .int], some .int⟩ := by decide +kernel
theorem ef_newlen (m : MethodId) (x0 : Int32) (x1 : Int32) (x2 : Int32) : entryFrame m #[(.int x0), (.int x1), (.int x2)] 4 = mkF m 0 #[.val (.int x0), .val (.int x1), .val (.int x2), .unset] [] := by first | (simp [entryFrame, mkF, argsToLocals, Value.category]; done) | rfl
theorem rm_newlen (l : Launch) (Z : State) (a0 : Array Value) (hw : ∀ d ∈ tables_1, d.before a0 Z = true) (ws : List Jvm.Cond) (xa xg xq : Nat)  (h0 : Heap) (n0 : Nat) (O : Old Z n0 h0) (hy0 : xa < 500000000) (hy1 : xg < 500000000) (hy2 : xq < 500000000) (hy3 : 0 < xq) :
    MF l Z h0 (⟨"jdk/internal/util/ArraysSupport", "newLength", "(III)I"⟩ : MethodName) c2 4 (some .int) ws (rk 1 0 0 14) #[(.int (nI xa)), (.int (nI xg)), (.int (nI xq))] (Qpure (some (.int (nI (xa + max xg xq)))) h0 n0) := by
  refine sg n0 [] pn_newlen rfl (fun m => ef_newlen m (nI xa) (nI xg) (nI xq)) fun p e s m below meth c s₁ Bd hml hZ hh hx B hown hnm X0 e0 N K => ?_
  let LL1 : Array Slot := #[.val (.int (nI xa)), .val (.int (nI xg)), .val (.int (nI xq)), .unset]
  refine sI 1 X0 hx (B d2_0) rfl rfl ?_
  refine sI 2 X0 hx (B d2_1) rfl rfl ?_
  refine sI 3 X0 hx (B d2_2) rfl rfl ?_
  have hy2_0 : xg < 1073741824 := by omega
  have hy2_1 : xq < 1073741824 := by omega
  obtain ⟨v2, T2, Lc2, X2, hQ2, st2⟩ := cS LL1 [(.int (nI xa))] X0 hx hZ hown hw e0 hml 156 157 120 158 rfl rfl rfl rfl (by decide) (rm_max l Z a0 hw [] xg xq   h0 n0 O hy2_0 hy2_1) pd0 rfl rfl (B d2_3) rfl
  obtain ⟨rfl, Nq2, e2⟩ := hQ2
  replace N := Fr.app N Nq2
  refine gb m T2 6 LL1 [(.int (nI (max xg xq))), (.int (nI xa))] (st2) ?_
  refine gb m T2 7 LL1 [(.int ((nI xa) + (nI (max xg xq))))] (fun _ k => XS.iadd X2.here hx rfl (B d2_6) rfl k) ?_
  rw [show ((nI xa) + (nI (max xg xq))) = (nI (xa + (max xg xq))) from own_add _ _]
  let LL3 : Array Slot := #[.val (.int (nI xa)), .val (.int (nI xg)), .val (.int (nI xq)), .val (.int (nI (xa + (max xg xq))))]
  refine gb m T2 8 LL3 [] (fun _ k => XS.istoreN X2.here hx rfl (B d2_7) rfl (l' := LL3) rfl k) ?_
  refine sC 9 (0 : Int32) X2 hx (B d2_8) rfl rfl ?_
  refine sI 10 X2 hx (B d2_9) rfl rfl ?_
  refine gb m T2 13 LL3 [] (fun _ k => XS.icmpNo X2.here hx rfl (B d2_10) rfl (tlt ((own_nlt (a := 0) (b := (xa + (max xg xq))) (by omega) (by omega)).mpr (by omega))).2.1 k) ?_
  refine sI 14 X2 hx (B d2_13) rfl rfl ?_
  refine gb m T2 16 LL3 [(.int (2147483639 : Int32)), (.int (nI (xa + (max xg xq))))] (X2.ldcInt hx hown (mvT hZ (wv hw 159 rfl)) (g := (mkF m 14 LL3 [(.int (nI (xa + (max xg xq))))])) rfl (B d2_14)) ?_
  refine gb m T2 19 LL3 [] (fun _ k => XS.icmpNo X2.here hx rfl (B d2_16) rfl (flt (mt (own_nlt (a := 2147483639) (b := (xa + (max xg xq))) (by omega) (by omega)).mp (by omega))).2.2.1 k) ?_
  refine sI 20 X2 hx (B d2_19) rfl rfl ?_
  obtain ⟨fs, hr, hrun, hended, hW, hsame⟩ := X2.leave (v := some (.int (nI (xa + (max xg xq))))) (fun h => by rw [Bd.returns] at h; cases h)
  refine ⟨_, _, retOut X2 hx Bd.returns rfl (Or.inl ⟨rfl, Or.inl rfl, _, rfl⟩) (B d2_20) hr, hrun, hended, _, _, rfl, ?_, ⟨_, rfl⟩, hW, hsame.mono (by decide) (by decide)⟩
  show Qpure (some (.int (nI (xa + max xg xq)))) h0 n0 (some (.int (nI (xa + (max xg xq))))) T2.heap _
  rw [e2]
  exact ⟨rfl, N, rfl⟩

theorem d3_0 : decode c3 0 = .ok (.iload_n 1, 1) := by decide +kernel
theorem d3_1 : decode c3 1 = .ok (.iload_n 0, 1) := by decide +kernel
theorem d3_2 : decode c3 2 = .ok (.if_icmp .ge 35, 3) := by decide +kernel
theorem d3_37 : decode c3 37 = .ok (.return_, 1) := by decide +kernel
theorem pn_chk : plainFor (⟨"java/util/Arrays", "checkLength", "(II)V"⟩ : MethodName) = true := plainFor_of_name (by first | (simp [plainName, overriddenIn]; done) | decide +kernel)
theorem ef_chk (m : MethodId) (x0 : Int32) (x1 : Int32) : entryFrame m #[(.int x0), (.int x1)] 2 = mkF m 0 #[.val (.int x0), .val (.int x1)] [] := by first | (simp [entryFrame, mkF, argsToLocals, Value.category]; done) | rfl
theorem rm_chk (l : Launch) (Z : State) (a0 : Array Value) (hw : ∀ d ∈ tables_1, d.before a0 Z = true) (ws : List Jvm.Cond) (xa xb : Nat)  (h0 : Heap) (n0 : Nat) (O : Old Z n0 h0) (hy0 : xa ≤ xb) (hy1 : xb < 1073741824) :
    MF l Z h0 (⟨"java/util/Arrays", "checkLength", "(II)V"⟩ : MethodName) c3 2 none ws (rk 0 0 0 0) #[(.int (nI xa)), (.int (nI xb))] (Qpure none h0 n0) := by
  refine sg n0 [] pn_chk rfl (fun m => ef_chk m (nI xa) (nI xb)) fun p e s m below meth c s₁ Bd hml hZ hh hx B hown hnm X0 e0 N K => ?_
  let LL1 : Array Slot := #[.val (.int (nI xa)), .val (.int (nI xb))]
  refine sI 1 X0 hx (B d3_0) rfl rfl ?_
  refine sI 2 X0 hx (B d3_1) rfl rfl ?_
  refine gb m s₁ 37 LL1 [] (fun _ k => XS.icmpYes X0.here hx rfl (pc0 := 2) (pc' := 37) rfl (B d3_2) rfl (flt (mt (own_nlt (a := xb) (b := xa) (by omega) (by omega)).mp (by omega))).2.1 (by decide) (by decide) k) ?_
  obtain ⟨fs, hr, hrun, hended, hW, hsame⟩ := X0.leave (v := none) (fun _ => rfl)
  refine ⟨_, _, X0.returnOut hx Bd.returns (B d3_37) hr, hrun, hended, _, _, rfl, ?_, ⟨_, rfl⟩, hW, hsame.mono (by decide) (by decide)⟩
  show Qpure none h0 n0 (none) s₁.heap _
  rw [e0]
  exact ⟨rfl, N, rfl⟩

theorem d4_0 : decode c4 0 = .ok (.iload_n 0, 1) := by decide +kernel
theorem d4_1 : decode c4 1 = .ok (.ifCond .lt 8, 3) := by decide +kernel
theorem d4_4 : decode c4 4 = .ok (.iload_n 0, 1) := by decide +kernel
theorem d4_5 : decode c4 5 = .ok (.iload_n 1, 1) := by decide +kernel
theorem d4_6 : decode c4 6 = .ok (.if_icmp .lt 10, 3) := by decide +kernel
theorem d4_16 : decode c4 16 = .ok (.iload_n 0, 1) := by decide +kernel
theorem d4_17 : decode c4 17 = .ok (.ireturn, 1) := by decide +kernel
theorem pn_pci : plainFor (⟨"jdk/internal/util/Preconditions", "checkIndex", "(IILjava/util/function/BiFunction;)I"⟩ : MethodName) = true := plainFor_of_name (by first | (simp [plainName, overriddenIn]; done) | decide +kernel)
theorem ef_pci (m : MethodId) (x0 : Int32) (x1 : Int32) (x2 : Addr) : entryFrame m #[(.int x0), (.int x1), (.ref x2)] 3 = mkF m 0 #[.val (.int x0), .val (.int x1), .val (.ref x2)] [] := by first | (simp [entryFrame, mkF, argsToLocals, Value.category]; done) | rfl
theorem rm_pci (l : Launch) (Z : State) (a0 : Array Value) (hw : ∀ d ∈ tables_1, d.before a0 Z = true) (ws : List Jvm.Cond) (xi xn : Nat)  (fa : Addr) (h0 : Heap) (n0 : Nat) (O : Old Z n0 h0) (hy0 : xi < xn) (hy1 : xn < 1073741824) :
    MF l Z h0 (⟨"jdk/internal/util/Preconditions", "checkIndex", "(IILjava/util/function/BiFunction;)I"⟩ : MethodName) c4 3 (some .int) ws (rk 0 0 0 0) #[(.int (nI xi)), (.int (nI xn)), (.ref fa)] (Qpure (some (.int (nI (xi)))) h0 n0) := by
  refine sg n0 [] pn_pci rfl (fun m => ef_pci m (nI xi) (nI xn) fa) fun p e s m below meth c s₁ Bd hml hZ hh hx B hown hnm X0 e0 N K => ?_
  let LL1 : Array Slot := #[.val (.int (nI xi)), .val (.int (nI xn)), .val (.ref fa)]
  refine sI 1 X0 hx (B d4_0) rfl rfl ?_
  refine gb m s₁ 4 LL1 [] (fun _ k => XS.ifNo X0.here hx rfl (B d4_1) rfl ((if0 _ _).trans (flt (mt (own_nlt (a := xi) (b := 0) (by omega) (by omega)).mp (by omega))).1) k) ?_
  refine sI 5 X0 hx (B d4_4) rfl rfl ?_
  refine sI 6 X0 hx (B d4_5) rfl rfl ?_
  refine gb m s₁ 16 LL1 [] (fun _ k => XS.icmpYes X0.here hx rfl (pc0 := 6) (pc' := 16) rfl (B d4_6) rfl (tlt ((own_nlt (a := xi) (b := xn) (by omega) (by omega)).mpr (by omega))).1 (by decide) (by decide) k) ?_
  refine sI 17 X0 hx (B d4_16) rfl rfl ?_
  obtain ⟨fs, hr, hrun, hended, hW, hsame⟩ := X0.leave (v := some (.int (nI xi))) (fun h => by rw [Bd.returns] at h; cases h)
  refine ⟨_, _, retOut X0 hx Bd.returns rfl (Or.inl ⟨rfl, Or.inl rfl, _, rfl⟩) (B d4_17) hr, hrun, hended, _, _, rfl, ?_, ⟨_, rfl⟩, hW, hsame.mono (by decide) (by decide)⟩
  show Qpure (some (.int (nI (xi)))) h0 n0 (some (.int (nI xi))) s₁.heap _
  rw [e0]
  exact ⟨rfl, N, rfl⟩

theorem pn_pcin : plainFor (⟨"jdk/internal/util/Preconditions", "checkIndex", "(IILjava/util/function/BiFunction;)I"⟩ : MethodName) = true := plainFor_of_name (by first | (simp [plainName, overriddenIn]; done) | decide +kernel)
theorem ef_pcin (m : MethodId) (x0 : Int32) (x1 : Int32) : entryFrame m #[(.int x0), (.int x1), .null] 3 = mkF m 0 #[.val (.int x0), .val (.int x1), .val .null] [] := by first | (simp [entryFrame, mkF, argsToLocals, Value.category]; done) | rfl
theorem rm_pcin (l : Launch) (Z : State) (a0 : Array Value) (hw : ∀ d ∈ tables_1, d.before a0 Z = true) (ws : List Jvm.Cond) (xi xn : Nat)  (h0 : Heap) (n0 : Nat) (O : Old Z n0 h0) (hy0 : xi < xn) (hy1 : xn < 1073741824) :
    MF l Z h0 (⟨"jdk/internal/util/Preconditions", "checkIndex", "(IILjava/util/function/BiFunction;)I"⟩ : MethodName) c4 3 (some .int) ws (rk 0 0 0 0) #[(.int (nI xi)), (.int (nI xn)), .null] (Qpure (some (.int (nI (xi)))) h0 n0) := by
  refine sg n0 [] pn_pcin rfl (fun m => ef_pcin m (nI xi) (nI xn)) fun p e s m below meth c s₁ Bd hml hZ hh hx B hown hnm X0 e0 N K => ?_
  let LL1 : Array Slot := #[.val (.int (nI xi)), .val (.int (nI xn)), .val .null]
  refine sI 1 X0 hx (B d4_0) rfl rfl ?_
  refine gb m s₁ 4 LL1 [] (fun _ k => XS.ifNo X0.here hx rfl (B d4_1) rfl ((if0 _ _).trans (flt (mt (own_nlt (a := xi) (b := 0) (by omega) (by omega)).mp (by omega))).1) k) ?_
  refine sI 5 X0 hx (B d4_4) rfl rfl ?_
  refine sI 6 X0 hx (B d4_5) rfl rfl ?_
  refine gb m s₁ 16 LL1 [] (fun _ k => XS.icmpYes X0.here hx rfl (pc0 := 6) (pc' := 16) rfl (B d4_6) rfl (tlt ((own_nlt (a := xi) (b := xn) (by omega) (by omega)).mpr (by omega))).1 (by decide) (by decide) k) ?_
  refine sI 17 X0 hx (B d4_16) rfl rfl ?_
  obtain ⟨fs, hr, hrun, hended, hW, hsame⟩ := X0.leave (v := some (.int (nI xi))) (fun h => by rw [Bd.returns] at h; cases h)
  refine ⟨_, _, retOut X0 hx Bd.returns rfl (Or.inl ⟨rfl, Or.inl rfl, _, rfl⟩) (B d4_17) hr, hrun, hended, _, _, rfl, ?_, ⟨_, rfl⟩, hW, hsame.mono (by decide) (by decide)⟩
  show Qpure (some (.int (nI (xi)))) h0 n0 (some (.int (nI xi))) s₁.heap _
  rw [e0]
  exact ⟨rfl, N, rfl⟩

theorem d5_0 : decode c5 0 = .ok (.iload_n 0, 1) := by decide +kernel
theorem d5_1 : decode c5 1 = .ok (.ifCond .lt 13, 3) := by decide +kernel
theorem d5_4 : decode c5 4 = .ok (.iload_n 0, 1) := by decide +kernel
theorem d5_5 : decode c5 5 = .ok (.iload_n 1, 1) := by decide +kernel
theorem d5_6 : decode c5 6 = .ok (.if_icmp .gt 8, 3) := by decide +kernel
theorem d5_9 : decode c5 9 = .ok (.iload_n 1, 1) := by decide +kernel
theorem d5_10 : decode c5 10 = .ok (.iload_n 2, 1) := by decide +kernel
theorem d5_11 : decode c5 11 = .ok (.if_icmp .le 11, 3) := by decide +kernel
theorem d5_22 : decode c5 22 = .ok (.iload_n 0, 1) := by decide +kernel
theorem d5_23 : decode c5 23 = .ok (.ireturn, 1) := by decide +kernel
theorem pn_pft : plainFor (⟨"jdk/internal/util/Preconditions", "checkFromToIndex", "(IIILjava/util/function/BiFunction;)I"⟩ : MethodName) = true := plainFor_of_name (by first | (simp [plainName, overriddenIn]; done) | decide +kernel)
theorem ef_pft (m : MethodId) (x0 : Int32) (x1 : Int32) (x2 : Int32) (x3 : Addr) : entryFrame m #[(.int x0), (.int x1), (.int x2), (.ref x3)] 4 = mkF m 0 #[.val (.int x0), .val (.int x1), .val (.int x2), .val (.ref x3)] [] := by first | (simp [entryFrame, mkF, argsToLocals, Value.category]; done) | rfl
theorem rm_pft (l : Launch) (Z : State) (a0 : Array Value) (hw : ∀ d ∈ tables_1, d.before a0 Z = true) (ws : List Jvm.Cond) (xi xj xn : Nat)  (fa : Addr) (h0 : Heap) (n0 : Nat) (O : Old Z n0 h0) (hy0 : xi ≤ xj) (hy1 : xj ≤ xn) (hy2 : xn < 1073741824) :
    MF l Z h0 (⟨"jdk/internal/util/Preconditions", "checkFromToIndex", "(IIILjava/util/function/BiFunction;)I"⟩ : MethodName) c5 4 (some .int) ws (rk 0 0 0 0) #[(.int (nI xi)), (.int (nI xj)), (.int (nI xn)), (.ref fa)] (Qpure (some (.int (nI (xi)))) h0 n0) := by
  refine sg n0 [] pn_pft rfl (fun m => ef_pft m (nI xi) (nI xj) (nI xn) fa) fun p e s m below meth c s₁ Bd hml hZ hh hx B hown hnm X0 e0 N K => ?_
  let LL1 : Array Slot := #[.val (.int (nI xi)), .val (.int (nI xj)), .val (.int (nI xn)), .val (.ref fa)]
  refine sI 1 X0 hx (B d5_0) rfl rfl ?_
  refine gb m s₁ 4 LL1 [] (fun _ k => XS.ifNo X0.here hx rfl (B d5_1) rfl ((if0 _ _).trans (flt (mt (own_nlt (a := xi) (b := 0) (by omega) (by omega)).mp (by omega))).1) k) ?_
  refine sI 5 X0 hx (B d5_4) rfl rfl ?_
  refine sI 6 X0 hx (B d5_5) rfl rfl ?_
  refine gb m s₁ 9 LL1 [] (fun _ k => XS.icmpNo X0.here hx rfl (B d5_6) rfl (flt (mt (own_nlt (a := xj) (b := xi) (by omega) (by omega)).mp (by omega))).2.2.1 k) ?_
  refine sI 10 X0 hx (B d5_9) rfl rfl ?_
  refine sI 11 X0 hx (B d5_10) rfl rfl ?_
  refine gb m s₁ 22 LL1 [] (fun _ k => XS.icmpYes X0.here hx rfl (pc0 := 11) (pc' := 22) rfl (B d5_11) rfl (flt (mt (own_nlt (a := xn) (b := xj) (by omega) (by omega)).mp (by omega))).2.2.2 (by decide) (by decide) k) ?_
  refine sI 23 X0 hx (B d5_22) rfl rfl ?_
  obtain ⟨fs, hr, hrun, hended, hW, hsame⟩ := X0.leave (v := some (.int (nI xi))) (fun h => by rw [Bd.returns] at h; cases h)
  refine ⟨_, _, retOut X0 hx Bd.returns rfl (Or.inl ⟨rfl, Or.inl rfl, _, rfl⟩) (B d5_23) hr, hrun, hended, _, _, rfl, ?_, ⟨_, rfl⟩, hW, hsame.mono (by decide) (by decide)⟩
  show Qpure (some (.int (nI (xi)))) h0 n0 (some (.int (nI xi))) s₁.heap _
  rw [e0]
  exact ⟨rfl, N, rfl⟩

theorem pn_pftn : plainFor (⟨"jdk/internal/util/Preconditions", "checkFromToIndex", "(IIILjava/util/function/BiFunction;)I"⟩ : MethodName) = true := plainFor_of_name (by first | (simp [plainName, overriddenIn]; done) | decide +kernel)
theorem ef_pftn (m : MethodId) (x0 : Int32) (x1 : Int32) (x2 : Int32) : entryFrame m #[(.int x0), (.int x1), (.int x2), .null] 4 = mkF m 0 #[.val (.int x0), .val (.int x1), .val (.int x2), .val .null] [] := by first | (simp [entryFrame, mkF, argsToLocals, Value.category]; done) | rfl
theorem rm_pftn (l : Launch) (Z : State) (a0 : Array Value) (hw : ∀ d ∈ tables_1, d.before a0 Z = true) (ws : List Jvm.Cond) (xi xj xn : Nat)  (h0 : Heap) (n0 : Nat) (O : Old Z n0 h0) (hy0 : xi ≤ xj) (hy1 : xj ≤ xn) (hy2 : xn < 1073741824) :
    MF l Z h0 (⟨"jdk/internal/util/Preconditions", "checkFromToIndex", "(IIILjava/util/function/BiFunction;)I"⟩ : MethodName) c5 4 (some .int) ws (rk 0 0 0 0) #[(.int (nI xi)), (.int (nI xj)), (.int (nI xn)), .null] (Qpure (some (.int (nI (xi)))) h0 n0) := by
  refine sg n0 [] pn_pftn rfl (fun m => ef_pftn m (nI xi) (nI xj) (nI xn)) fun p e s m below meth c s₁ Bd hml hZ hh hx B hown hnm X0 e0 N K => ?_
  let LL1 : Array Slot := #[.val (.int (nI xi)), .val (.int (nI xj)), .val (.int (nI xn)), .val .null]
  refine sI 1 X0 hx (B d5_0) rfl rfl ?_
  refine gb m s₁ 4 LL1 [] (fun _ k => XS.ifNo X0.here hx rfl (B d5_1) rfl ((if0 _ _).trans (flt (mt (own_nlt (a := xi) (b := 0) (by omega) (by omega)).mp (by omega))).1) k) ?_
  refine sI 5 X0 hx (B d5_4) rfl rfl ?_
  refine sI 6 X0 hx (B d5_5) rfl rfl ?_
  refine gb m s₁ 9 LL1 [] (fun _ k => XS.icmpNo X0.here hx rfl (B d5_6) rfl (flt (mt (own_nlt (a := xj) (b := xi) (by omega) (by omega)).mp (by omega))).2.2.1 k) ?_
  refine sI 10 X0 hx (B d5_9) rfl rfl ?_
  refine sI 11 X0 hx (B d5_10) rfl rfl ?_
  refine gb m s₁ 22 LL1 [] (fun _ k => XS.icmpYes X0.here hx rfl (pc0 := 11) (pc' := 22) rfl (B d5_11) rfl (flt (mt (own_nlt (a := xn) (b := xj) (by omega) (by omega)).mp (by omega))).2.2.2 (by decide) (by decide) k) ?_
  refine sI 23 X0 hx (B d5_22) rfl rfl ?_
  obtain ⟨fs, hr, hrun, hended, hW, hsame⟩ := X0.leave (v := some (.int (nI xi))) (fun h => by rw [Bd.returns] at h; cases h)
  refine ⟨_, _, retOut X0 hx Bd.returns rfl (Or.inl ⟨rfl, Or.inl rfl, _, rfl⟩) (B d5_23) hr, hrun, hended, _, _, rfl, ?_, ⟨_, rfl⟩, hW, hsame.mono (by decide) (by decide)⟩
  show Qpure (some (.int (nI (xi)))) h0 n0 (some (.int (nI xi))) s₁.heap _
  rw [e0]
  exact ⟨rfl, N, rfl⟩

theorem d6_0 : decode c6 0 = .ok (.iload_n 2, 1) := by decide +kernel
theorem d6_1 : decode c6 1 = .ok (.iload_n 0, 1) := by decide +kernel
theorem d6_2 : decode c6 2 = .ok (.ior, 1) := by decide +kernel
theorem d6_3 : decode c6 3 = .ok (.iload_n 1, 1) := by decide +kernel
theorem d6_4 : decode c6 4 = .ok (.ior, 1) := by decide +kernel
theorem d6_5 : decode c6 5 = .ok (.ifCond .lt 10, 3) := by decide +kernel
theorem d6_8 : decode c6 8 = .ok (.iload_n 1, 1) := by decide +kernel
theorem d6_9 : decode c6 9 = .ok (.iload_n 2, 1) := by decide +kernel
theorem d6_10 : decode c6 10 = .ok (.iload_n 0, 1) := by decide +kernel
theorem d6_11 : decode c6 11 = .ok (.isub, 1) := by decide +kernel
theorem d6_12 : decode c6 12 = .ok (.if_icmp .le 11, 3) := by decide +kernel
theorem d6_23 : decode c6 23 = .ok (.iload_n 0, 1) := by decide +kernel
theorem d6_24 : decode c6 24 = .ok (.ireturn, 1) := by decide +kernel
theorem pn_pfs : plainFor (⟨"jdk/internal/util/Preconditions", "checkFromIndexSize", "(IIILjava/util/function/BiFunction;)I"⟩ : MethodName) = true := plainFor_of_name (by first | (simp [plainName, overriddenIn]; done) | decide +kernel)
theorem ef_pfs (m : MethodId) (x0 : Int32) (x1 : Int32) (x2 : Int32) (x3 : Addr) : entryFrame m #[(.int x0), (.int x1), (.int x2), (.ref x3)] 4 = mkF m 0 #[.val (.int x0), .val (.int x1), .val (.int x2), .val (.ref x3)] [] := by first | (simp [entryFrame, mkF, argsToLocals, Value.category]; done) | rfl
theorem rm_pfs (l : Launch) (Z : State) (a0 : Array Value) (hw : ∀ d ∈ tables_1, d.before a0 Z = true) (ws : List Jvm.Cond) (xi xj xn : Nat)  (fa : Addr) (h0 : Heap) (n0 : Nat) (O : Old Z n0 h0) (hy0 : xi + xj ≤ xn) (hy1 : xn < 1073741824) :
    MF l Z h0 (⟨"jdk/internal/util/Preconditions", "checkFromIndexSize", "(IIILjava/util/function/BiFunction;)I"⟩ : MethodName) c6 4 (some .int) ws (rk 0 0 0 0) #[(.int (nI xi)), (.int (nI xj)), (.int (nI xn)), (.ref fa)] (Qpure (some (.int (nI (xi)))) h0 n0) := by
  refine sg n0 [] pn_pfs rfl (fun m => ef_pfs m (nI xi) (nI xj) (nI xn) fa) fun p e s m below meth c s₁ Bd hml hZ hh hx B hown hnm X0 e0 N K => ?_
  let LL1 : Array Slot := #[.val (.int (nI xi)), .val (.int (nI xj)), .val (.int (nI xn)), .val (.ref fa)]
  refine sI 1 X0 hx (B d6_0) rfl rfl ?_
  refine sI 2 X0 hx (B d6_1) rfl rfl ?_
  refine gb m s₁ 3 LL1 [(.int ((nI xn) ||| (nI xi)))] (fun _ k => XS.ior X0.here hx rfl (B d6_2) rfl k) ?_
  refine sI 4 X0 hx (B d6_3) rfl rfl ?_
  refine gb m s₁ 5 LL1 [(.int (((nI xn) ||| (nI xi)) ||| (nI xj)))] (fun _ k => XS.ior X0.here hx rfl (B d6_4) rfl k) ?_
  refine gb m s₁ 8 LL1 [] (fun _ k => XS.ifNo X0.here hx rfl (B d6_5) rfl ((if0 _ _).trans (flt (own_or3 (a := xn) (b := xi) (c := xj) (by omega) (by omega) (by omega))).1) k) ?_
  refine sI 9 X0 hx (B d6_8) rfl rfl ?_
  refine sI 10 X0 hx (B d6_9) rfl rfl ?_
  refine sI 11 X0 hx (B d6_10) rfl rfl ?_
  refine gb m s₁ 12 LL1 [(.int ((nI xn) - (nI xi))), (.int (nI xj))] (fun _ k => XS.isub X0.here hx rfl (B d6_11) rfl k) ?_
  rw [show ((nI xn) - (nI xi)) = (nI (xn - xi)) from own_sub (by omega)]
  refine gb m s₁ 23 LL1 [] (fun _ k => XS.icmpYes X0.here hx rfl (pc0 := 12) (pc' := 23) rfl (B d6_12) rfl (flt (mt (own_nlt (a := (xn - xi)) (b := xj) (by omega) (by omega)).mp (by omega))).2.2.2 (by decide) (by decide) k) ?_
  refine sI 24 X0 hx (B d6_23) rfl rfl ?_
  obtain ⟨fs, hr, hrun, hended, hW, hsame⟩ := X0.leave (v := some (.int (nI xi))) (fun h => by rw [Bd.returns] at h; cases h)
  refine ⟨_, _, retOut X0 hx Bd.returns rfl (Or.inl ⟨rfl, Or.inl rfl, _, rfl⟩) (B d6_24) hr, hrun, hended, _, _, rfl, ?_, ⟨_, rfl⟩, hW, hsame.mono (by decide) (by decide)⟩
  show Qpure (some (.int (nI (xi)))) h0 n0 (some (.int (nI xi))) s₁.heap _
  rw [e0]
  exact ⟨rfl, N, rfl⟩

theorem pn_pfsn : plainFor (⟨"jdk/internal/util/Preconditions", "checkFromIndexSize", "(IIILjava/util/function/BiFunction;)I"⟩ : MethodName) = true := plainFor_of_name (by first | (simp [plainName, overriddenIn]; done) | decide +kernel)
theorem ef_pfsn (m : MethodId) (x0 : Int32) (x1 : Int32) (x2 : Int32) : entryFrame m #[(.int x0), (.int x1), (.int x2), .null] 4 = mkF m 0 #[.val (.int x0), .val (.int x1), .val (.int x2), .val .null] [] := by first | (simp [entryFrame, mkF, argsToLocals, Value.category]; done) | rfl
theorem rm_pfsn (l : Launch) (Z : State) (a0 : Array Value) (hw : ∀ d ∈ tables_1, d.before a0 Z = true) (ws : List Jvm.Cond) (xi xj xn : Nat)  (h0 : Heap) (n0 : Nat) (O : Old Z n0 h0) (hy0 : xi + xj ≤ xn) (hy1 : xn < 1073741824) :
    MF l Z h0 (⟨"jdk/internal/util/Preconditions", "checkFromIndexSize", "(IIILjava/util/function/BiFunction;)I"⟩ : MethodName) c6 4 (some .int) ws (rk 0 0 0 0) #[(.int (nI xi)), (.int (nI xj)), (.int (nI xn)), .null] (Qpure (some (.int (nI (xi)))) h0 n0) := by
  refine sg n0 [] pn_pfsn rfl (fun m => ef_pfsn m (nI xi) (nI xj) (nI xn)) fun p e s m below meth c s₁ Bd hml hZ hh hx B hown hnm X0 e0 N K => ?_
  let LL1 : Array Slot := #[.val (.int (nI xi)), .val (.int (nI xj)), .val (.int (nI xn)), .val .null]
  refine sI 1 X0 hx (B d6_0) rfl rfl ?_
  refine sI 2 X0 hx (B d6_1) rfl rfl ?_
  refine gb m s₁ 3 LL1 [(.int ((nI xn) ||| (nI xi)))] (fun _ k => XS.ior X0.here hx rfl (B d6_2) rfl k) ?_
  refine sI 4 X0 hx (B d6_3) rfl rfl ?_
  refine gb m s₁ 5 LL1 [(.int (((nI xn) ||| (nI xi)) ||| (nI xj)))] (fun _ k => XS.ior X0.here hx rfl (B d6_4) rfl k) ?_
  refine gb m s₁ 8 LL1 [] (fun _ k => XS.ifNo X0.here hx rfl (B d6_5) rfl ((if0 _ _).trans (flt (own_or3 (a := xn) (b := xi) (c := xj) (by omega) (by omega) (by omega))).1) k) ?_
  refine sI 9 X0 hx (B d6_8) rfl rfl ?_
  refine sI 10 X0 hx (B d6_9) rfl rfl ?_
  refine sI 11 X0 hx (B d6_10) rfl rfl ?_
  refine gb m s₁ 12 LL1 [(.int ((nI xn) - (nI xi))), (.int (nI xj))] (fun _ k => XS.isub X0.here hx rfl (B d6_11) rfl k) ?_
  rw [show ((nI xn) - (nI xi)) = (nI (xn - xi)) from own_sub (by omega)]
  refine gb m s₁ 23 LL1 [] (fun _ k => XS.icmpYes X0.here hx rfl (pc0 := 12) (pc' := 23) rfl (B d6_12) rfl (flt (mt (own_nlt (a := (xn - xi)) (b := xj) (by omega) (by omega)).mp (by omega))).2.2.2 (by decide) (by decide) k) ?_
  refine sI 24 X0 hx (B d6_23) rfl rfl ?_
  obtain ⟨fs, hr, hrun, hended, hW, hsame⟩ := X0.leave (v := some (.int (nI xi))) (fun h => by rw [Bd.returns] at h; cases h)
  refine ⟨_, _, retOut X0 hx Bd.returns rfl (Or.inl ⟨rfl, Or.inl rfl, _, rfl⟩) (B d6_24) hr, hrun, hended, _, _, rfl, ?_, ⟨_, rfl⟩, hW, hsame.mono (by decide) (by decide)⟩
  show Qpure (some (.int (nI (xi)))) h0 n0 (some (.int (nI xi))) s₁.heap _
  rw [e0]
  exact ⟨rfl, N, rfl⟩

theorem d7_0 : decode c7 0 = .ok (.iload_n 0, 1) := by decide +kernel
theorem d7_1 : decode c7 1 = .ok (.iload_n 1, 1) := by decide +kernel
theorem d7_2 : decode c7 2 = .ok (.getstatic 1053, 3) := by decide +kernel
theorem d7_5 : decode c7 5 = .ok (.invokestatic 1059, 3) := by decide +kernel
theorem d7_8 : decode c7 8 = .ok (.pop, 1) := by decide +kernel
theorem d7_9 : decode c7 9 = .ok (.return_, 1) := by decide +kernel
theorem pn_sci : plainFor (⟨"java/lang/String", "checkIndex", "(II)V"⟩ : MethodName) = true := plainFor_of_name (by first | (simp [plainName, overriddenIn]; done) | decide +kernel)
theorem pd1 : parseMethodDescriptor "(IILjava/util/function/BiFunction;)I" = some ⟨[.int, .int, (.object "java/util/function/BiFunction")], some .int⟩ := by decide +kernel
theorem ef_sci (m : MethodId) (x0 : Int32) (x1 : Int32) : entryFrame m #[(.int x0), (.int x1)] 2 = mkF m 0 #[.val (.int x0), .val (.int x1)] [] := by first | (simp [entryFrame, mkF, argsToLocals, Value.category]; done) | rfl
theorem rm_sci (l : Launch) (Z : State) (a0 : Array Value) (hw : ∀ d ∈ tables_1, d.before a0 Z = true) (ws : List Jvm.Cond) (xi xn : Nat) (zc : Int32) (fm : Value) (hS0 : Sf Z zc fm) (h0 : Heap) (n0 : Nat) (O : Old Z n0 h0) (hy0 : xi < xn) (hy1 : xn < 1073741824) :
    MF l Z h0 (⟨"java/lang/String", "checkIndex", "(II)V"⟩ : MethodName) c7 2 none ws (rk 1 0 0 14) #[(.int (nI xi)), (.int (nI xn))] (Qpure none h0 n0) := by
  refine sg n0 [] pn_sci rfl (fun m => ef_sci m (nI xi) (nI xn)) fun p e s m below meth c s₁ Bd hml hZ hh hx B hown hnm X0 e0 N K => ?_
  let LL1 : Array Slot := #[.val (.int (nI xi)), .val (.int (nI xn))]
  refine sI 1 X0 hx (B d7_0) rfl rfl ?_
  refine sI 2 X0 hx (B d7_1) rfl rfl ?_
  rcases own_ref hS0.2.2.2.1 with ⟨fa, rfl⟩ | rfl
  ·
   obtain ⟨T2, X2, e2, st2⟩ := getS2 X0 hx hZ hown (host := "") (Or.inl (wv hw 63 rfl)) Via.refl e0 (Sta.ext O.2 hS0.2.2.1) (g := (mkF m 2 LL1 [(.int (nI xn)), (.int (nI xi))])) rfl (B d7_2)
   refine gb m T2 5 LL1 [(.ref fa), (.int (nI xn)), (.int (nI xi))] (st2) ?_
   have hy3_0 : xi < xn := by omega
   have hy3_1 : xn < 1073741824 := by omega
   obtain ⟨v3, T3, Lc3, X3, hQ3, st3⟩ := cS LL1 [] X2 hx hZ hown hw e2 hml 65 66 64 67 rfl rfl rfl rfl (by decide) (rm_pci l Z a0 hw [] xi xn  fa h0 n0 O hy3_0 hy3_1) pd1 rfl rfl (B d7_5) rfl
   obtain ⟨rfl, Nq3, e3⟩ := hQ3
   replace N := Fr.app N Nq3
   refine gb m T3 8 LL1 [(.int (nI (xi)))] (st3) ?_
   refine gb m T3 9 LL1 [] (fun _ k => XS.pop X3.here hx rfl (B d7_8) rfl rfl k) ?_
   obtain ⟨fs, hr, hrun, hended, hW, hsame⟩ := X3.leave (v := none) (fun _ => rfl)
   refine ⟨_, _, X3.returnOut hx Bd.returns (B d7_9) hr, hrun, hended, _, _, rfl, ?_, ⟨_, rfl⟩, hW, hsame.mono (by decide) (by decide)⟩
   show Qpure none h0 n0 (none) T3.heap _
   rw [e3]
   exact ⟨rfl, N, rfl⟩
  ·
   obtain ⟨T4, X4, e4, st4⟩ := getS2 X0 hx hZ hown (host := "") (Or.inl (wv hw 63 rfl)) Via.refl e0 (Sta.ext O.2 hS0.2.2.1) (g := (mkF m 2 LL1 [(.int (nI xn)), (.int (nI xi))])) rfl (B d7_2)
   refine gb m T4 5 LL1 [.null, (.int (nI xn)), (.int (nI xi))] (st4) ?_
   have hy5_0 : xi < xn := by omega
   have hy5_1 : xn < 1073741824 := by omega
   obtain ⟨v5, T5, Lc5, X5, hQ5, st5⟩ := cS LL1 [] X4 hx hZ hown hw e4 hml 65 66 64 67 rfl rfl rfl rfl (by decide) (rm_pcin l Z a0 hw [] xi xn   h0 n0 O hy5_0 hy5_1) pd1 rfl rfl (B d7_5) rfl
   obtain ⟨rfl, Nq5, e5⟩ := hQ5
   replace N := Fr.app N Nq5
   refine gb m T5 8 LL1 [(.int (nI (xi)))] (st5) ?_
   refine gb m T5 9 LL1 [] (fun _ k => XS.pop X5.here hx rfl (B d7_8) rfl rfl k) ?_
   obtain ⟨fs, hr, hrun, hended, hW, hsame⟩ := X5.leave (v := none) (fun _ => rfl)
   refine ⟨_, _, X5.returnOut hx Bd.returns (B d7_9) hr, hrun, hended, _, _, rfl, ?_, ⟨_, rfl⟩, hW, hsame.mono (by decide) (by decide)⟩
   show Qpure none h0 n0 (none) T5.heap _
   rw [e5]
   exact ⟨rfl, N, rfl⟩

theorem d8_0 : decode c8 0 = .ok (.iload_n 0, 1) := by decide +kernel
theorem d8_1 : decode c8 1 = .ok (.iload_n 1, 1) := by decide +kernel
theorem d8_2 : decode c8 2 = .ok (.iload_n 2, 1) := by decide +kernel
theorem d8_3 : decode c8 3 = .ok (.getstatic 1053, 3) := by decide +kernel
theorem d8_6 : decode c8 6 = .ok (.invokestatic 1062, 3) := by decide +kernel
theorem d8_9 : decode c8 9 = .ok (.pop, 1) := by decide +kernel
theorem d8_10 : decode c8 10 = .ok (.return_, 1) := by decide +kernel
theorem pn_cbe : plainFor (⟨"java/lang/String", "checkBoundsBeginEnd", "(III)V"⟩ : MethodName) = true := plainFor_of_name (by first | (simp [plainName, overriddenIn]; done) | decide +kernel)
theorem pd2 : parseMethodDescriptor "(IIILjava/util/function/BiFunction;)I" = some ⟨[.int, .int, .int, (.object "java/util/function/BiFunction")], some .int⟩ := by decide +kernel
theorem ef_cbe (m : MethodId) (x0 : Int32) (x1 : Int32) (x2 : Int32) : entryFrame m #[(.int x0), (.int x1), (.int x2)] 3 = mkF m 0 #[.val (.int x0), .val (.int x1), .val (.int x2)] [] := by first | (simp [entryFrame, mkF, argsToLocals, Value.category]; done) | rfl
theorem rm_cbe (l : Launch) (Z : State) (a0 : Array Value) (hw : ∀ d ∈ tables_1, d.before a0 Z = true) (ws : List Jvm.Cond) (xi xj xn : Nat) (zc : Int32) (fm : Value) (hS0 : Sf Z zc fm) (h0 : Heap) (n0 : Nat) (O : Old Z n0 h0) (hy0 : xi ≤ xj) (hy1 : xj ≤ xn) (hy2 : xn < 1073741824) :
    MF l Z h0 (⟨"java/lang/String", "checkBoundsBeginEnd", "(III)V"⟩ : MethodName) c8 3 none ws (rk 1 0 0 15) #[(.int (nI xi)), (.int (nI xj)), (.int (nI xn))] (Qpure none h0 n0) := by
  refine sg n0 [] pn_cbe rfl (fun m => ef_cbe m (nI xi) (nI xj) (nI xn)) fun p e s m below meth c s₁ Bd hml hZ hh hx B hown hnm X0 e0 N K => ?_
  let LL1 : Array Slot := #[.val (.int (nI xi)), .val (.int (nI xj)), .val (.int (nI xn))]
  refine sI 1 X0 hx (B d8_0) rfl rfl ?_
  refine sI 2 X0 hx (B d8_1) rfl rfl ?_
  refine sI 3 X0 hx (B d8_2) rfl rfl ?_
  rcases own_ref hS0.2.2.2.1 with ⟨fa, rfl⟩ | rfl
  ·
   obtain ⟨T2, X2, e2, st2⟩ := getS2 X0 hx hZ hown (host := "") (Or.inl (wv hw 63 rfl)) Via.refl e0 (Sta.ext O.2 hS0.2.2.1) (g := (mkF m 3 LL1 [(.int (nI xn)), (.int (nI xj)), (.int (nI xi))])) rfl (B d8_3)
   refine gb m T2 6 LL1 [(.ref fa), (.int (nI xn)), (.int (nI xj)), (.int (nI xi))] (st2) ?_
   have hy3_0 : xi ≤ xj := by omega
   have hy3_1 : xj ≤ xn := by omega
   have hy3_2 : xn < 1073741824 := by omega
   obtain ⟨v3, T3, Lc3, X3, hQ3, st3⟩ := cS LL1 [] X2 hx hZ hown hw e2 hml 100 101 64 102 rfl rfl rfl rfl (by decide) (rm_pft l Z a0 hw [] xi xj xn  fa h0 n0 O hy3_0 hy3_1 hy3_2) pd2 rfl rfl (B d8_6) rfl
   obtain ⟨rfl, Nq3, e3⟩ := hQ3
   replace N := Fr.app N Nq3
   refine gb m T3 9 LL1 [(.int (nI (xi)))] (st3) ?_
   refine gb m T3 10 LL1 [] (fun _ k => XS.pop X3.here hx rfl (B d8_9) rfl rfl k) ?_
   obtain ⟨fs, hr, hrun, hended, hW, hsame⟩ := X3.leave (v := none) (fun _ => rfl)
   refine ⟨_, _, X3.returnOut hx Bd.returns (B d8_10) hr, hrun, hended, _, _, rfl, ?_, ⟨_, rfl⟩, hW, hsame.mono (by decide) (by decide)⟩
   show Qpure none h0 n0 (none) T3.heap _
   rw [e3]
   exact ⟨rfl, N, rfl⟩
  ·
   obtain ⟨T4, X4, e4, st4⟩ := getS2 X0 hx hZ hown (host := "") (Or.inl (wv hw 63 rfl)) Via.refl e0 (Sta.ext O.2 hS0.2.2.1) (g := (mkF m 3 LL1 [(.int (nI xn)), (.int (nI xj)), (.int (nI xi))])) rfl (B d8_3)
   refine gb m T4 6 LL1 [.null, (.int (nI xn)), (.int (nI xj)), (.int (nI xi))] (st4) ?_
   have hy5_0 : xi ≤ xj := by omega
   have hy5_1 : xj ≤ xn := by omega
   have hy5_2 : xn < 1073741824 := by omega
   obtain ⟨v5, T5, Lc5, X5, hQ5, st5⟩ := cS LL1 [] X4 hx hZ hown hw e4 hml 100 101 64 102 rfl rfl rfl rfl (by decide) (rm_pftn l Z a0 hw [] xi xj xn   h0 n0 O hy5_0 hy5_1 hy5_2) pd2 rfl rfl (B d8_6) rfl
   obtain ⟨rfl, Nq5, e5⟩ := hQ5
   replace N := Fr.app N Nq5
   refine gb m T5 9 LL1 [(.int (nI (xi)))] (st5) ?_
   refine gb m T5 10 LL1 [] (fun _ k => XS.pop X5.here hx rfl (B d8_9) rfl rfl k) ?_
   obtain ⟨fs, hr, hrun, hended, hW, hsame⟩ := X5.leave (v := none) (fun _ => rfl)
   refine ⟨_, _, X5.returnOut hx Bd.returns (B d8_10) hr, hrun, hended, _, _, rfl, ?_, ⟨_, rfl⟩, hW, hsame.mono (by decide) (by decide)⟩
   show Qpure none h0 n0 (none) T5.heap _
   rw [e5]
   exact ⟨rfl, N, rfl⟩

theorem d9_0 : decode c9 0 = .ok (.iload_n 0, 1) := by decide +kernel
theorem d9_1 : decode c9 1 = .ok (.iload_n 1, 1) := by decide +kernel
theorem d9_2 : decode c9 2 = .ok (.iload_n 2, 1) := by decide +kernel
theorem d9_3 : decode c9 3 = .ok (.getstatic 1053, 3) := by decide +kernel
theorem d9_6 : decode c9 6 = .ok (.invokestatic 1065, 3) := by decide +kernel
theorem d9_9 : decode c9 9 = .ok (.ireturn, 1) := by decide +kernel
theorem pn_sbo : plainFor (⟨"java/lang/String", "checkBoundsOffCount", "(III)I"⟩ : MethodName) = true := plainFor_of_name (by first | (simp [plainName, overriddenIn]; done) | decide +kernel)
theorem ef_sbo (m : MethodId) (x0 : Int32) (x1 : Int32) (x2 : Int32) : entryFrame m #[(.int x0), (.int x1), (.int x2)] 3 = mkF m 0 #[.val (.int x0), .val (.int x1), .val (.int x2)] [] := by first | (simp [entryFrame, mkF, argsToLocals, Value.category]; done) | rfl
theorem rm_sbo (l : Launch) (Z : State) (a0 : Array Value) (hw : ∀ d ∈ tables_1, d.before a0 Z = true) (ws : List Jvm.Cond) (xi xj xn : Nat) (zc : Int32) (fm : Value) (hS0 : Sf Z zc fm) (h0 : Heap) (n0 : Nat) (O : Old Z n0 h0) (hy0 : xi + xj ≤ xn) (hy1 : xn < 1073741824) :
    MF l Z h0 (⟨"java/lang/String", "checkBoundsOffCount", "(III)I"⟩ : MethodName) c9 3 (some .int) ws (rk 1 0 0 15) #[(.int (nI xi)), (.int (nI xj)), (.int (nI xn))] (Qpure (some (.int (nI (xi)))) h0 n0) := by
  refine sg n0 [] pn_sbo rfl (fun m => ef_sbo m (nI xi) (nI xj) (nI xn)) fun p e s m below meth c s₁ Bd hml hZ hh hx B hown hnm X0 e0 N K => ?_
  let LL1 : Array Slot := #[.val (.int (nI xi)), .val (.int (nI xj)), .val (.int (nI xn))]
  refine sI 1 X0 hx (B d9_0) rfl rfl ?_
  refine sI 2 X0 hx (B d9_1) rfl rfl ?_
  refine sI 3 X0 hx (B d9_2) rfl rfl ?_
  rcases own_ref hS0.2.2.2.1 with ⟨fa, rfl⟩ | rfl
  ·
   obtain ⟨T2, X2, e2, st2⟩ := getS2 X0 hx hZ hown (host := "") (Or.inl (wv hw 63 rfl)) Via.refl e0 (Sta.ext O.2 hS0.2.2.1) (g := (mkF m 3 LL1 [(.int (nI xn)), (.int (nI xj)), (.int (nI xi))])) rfl (B d9_3)
   refine gb m T2 6 LL1 [(.ref fa), (.int (nI xn)), (.int (nI xj)), (.int (nI xi))] (st2) ?_
   have hy3_0 : xi + xj ≤ xn := by omega
   have hy3_1 : xn < 1073741824 := by omega
   obtain ⟨v3, T3, Lc3, X3, hQ3, st3⟩ := cS LL1 [] X2 hx hZ hown hw e2 hml 290 291 64 292 rfl rfl rfl rfl (by decide) (rm_pfs l Z a0 hw [] xi xj xn  fa h0 n0 O hy3_0 hy3_1) pd2 rfl rfl (B d9_6) rfl
   obtain ⟨rfl, Nq3, e3⟩ := hQ3
   replace N := Fr.app N Nq3
   refine gb m T3 9 LL1 [(.int (nI (xi)))] (st3) ?_
   obtain ⟨fs, hr, hrun, hended, hW, hsame⟩ := X3.leave (v := some (.int (nI (xi)))) (fun h => by rw [Bd.returns] at h; cases h)
   refine ⟨_, _, retOut X3 hx Bd.returns rfl (Or.inl ⟨rfl, Or.inl rfl, _, rfl⟩) (B d9_9) hr, hrun, hended, _, _, rfl, ?_, ⟨_, rfl⟩, hW, hsame.mono (by decide) (by decide)⟩
   show Qpure (some (.int (nI (xi)))) h0 n0 (some (.int (nI (xi)))) T3.heap _
   rw [e3]
   exact ⟨rfl, N, rfl⟩
  ·
   obtain ⟨T4, X4, e4, st4⟩ := getS2 X0 hx hZ hown (host := "") (Or.inl (wv hw 63 rfl)) Via.refl e0 (Sta.ext O.2 hS0.2.2.1) (g := (mkF m 3 LL1 [(.int (nI xn)), (.int (nI xj)), (.int (nI xi))])) rfl (B d9_3)
   refine gb m T4 6 LL1 [.null, (.int (nI xn)), (.int (nI xj)), (.int (nI xi))] (st4) ?_
   have hy5_0 : xi + xj ≤ xn := by omega
   have hy5_1 : xn < 1073741824 := by omega
   obtain ⟨v5, T5, Lc5, X5, hQ5, st5⟩ := cS LL1 [] X4 hx hZ hown hw e4 hml 290 291 64 292 rfl rfl rfl rfl (by decide) (rm_pfsn l Z a0 hw [] xi xj xn   h0 n0 O hy5_0 hy5_1) pd2 rfl rfl (B d9_6) rfl
   obtain ⟨rfl, Nq5, e5⟩ := hQ5
   replace N := Fr.app N Nq5
   refine gb m T5 9 LL1 [(.int (nI (xi)))] (st5) ?_
   obtain ⟨fs, hr, hrun, hended, hW, hsame⟩ := X5.leave (v := some (.int (nI (xi)))) (fun h => by rw [Bd.returns] at h; cases h)
   refine ⟨_, _, retOut X5 hx Bd.returns rfl (Or.inl ⟨rfl, Or.inl rfl, _, rfl⟩) (B d9_9) hr, hrun, hended, _, _, rfl, ?_, ⟨_, rfl⟩, hW, hsame.mono (by decide) (by decide)⟩
   show Qpure (some (.int (nI (xi)))) h0 n0 (some (.int (nI (xi)))) T5.heap _
   rw [e5]
   exact ⟨rfl, N, rfl⟩

theorem d10_0 : decode c10 0 = .ok (.iload_n 0, 1) := by decide +kernel
theorem d10_1 : decode c10 1 = .ok (.ifCond .ge 11, 3) := by decide +kernel
theorem d10_12 : decode c10 12 = .ok (.iload_n 0, 1) := by decide +kernel
theorem d10_13 : decode c10 13 = .ok (.ldc 20, 2) := by decide +kernel
theorem d10_15 : decode c10 15 = .ok (.if_icmp .lt 40, 3) := by decide +kernel
theorem d10_55 : decode c10 55 = .ok (.iload_n 0, 1) := by decide +kernel
theorem d10_56 : decode c10 56 = .ok (.iconst 1, 1) := by decide +kernel
theorem d10_57 : decode c10 57 = .ok (.ishl, 1) := by decide +kernel
theorem d10_58 : decode c10 58 = .ok (.ireturn, 1) := by decide +kernel
theorem pn_nbl : plainFor (⟨"java/lang/StringUTF16", "newBytesLength", "(I)I"⟩ : MethodName) = true := plainFor_of_name (by first | (simp [plainName, overriddenIn]; done) | decide +kernel)
theorem ef_nbl (m : MethodId) (x0 : Int32) : entryFrame m #[(.int x0)] 1 = mkF m 0 #[.val (.int x0)] [] := by first | (simp [entryFrame, mkF, argsToLocals, Value.category]; done) | rfl
theorem rm_nbl (l : Launch) (Z : State) (a0 : Array Value) (hw : ∀ d ∈ tables_1, d.before a0 Z = true) (ws : List Jvm.Cond) (xn : Nat)  (h0 : Heap) (n0 : Nat) (O : Old Z n0 h0) (hy0 : xn < 100000) :
    MF l Z h0 (⟨"java/lang/StringUTF16", "newBytesLength", "(I)I"⟩ : MethodName) c10 1 (some .int) ws (rk 0 0 0 0) #[(.int (nI xn))] (Qpure (some (.int (nI (2 * xn)))) h0 n0) := by
  refine sg n0 [] pn_nbl rfl (fun m => ef_nbl m (nI xn)) fun p e s m below meth c s₁ Bd hml hZ hh hx B hown hnm X0 e0 N K => ?_
  let LL1 : Array Slot := #[.val (.int (nI xn))]
  refine sI 1 X0 hx (B d10_0) rfl rfl ?_
  refine gb m s₁ 12 LL1 [] (fun _ k => XS.ifYes X0.here hx rfl (pc0 := 1) (pc' := 12) rfl (B d10_1) rfl ((if0 _ _).trans (flt (mt (own_nlt (a := xn) (b := 0) (by omega) (by omega)).mp (by omega))).2.1) (by decide) (by decide) k) ?_
  refine sI 13 X0 hx (B d10_12) rfl rfl ?_
  refine gb m s₁ 15 LL1 [(.int (1073741823 : Int32)), (.int (nI xn))] (X0.ldcInt hx hown (mvT hZ (wv hw 242 rfl)) (g := (mkF m 13 LL1 [(.int (nI xn))])) rfl (B d10_13)) ?_
  refine gb m s₁ 55 LL1 [] (fun _ k => XS.icmpYes X0.here hx rfl (pc0 := 15) (pc' := 55) rfl (B d10_15) rfl (tlt ((own_nlt (a := xn) (b := 1073741823) (by omega) (by omega)).mpr (by omega))).1 (by decide) (by decide) k) ?_
  refine sI 56 X0 hx (B d10_55) rfl rfl ?_
  refine sC 57 (1 : Int32) X0 hx (B d10_56) rfl rfl ?_
  refine gb m s₁ 58 LL1 [(.int ((nI xn) <<< ((1 : Int32) &&& 31)))] (fun _ k => XS.ishl X0.here hx rfl (B d10_57) rfl k) ?_
  rw [show ((nI xn) <<< ((1 : Int32) &&& 31)) = (nI (2 * xn)) from own_shl1 (a := xn) (by omega)]
  obtain ⟨fs, hr, hrun, hended, hW, hsame⟩ := X0.leave (v := some (.int (nI (2 * xn)))) (fun h => by rw [Bd.returns] at h; cases h)
  refine ⟨_, _, retOut X0 hx Bd.returns rfl (Or.inl ⟨rfl, Or.inl rfl, _, rfl⟩) (B d10_58) hr, hrun, hended, _, _, rfl, ?_, ⟨_, rfl⟩, hW, hsame.mono (by decide) (by decide)⟩
  show Qpure (some (.int (nI (2 * xn)))) h0 n0 (some (.int (nI (2 * xn)))) s₁.heap _
  rw [e0]
  exact ⟨rfl, N, rfl⟩

theorem d11_0 : decode c11 0 = .ok (.iload_n 0, 1) := by decide +kernel
theorem d11_1 : decode c11 1 = .ok (.ldc 75, 2) := by decide +kernel
theorem d11_3 : decode c11 3 = .ok (.if_icmp .lt 13, 3) := by decide +kernel
theorem d11_6 : decode c11 6 = .ok (.iload_n 0, 1) := by decide +kernel
theorem d11_7 : decode c11 7 = .ok (.ldc 76, 2) := by decide +kernel
theorem d11_9 : decode c11 9 = .ok (.if_icmp .ge 7, 3) := by decide +kernel
theorem d11_12 : decode c11 12 = .ok (.iconst 1, 1) := by decide +kernel
theorem d11_13 : decode c11 13 = .ok (.goto 4, 3) := by decide +kernel
theorem d11_16 : decode c11 16 = .ok (.iconst 0, 1) := by decide +kernel
theorem d11_17 : decode c11 17 = .ok (.ireturn, 1) := by decide +kernel
theorem pn_ihs : plainFor (⟨"java/lang/Character", "isHighSurrogate", "(C)Z"⟩ : MethodName) = true := plainFor_of_name (by first | (simp [plainName, overriddenIn]; done) | decide +kernel)
theorem ef_ihs (m : MethodId) (x0 : Int32) : entryFrame m #[(.int x0)] 1 = mkF m 0 #[.val (.int x0)] [] := by first | (simp [entryFrame, mkF, argsToLocals, Value.category]; done) | rfl
theorem rm_ihs (l : Launch) (Z : State) (a0 : Array Value) (hw : ∀ d ∈ tables_1, d.before a0 Z = true) (ws : List Jvm.Cond) (xc : Nat) (h0 : Heap) (n0 : Nat) (O : Old Z n0 h0) (hy0 : xc < 65536) :
    MF l Z h0 (⟨"java/lang/Character", "isHighSurrogate", "(C)Z"⟩ : MethodName) c11 1 (some .boolean) ws (rk 0 0 0 0) #[(.int (nI xc))] (Qpure (some (.int (b2i (hiS xc)))) h0 n0) := by
  refine sg n0 [] pn_ihs rfl (fun m => ef_ihs m (nI xc)) fun p e s m below meth c s₁ Bd hml hZ hh hx B hown hnm X0 e0 N K => ?_
  let LL1 : Array Slot := #[.val (.int (nI xc))]
  refine sI 1 X0 hx (B d11_0) rfl rfl ?_
  refine gb m s₁ 3 LL1 [(.int (55296 : Int32)), (.int (nI xc))] (X0.ldcInt hx hown (mvT hZ (wv hw 261 rfl)) (g := (mkF m 1 LL1 [(.int (nI xc))])) rfl (B d11_1)) ?_
  by_cases hc3_2 : xc < 55296
  ·
   refine gb m s₁ 16 LL1 [] (fun _ k => XS.icmpYes X0.here hx rfl (pc0 := 3) (pc' := 16) rfl (B d11_3) rfl (tlt ((own_nlt (a := xc) (b := 55296) (by omega) (by omega)).mpr hc3_2)).1 (by decide) (by decide) k) ?_
   refine sC 17 (0 : Int32) X0 hx (B d11_16) rfl rfl ?_
   obtain ⟨fs, hr, hrun, hended, hW, hsame⟩ := X0.leave (v := some (.int (0 : Int32))) (fun h => by rw [Bd.returns] at h; cases h)
   refine ⟨_, _, retN X0 hx (t := .boolean) Bd.returns (by simp) (B d11_17) hr, hrun, hended, _, _, rfl, ?_, ⟨_, rfl⟩, hW, hsame.mono (by decide) (by decide)⟩
   show Qpure (some (.int (b2i (hiS xc)))) h0 n0 (some (.int (0 : Int32))) s₁.heap _
   rw [e0]
   exact ⟨by rw [show hiS xc = false by simp [hiS]; omega]; rfl, N, rfl⟩
  ·
   refine gb m s₁ 6 LL1 [] (fun _ k => XS.icmpNo X0.here hx rfl (B d11_3) rfl (flt (mt (own_nlt (a := xc) (b := 55296) (by omega) (by omega)).mp hc3_2)).1 k) ?_
   refine sI 7 X0 hx (B d11_6) rfl rfl ?_
   refine gb m s₁ 9 LL1 [(.int (56320 : Int32)), (.int (nI xc))] (X0.ldcInt hx hown (mvT hZ (wv hw 262 rfl)) (g := (mkF m 7 LL1 [(.int (nI xc))])) rfl (B d11_7)) ?_
   by_cases hc9_3 : xc < 56320
   ·
    refine gb m s₁ 12 LL1 [] (fun _ k => XS.icmpNo X0.here hx rfl (B d11_9) rfl (tlt ((own_nlt (a := xc) (b := 56320) (by omega) (by omega)).mpr hc9_3)).2.1 k) ?_
    refine sC 13 (1 : Int32) X0 hx (B d11_12) rfl rfl ?_
    refine gb m s₁ 17 LL1 [(.int (1 : Int32))] (fun _ k => XS.goto X0.here hx rfl (pc0 := 13) (pc' := 17) rfl (B d11_13) (by decide) (by decide) k) ?_
    obtain ⟨fs, hr, hrun, hended, hW, hsame⟩ := X0.leave (v := some (.int (1 : Int32))) (fun h => by rw [Bd.returns] at h; cases h)
    refine ⟨_, _, retN X0 hx (t := .boolean) Bd.returns (by simp) (B d11_17) hr, hrun, hended, _, _, rfl, ?_, ⟨_, rfl⟩, hW, hsame.mono (by decide) (by decide)⟩
    show Qpure (some (.int (b2i (hiS xc)))) h0 n0 (some (.int (1 : Int32))) s₁.heap _
    rw [e0]
    exact ⟨by rw [show hiS xc = true by simp [hiS]; omega]; rfl, N, rfl⟩
   ·
    refine gb m s₁ 16 LL1 [] (fun _ k => XS.icmpYes X0.here hx rfl (pc0 := 9) (pc' := 16) rfl (B d11_9) rfl (flt (mt (own_nlt (a := xc) (b := 56320) (by omega) (by omega)).mp hc9_3)).2.1 (by decide) (by decide) k) ?_
    refine sC 17 (0 : Int32) X0 hx (B d11_16) rfl rfl ?_
    obtain ⟨fs, hr, hrun, hended, hW, hsame⟩ := X0.leave (v := some (.int (0 : Int32))) (fun h => by rw [Bd.returns] at h; cases h)
    refine ⟨_, _, retN X0 hx (t := .boolean) Bd.returns (by simp) (B d11_17) hr, hrun, hended, _, _, rfl, ?_, ⟨_, rfl⟩, hW, hsame.mono (by decide) (by decide)⟩
    show Qpure (some (.int (b2i (hiS xc)))) h0 n0 (some (.int (0 : Int32))) s₁.heap _
    rw [e0]
    exact ⟨by rw [show hiS xc = false by simp [hiS]; omega]; rfl, N, rfl⟩

theorem d12_0 : decode c12 0 = .ok (.iload_n 0, 1) := by decide +kernel
theorem d12_1 : decode c12 1 = .ok (.ldc 76, 2) := by decide +kernel
theorem d12_3 : decode c12 3 = .ok (.if_icmp .lt 13, 3) := by decide +kernel
theorem d12_6 : decode c12 6 = .ok (.iload_n 0, 1) := by decide +kernel
theorem d12_7 : decode c12 7 = .ok (.ldc 77, 2) := by decide +kernel
theorem d12_9 : decode c12 9 = .ok (.if_icmp .ge 7, 3) := by decide +kernel
theorem d12_12 : decode c12 12 = .ok (.iconst 1, 1) := by decide +kernel
theorem d12_13 : decode c12 13 = .ok (.goto 4, 3) := by decide +kernel
theorem d12_16 : decode c12 16 = .ok (.iconst 0, 1) := by decide +kernel
theorem d12_17 : decode c12 17 = .ok (.ireturn, 1) := by decide +kernel
theorem pn_ils : plainFor (⟨"java/lang/Character", "isLowSurrogate", "(C)Z"⟩ : MethodName) = true := plainFor_of_name (by first | (simp [plainName, overriddenIn]; done) | decide +kernel)
theorem ef_ils (m : MethodId) (x0 : Int32) : entryFrame m #[(.int x0)] 1 = mkF m 0 #[.val (.int x0)] [] := by first | (simp [entryFrame, mkF, argsToLocals, Value.category]; done) | rfl
theorem rm_ils (l : Launch) (Z : State) (a0 : Array Value) (hw : ∀ d ∈ tables_1, d.before a0 Z = true) (ws : List Jvm.Cond) (xc : Nat) (h0 : Heap) (n0 : Nat) (O : Old Z n0 h0) (hy0 : xc < 65536) :
    MF l Z h0 (⟨"java/lang/Character", "isLowSurrogate", "(C)Z"⟩ : MethodName) c12 1 (some .boolean) ws (rk 0 0 0 0) #[(.int (nI xc))] (Qpure (some (.int (b2i (loS xc)))) h0 n0) := by
  refine sg n0 [] pn_ils rfl (fun m => ef_ils m (nI xc)) fun p e s m below meth c s₁ Bd hml hZ hh hx B hown hnm X0 e0 N K => ?_
  let LL1 : Array Slot := #[.val (.int (nI xc))]
  refine sI 1 X0 hx (B d12_0) rfl rfl ?_
  refine gb m s₁ 3 LL1 [(.int (56320 : Int32)), (.int (nI xc))] (X0.ldcInt hx hown (mvT hZ (wv hw 262 rfl)) (g := (mkF m 1 LL1 [(.int (nI xc))])) rfl (B d12_1)) ?_
  by_cases hc3_2 : xc < 56320
  ·
   refine gb m s₁ 16 LL1 [] (fun _ k => XS.icmpYes X0.here hx rfl (pc0 := 3) (pc' := 16) rfl (B d12_3) rfl (tlt ((own_nlt (a := xc) (b := 56320) (by omega) (by omega)).mpr hc3_2)).1 (by decide) (by decide) k) ?_
   refine sC 17 (0 : Int32) X0 hx (B d12_16) rfl rfl ?_
   obtain ⟨fs, hr, hrun, hended, hW, hsame⟩ := X0.leave (v := some (.int (0 : Int32))) (fun h => by rw [Bd.returns] at h; cases h)
   refine ⟨_, _, retN X0 hx (t := .boolean) Bd.returns (by simp) (B d12_17) hr, hrun, hended, _, _, rfl, ?_, ⟨_, rfl⟩, hW, hsame.mono (by decide) (by decide)⟩
   show Qpure (some (.int (b2i (loS xc)))) h0 n0 (some (.int (0 : Int32))) s₁.heap _
   rw [e0]
   exact ⟨by rw [show loS xc = false by simp [loS]; omega]; rfl, N, rfl⟩
  ·
   refine gb m s₁ 6 LL1 [] (fun _ k => XS.icmpNo X0.here hx rfl (B d12_3) rfl (flt (mt (own_nlt (a := xc) (b := 56320) (by omega) (by omega)).mp hc3_2)).1 k) ?_
   refine sI 7 X0 hx (B d12_6) rfl rfl ?_
   refine gb m s₁ 9 LL1 [(.int (57344 : Int32)), (.int (nI xc))] (X0.ldcInt hx hown (mvT hZ (wv hw 324 rfl)) (g := (mkF m 7 LL1 [(.int (nI xc))])) rfl (B d12_7)) ?_
   by_cases hc9_3 : xc < 57344
   ·
    refine gb m s₁ 12 LL1 [] (fun _ k => XS.icmpNo X0.here hx rfl (B d12_9) rfl (tlt ((own_nlt (a := xc) (b := 57344) (by omega) (by omega)).mpr hc9_3)).2.1 k) ?_
    refine sC 13 (1 : Int32) X0 hx (B d12_12) rfl rfl ?_
    refine gb m s₁ 17 LL1 [(.int (1 : Int32))] (fun _ k => XS.goto X0.here hx rfl (pc0 := 13) (pc' := 17) rfl (B d12_13) (by decide) (by decide) k) ?_
    obtain ⟨fs, hr, hrun, hended, hW, hsame⟩ := X0.leave (v := some (.int (1 : Int32))) (fun h => by rw [Bd.returns] at h; cases h)
    refine ⟨_, _, retN X0 hx (t := .boolean) Bd.returns (by simp) (B d12_17) hr, hrun, hended, _, _, rfl, ?_, ⟨_, rfl⟩, hW, hsame.mono (by decide) (by decide)⟩
    show Qpure (some (.int (b2i (loS xc)))) h0 n0 (some (.int (1 : Int32))) s₁.heap _
    rw [e0]
    exact ⟨by rw [show loS xc = true by simp [loS]; omega]; rfl, N, rfl⟩
   ·
    refine gb m s₁ 16 LL1 [] (fun _ k => XS.icmpYes X0.here hx rfl (pc0 := 9) (pc' := 16) rfl (B d12_9) rfl (flt (mt (own_nlt (a := xc) (b := 57344) (by omega) (by omega)).mp hc9_3)).2.1 (by decide) (by decide) k) ?_
    refine sC 17 (0 : Int32) X0 hx (B d12_16) rfl rfl ?_
    obtain ⟨fs, hr, hrun, hended, hW, hsame⟩ := X0.leave (v := some (.int (0 : Int32))) (fun h => by rw [Bd.returns] at h; cases h)
    refine ⟨_, _, retN X0 hx (t := .boolean) Bd.returns (by simp) (B d12_17) hr, hrun, hended, _, _, rfl, ?_, ⟨_, rfl⟩, hW, hsame.mono (by decide) (by decide)⟩
    show Qpure (some (.int (b2i (loS xc)))) h0 n0 (some (.int (0 : Int32))) s₁.heap _
    rw [e0]
    exact ⟨by rw [show loS xc = false by simp [loS]; omega]; rfl, N, rfl⟩

theorem d13_0 : decode c13 0 = .ok (.iload_n 0, 1) := by decide +kernel
theorem d13_1 : decode c13 1 = .ok (.ldc 9, 2) := by decide +kernel
theorem d13_3 : decode c13 3 = .ok (.if_icmp .lt 13, 3) := by decide +kernel
theorem d13_6 : decode c13 6 = .ok (.iload_n 0, 1) := by decide +kernel
theorem d13_7 : decode c13 7 = .ok (.ldc 11, 2) := by decide +kernel
theorem d13_9 : decode c13 9 = .ok (.if_icmp .gt 7, 3) := by decide +kernel
theorem d13_12 : decode c13 12 = .ok (.iconst 1, 1) := by decide +kernel
theorem d13_13 : decode c13 13 = .ok (.goto 4, 3) := by decide +kernel
theorem d13_16 : decode c13 16 = .ok (.iconst 0, 1) := by decide +kernel
theorem d13_17 : decode c13 17 = .ok (.ireturn, 1) := by decide +kernel
theorem pn_high : plainFor (⟨"com/example/helvedir/helvedir/DiagnosticQuotePinLaw", "high", "(C)Z"⟩ : MethodName) = true := plainFor_of_name (by first | (simp [plainName, overriddenIn]; done) | decide +kernel)
theorem ef_high (m : MethodId) (x0 : Int32) : entryFrame m #[(.int x0)] 1 = mkF m 0 #[.val (.int x0)] [] := by first | (simp [entryFrame, mkF, argsToLocals, Value.category]; done) | rfl
theorem rm_high (l : Launch) (Z : State) (a0 : Array Value) (hw : ∀ d ∈ tables_1, d.before a0 Z = true) (ws : List Jvm.Cond) (xc : Nat) (h0 : Heap) (n0 : Nat) (O : Old Z n0 h0) (hy0 : xc < 65536) :
    MF l Z h0 (⟨"com/example/helvedir/helvedir/DiagnosticQuotePinLaw", "high", "(C)Z"⟩ : MethodName) c13 1 (some .boolean) ws (rk 0 0 0 0) #[(.int (nI xc))] (Qpure (some (.int (b2i (hiS xc)))) h0 n0) := by
  refine sg n0 [] pn_high rfl (fun m => ef_high m (nI xc)) fun p e s m below meth c s₁ Bd hml hZ hh hx B hown hnm X0 e0 N K => ?_
  let LL1 : Array Slot := #[.val (.int (nI xc))]
  refine sI 1 X0 hx (B d13_0) rfl rfl ?_
  refine gb m s₁ 3 LL1 [(.int (55296 : Int32)), (.int (nI xc))] (X0.ldcInt hx hown (mvT hZ (wv hw 221 rfl)) (g := (mkF m 1 LL1 [(.int (nI xc))])) rfl (B d13_1)) ?_
  by_cases hc3_2 : xc < 55296
  ·
   refine gb m s₁ 16 LL1 [] (fun _ k => XS.icmpYes X0.here hx rfl (pc0 := 3) (pc' := 16) rfl (B d13_3) rfl (tlt ((own_nlt (a := xc) (b := 55296) (by omega) (by omega)).mpr hc3_2)).1 (by decide) (by decide) k) ?_
   refine sC 17 (0 : Int32) X0 hx (B d13_16) rfl rfl ?_
   obtain ⟨fs, hr, hrun, hended, hW, hsame⟩ := X0.leave (v := some (.int (0 : Int32))) (fun h => by rw [Bd.returns] at h; cases h)
   refine ⟨_, _, retN X0 hx (t := .boolean) Bd.returns (by simp) (B d13_17) hr, hrun, hended, _, _, rfl, ?_, ⟨_, rfl⟩, hW, hsame.mono (by decide) (by decide)⟩
   show Qpure (some (.int (b2i (hiS xc)))) h0 n0 (some (.int (0 : Int32))) s₁.heap _
   rw [e0]
   exact ⟨by rw [show hiS xc = false by simp [hiS]; omega]; rfl, N, rfl⟩
  ·
   refine gb m s₁ 6 LL1 [] (fun _ k => XS.icmpNo X0.here hx rfl (B d13_3) rfl (flt (mt (own_nlt (a := xc) (b := 55296) (by omega) (by omega)).mp hc3_2)).1 k) ?_
   refine sI 7 X0 hx (B d13_6) rfl rfl ?_
   refine gb m s₁ 9 LL1 [(.int (56319 : Int32)), (.int (nI xc))] (X0.ldcInt hx hown (mvT hZ (wv hw 313 rfl)) (g := (mkF m 7 LL1 [(.int (nI xc))])) rfl (B d13_7)) ?_
   by_cases hc9_3 : 56319 < xc
   ·
    refine gb m s₁ 16 LL1 [] (fun _ k => XS.icmpYes X0.here hx rfl (pc0 := 9) (pc' := 16) rfl (B d13_9) rfl (tlt ((own_nlt (a := 56319) (b := xc) (by omega) (by omega)).mpr hc9_3)).2.2.1 (by decide) (by decide) k) ?_
    refine sC 17 (0 : Int32) X0 hx (B d13_16) rfl rfl ?_
    obtain ⟨fs, hr, hrun, hended, hW, hsame⟩ := X0.leave (v := some (.int (0 : Int32))) (fun h => by rw [Bd.returns] at h; cases h)
    refine ⟨_, _, retN X0 hx (t := .boolean) Bd.returns (by simp) (B d13_17) hr, hrun, hended, _, _, rfl, ?_, ⟨_, rfl⟩, hW, hsame.mono (by decide) (by decide)⟩
    show Qpure (some (.int (b2i (hiS xc)))) h0 n0 (some (.int (0 : Int32))) s₁.heap _
    rw [e0]
    exact ⟨by rw [show hiS xc = false by simp [hiS]; omega]; rfl, N, rfl⟩
   ·
    refine gb m s₁ 12 LL1 [] (fun _ k => XS.icmpNo X0.here hx rfl (B d13_9) rfl (flt (mt (own_nlt (a := 56319) (b := xc) (by omega) (by omega)).mp hc9_3)).2.2.1 k) ?_
    refine sC 13 (1 : Int32) X0 hx (B d13_12) rfl rfl ?_
    refine gb m s₁ 17 LL1 [(.int (1 : Int32))] (fun _ k => XS.goto X0.here hx rfl (pc0 := 13) (pc' := 17) rfl (B d13_13) (by decide) (by decide) k) ?_
    obtain ⟨fs, hr, hrun, hended, hW, hsame⟩ := X0.leave (v := some (.int (1 : Int32))) (fun h => by rw [Bd.returns] at h; cases h)
    refine ⟨_, _, retN X0 hx (t := .boolean) Bd.returns (by simp) (B d13_17) hr, hrun, hended, _, _, rfl, ?_, ⟨_, rfl⟩, hW, hsame.mono (by decide) (by decide)⟩
    show Qpure (some (.int (b2i (hiS xc)))) h0 n0 (some (.int (1 : Int32))) s₁.heap _
    rw [e0]
    exact ⟨by rw [show hiS xc = true by simp [hiS]; omega]; rfl, N, rfl⟩

theorem d14_0 : decode c14 0 = .ok (.iload_n 0, 1) := by decide +kernel
theorem d14_1 : decode c14 1 = .ok (.ldc 10, 2) := by decide +kernel
theorem d14_3 : decode c14 3 = .ok (.if_icmp .lt 13, 3) := by decide +kernel
theorem d14_6 : decode c14 6 = .ok (.iload_n 0, 1) := by decide +kernel
theorem d14_7 : decode c14 7 = .ok (.ldc 12, 2) := by decide +kernel
theorem d14_9 : decode c14 9 = .ok (.if_icmp .gt 7, 3) := by decide +kernel
theorem d14_12 : decode c14 12 = .ok (.iconst 1, 1) := by decide +kernel
theorem d14_13 : decode c14 13 = .ok (.goto 4, 3) := by decide +kernel
theorem d14_16 : decode c14 16 = .ok (.iconst 0, 1) := by decide +kernel
theorem d14_17 : decode c14 17 = .ok (.ireturn, 1) := by decide +kernel
theorem pn_low : plainFor (⟨"com/example/helvedir/helvedir/DiagnosticQuotePinLaw", "low", "(C)Z"⟩ : MethodName) = true := plainFor_of_name (by first | (simp [plainName, overriddenIn]; done) | decide +kernel)
theorem ef_low (m : MethodId) (x0 : Int32) : entryFrame m #[(.int x0)] 1 = mkF m 0 #[.val (.int x0)] [] := by first | (simp [entryFrame, mkF, argsToLocals, Value.category]; done) | rfl
theorem rm_low (l : Launch) (Z : State) (a0 : Array Value) (hw : ∀ d ∈ tables_1, d.before a0 Z = true) (ws : List Jvm.Cond) (xc : Nat) (h0 : Heap) (n0 : Nat) (O : Old Z n0 h0) (hy0 : xc < 65536) :
    MF l Z h0 (⟨"com/example/helvedir/helvedir/DiagnosticQuotePinLaw", "low", "(C)Z"⟩ : MethodName) c14 1 (some .boolean) ws (rk 0 0 0 0) #[(.int (nI xc))] (Qpure (some (.int (b2i (loS xc)))) h0 n0) := by
  refine sg n0 [] pn_low rfl (fun m => ef_low m (nI xc)) fun p e s m below meth c s₁ Bd hml hZ hh hx B hown hnm X0 e0 N K => ?_
  let LL1 : Array Slot := #[.val (.int (nI xc))]
  refine sI 1 X0 hx (B d14_0) rfl rfl ?_
  refine gb m s₁ 3 LL1 [(.int (56320 : Int32)), (.int (nI xc))] (X0.ldcInt hx hown (mvT hZ (wv hw 232 rfl)) (g := (mkF m 1 LL1 [(.int (nI xc))])) rfl (B d14_1)) ?_
  by_cases hc3_2 : xc < 56320
  ·
   refine gb m s₁ 16 LL1 [] (fun _ k => XS.icmpYes X0.here hx rfl (pc0 := 3) (pc' := 16) rfl (B d14_3) rfl (tlt ((own_nlt (a := xc) (b := 56320) (by omega) (by omega)).mpr hc3_2)).1 (by decide) (by decide) k) ?_
   refine sC 17 (0 : Int32) X0 hx (B d14_16) rfl rfl ?_
   obtain ⟨fs, hr, hrun, hended, hW, hsame⟩ := X0.leave (v := some (.int (0 : Int32))) (fun h => by rw [Bd.returns] at h; cases h)
   refine ⟨_, _, retN X0 hx (t := .boolean) Bd.returns (by simp) (B d14_17) hr, hrun, hended, _, _, rfl, ?_, ⟨_, rfl⟩, hW, hsame.mono (by decide) (by decide)⟩
   show Qpure (some (.int (b2i (loS xc)))) h0 n0 (some (.int (0 : Int32))) s₁.heap _
   rw [e0]
   exact ⟨by rw [show loS xc = false by simp [loS]; omega]; rfl, N, rfl⟩
  ·
   refine gb m s₁ 6 LL1 [] (fun _ k => XS.icmpNo X0.here hx rfl (B d14_3) rfl (flt (mt (own_nlt (a := xc) (b := 56320) (by omega) (by omega)).mp hc3_2)).1 k) ?_
   refine sI 7 X0 hx (B d14_6) rfl rfl ?_
   refine gb m s₁ 9 LL1 [(.int (57343 : Int32)), (.int (nI xc))] (X0.ldcInt hx hown (mvT hZ (wv hw 329 rfl)) (g := (mkF m 7 LL1 [(.int (nI xc))])) rfl (B d14_7)) ?_
   by_cases hc9_3 : 57343 < xc
   ·
    refine gb m s₁ 16 LL1 [] (fun _ k => XS.icmpYes X0.here hx rfl (pc0 := 9) (pc' := 16) rfl (B d14_9) rfl (tlt ((own_nlt (a := 57343) (b := xc) (by omega) (by omega)).mpr hc9_3)).2.2.1 (by decide) (by decide) k) ?_
    refine sC 17 (0 : Int32) X0 hx (B d14_16) rfl rfl ?_
    obtain ⟨fs, hr, hrun, hended, hW, hsame⟩ := X0.leave (v := some (.int (0 : Int32))) (fun h => by rw [Bd.returns] at h; cases h)
    refine ⟨_, _, retN X0 hx (t := .boolean) Bd.returns (by simp) (B d14_17) hr, hrun, hended, _, _, rfl, ?_, ⟨_, rfl⟩, hW, hsame.mono (by decide) (by decide)⟩
    show Qpure (some (.int (b2i (loS xc)))) h0 n0 (some (.int (0 : Int32))) s₁.heap _
    rw [e0]
    exact ⟨by rw [show loS xc = false by simp [loS]; omega]; rfl, N, rfl⟩
   ·
    refine gb m s₁ 12 LL1 [] (fun _ k => XS.icmpNo X0.here hx rfl (B d14_9) rfl (flt (mt (own_nlt (a := 57343) (b := xc) (by omega) (by omega)).mp hc9_3)).2.2.1 k) ?_
    refine sC 13 (1 : Int32) X0 hx (B d14_12) rfl rfl ?_
    refine gb m s₁ 17 LL1 [(.int (1 : Int32))] (fun _ k => XS.goto X0.here hx rfl (pc0 := 13) (pc' := 17) rfl (B d14_13) (by decide) (by decide) k) ?_
    obtain ⟨fs, hr, hrun, hended, hW, hsame⟩ := X0.leave (v := some (.int (1 : Int32))) (fun h => by rw [Bd.returns] at h; cases h)
    refine ⟨_, _, retN X0 hx (t := .boolean) Bd.returns (by simp) (B d14_17) hr, hrun, hended, _, _, rfl, ?_, ⟨_, rfl⟩, hW, hsame.mono (by decide) (by decide)⟩
    show Qpure (some (.int (b2i (loS xc)))) h0 n0 (some (.int (1 : Int32))) s₁.heap _
    rw [e0]
    exact ⟨by rw [show loS xc = true by simp [loS]; omega]; rfl, N, rfl⟩

theorem d15_0 : decode c15 0 = .ok (.iload_n 0, 1) := by decide +kernel
theorem d15_1 : decode c15 1 = .ok (.bipush 10, 2) := by decide +kernel
theorem d15_3 : decode c15 3 = .ok (.ishl, 1) := by decide +kernel
theorem d15_4 : decode c15 4 = .ok (.iload_n 1, 1) := by decide +kernel
theorem d15_5 : decode c15 5 = .ok (.iadd, 1) := by decide +kernel
theorem d15_6 : decode c15 6 = .ok (.ldc 85, 2) := by decide +kernel
theorem d15_8 : decode c15 8 = .ok (.iadd, 1) := by decide +kernel
theorem d15_9 : decode c15 9 = .ok (.ireturn, 1) := by decide +kernel
theorem pn_tcp : plainFor (⟨"java/lang/Character", "toCodePoint", "(CC)I"⟩ : MethodName) = true := plainFor_of_name (by first | (simp [plainName, overriddenIn]; done) | decide +kernel)
theorem ef_tcp (m : MethodId) (x0 : Int32) (x1 : Int32) : entryFrame m #[(.int x0), (.int x1)] 2 = mkF m 0 #[.val (.int x0), .val (.int x1)] [] := by first | (simp [entryFrame, mkF, argsToLocals, Value.category]; done) | rfl
theorem rm_tcp (l : Launch) (Z : State) (a0 : Array Value) (hw : ∀ d ∈ tables_1, d.before a0 Z = true) (ws : List Jvm.Cond) (xh xl : Nat) (h0 : Heap) (n0 : Nat) (O : Old Z n0 h0) (hy0 : 55296 ≤ xh) (hy1 : xh < 56320) (hy2 : 56320 ≤ xl) (hy3 : xl < 57344) :
    MF l Z h0 (⟨"java/lang/Character", "toCodePoint", "(CC)I"⟩ : MethodName) c15 2 (some .int) ws (rk 0 0 0 0) #[(.int (nI xh)), (.int (nI xl))] (Qpure (some (.int (nI (xh * 1024 + xl - 56613888)))) h0 n0) := by
  refine sg n0 [] pn_tcp rfl (fun m => ef_tcp m (nI xh) (nI xl)) fun p e s m below meth c s₁ Bd hml hZ hh hx B hown hnm X0 e0 N K => ?_
  let LL1 : Array Slot := #[.val (.int (nI xh)), .val (.int (nI xl))]
  refine sI 1 X0 hx (B d15_0) rfl rfl ?_
  refine sB 3 (10 : Int32) X0 hx (B d15_1) rfl rfl ?_
  refine gb m s₁ 4 LL1 [(.int ((nI xh) <<< ((10 : Int32) &&& 31)))] (fun _ k => XS.ishl X0.here hx rfl (B d15_3) rfl k) ?_
  refine sI 5 X0 hx (B d15_4) rfl rfl ?_
  refine gb m s₁ 6 LL1 [(.int (((nI xh) <<< ((10 : Int32) &&& 31)) + (nI xl)))] (fun _ k => XS.iadd X0.here hx rfl (B d15_5) rfl k) ?_
  refine gb m s₁ 8 LL1 [(.int (-56613888 : Int32)), (.int (((nI xh) <<< ((10 : Int32) &&& 31)) + (nI xl)))] (X0.ldcInt hx hown (mvT hZ (wv hw 328 rfl)) (g := (mkF m 6 LL1 [(.int (((nI xh) <<< ((10 : Int32) &&& 31)) + (nI xl)))])) rfl (B d15_6)) ?_
  refine gb m s₁ 9 LL1 [(.int ((((nI xh) <<< ((10 : Int32) &&& 31)) + (nI xl)) + (-56613888 : Int32)))] (fun _ k => XS.iadd X0.here hx rfl (B d15_8) rfl k) ?_
  obtain ⟨fs, hr, hrun, hended, hW, hsame⟩ := X0.leave (v := some (.int ((((nI xh) <<< ((10 : Int32) &&& 31)) + (nI xl)) + (-56613888 : Int32)))) (fun h => by rw [Bd.returns] at h; cases h)
  refine ⟨_, _, retOut X0 hx Bd.returns rfl (Or.inl ⟨rfl, Or.inl rfl, _, rfl⟩) (B d15_9) hr, hrun, hended, _, _, rfl, ?_, ⟨_, rfl⟩, hW, hsame.mono (by decide) (by decide)⟩
  show Qpure (some (.int (nI (xh * 1024 + xl - 56613888)))) h0 n0 (some (.int ((((nI xh) <<< ((10 : Int32) &&& 31)) + (nI xl)) + (-56613888 : Int32)))) s₁.heap _
  rw [e0]
  exact ⟨congrArg (fun z => some (Value.int z)) (own_cp hy0 hy1 hy2 hy3).1, N, rfl⟩

theorem d16_0 : decode c16 0 = .ok (.iload_n 0, 1) := by decide +kernel
theorem d16_1 : decode c16 1 = .ok (.ldc 73, 2) := by decide +kernel
theorem d16_3 : decode c16 3 = .ok (.if_icmp .lt 7, 3) := by decide +kernel
theorem d16_6 : decode c16 6 = .ok (.iconst 2, 1) := by decide +kernel
theorem d16_7 : decode c16 7 = .ok (.goto 4, 3) := by decide +kernel
theorem d16_10 : decode c16 10 = .ok (.iconst 1, 1) := by decide +kernel
theorem d16_11 : decode c16 11 = .ok (.ireturn, 1) := by decide +kernel
theorem pn_cc : plainFor (⟨"java/lang/Character", "charCount", "(I)I"⟩ : MethodName) = true := plainFor_of_name (by first | (simp [plainName, overriddenIn]; done) | decide +kernel)
theorem ef_cc (m : MethodId) (x0 : Int32) : entryFrame m #[(.int x0)] 1 = mkF m 0 #[.val (.int x0)] [] := by first | (simp [entryFrame, mkF, argsToLocals, Value.category]; done) | rfl
theorem rm_cc (l : Launch) (Z : State) (a0 : Array Value) (hw : ∀ d ∈ tables_1, d.before a0 Z = true) (ws : List Jvm.Cond) (xc : Nat)  (h0 : Heap) (n0 : Nat) (O : Old Z n0 h0) (hy0 : xc < 2147483648) :
    MF l Z h0 (⟨"java/lang/Character", "charCount", "(I)I"⟩ : MethodName) c16 1 (some .int) ws (rk 0 0 0 0) #[(.int (nI xc))] (Qpure (some (.int (nI (cct xc)))) h0 n0) := by
  refine sg n0 [] pn_cc rfl (fun m => ef_cc m (nI xc)) fun p e s m below meth c s₁ Bd hml hZ hh hx B hown hnm X0 e0 N K => ?_
  let LL1 : Array Slot := #[.val (.int (nI xc))]
  refine sI 1 X0 hx (B d16_0) rfl rfl ?_
  refine gb m s₁ 3 LL1 [(.int (65536 : Int32)), (.int (nI xc))] (X0.ldcInt hx hown (mvT hZ (wv hw 72 rfl)) (g := (mkF m 1 LL1 [(.int (nI xc))])) rfl (B d16_1)) ?_
  by_cases hc3_2 : xc < 65536
  ·
   refine gb m s₁ 10 LL1 [] (fun _ k => XS.icmpYes X0.here hx rfl (pc0 := 3) (pc' := 10) rfl (B d16_3) rfl (tlt ((own_nlt (a := xc) (b := 65536) (by omega) (by omega)).mpr hc3_2)).1 (by decide) (by decide) k) ?_
   refine sC 11 (1 : Int32) X0 hx (B d16_10) rfl rfl ?_
   obtain ⟨fs, hr, hrun, hended, hW, hsame⟩ := X0.leave (v := some (.int (1 : Int32))) (fun h => by rw [Bd.returns] at h; cases h)
   refine ⟨_, _, retOut X0 hx Bd.returns rfl (Or.inl ⟨rfl, Or.inl rfl, _, rfl⟩) (B d16_11) hr, hrun, hended, _, _, rfl, ?_, ⟨_, rfl⟩, hW, hsame.mono (by decide) (by decide)⟩
   show Qpure (some (.int (nI (cct xc)))) h0 n0 (some (.int (1 : Int32))) s₁.heap _
   rw [e0]
   exact ⟨by rw [show cct xc = 1 by unfold cct; split <;> omega]; rfl, N, rfl⟩
  ·
   refine gb m s₁ 6 LL1 [] (fun _ k => XS.icmpNo X0.here hx rfl (B d16_3) rfl (flt (mt (own_nlt (a := xc) (b := 65536) (by omega) (by omega)).mp hc3_2)).1 k) ?_
   refine sC 7 (2 : Int32) X0 hx (B d16_6) rfl rfl ?_
   refine gb m s₁ 11 LL1 [(.int (2 : Int32))] (fun _ k => XS.goto X0.here hx rfl (pc0 := 7) (pc' := 11) rfl (B d16_7) (by decide) (by decide) k) ?_
   obtain ⟨fs, hr, hrun, hended, hW, hsame⟩ := X0.leave (v := some (.int (2 : Int32))) (fun h => by rw [Bd.returns] at h; cases h)
   refine ⟨_, _, retOut X0 hx Bd.returns rfl (Or.inl ⟨rfl, Or.inl rfl, _, rfl⟩) (B d16_11) hr, hrun, hended, _, _, rfl, ?_, ⟨_, rfl⟩, hW, hsame.mono (by decide) (by decide)⟩
   show Qpure (some (.int (nI (cct xc)))) h0 n0 (some (.int (2 : Int32))) s₁.heap _
   rw [e0]
   exact ⟨by rw [show cct xc = 2 by unfold cct; split <;> omega]; rfl, N, rfl⟩

theorem d17_0 : decode c17 0 = .ok (.aload_n 0, 1) := by decide +kernel
theorem d17_1 : decode c17 1 = .ok (.arraylength, 1) := by decide +kernel
theorem d17_2 : decode c17 2 = .ok (.iconst 1, 1) := by decide +kernel
theorem d17_3 : decode c17 3 = .ok (.ishr, 1) := by decide +kernel
theorem d17_4 : decode c17 4 = .ok (.ireturn, 1) := by decide +kernel
theorem pn_ul : plainFor (⟨"java/lang/StringUTF16", "length", "([B)I"⟩ : MethodName) = true := plainFor_of_name (by first | (simp [plainName, overriddenIn]; done) | decide +kernel)
theorem ef_ul (m : MethodId) (x0 : Addr) : entryFrame m #[(.ref x0)] 1 = mkF m 0 #[.val (.ref x0)] [] := by first | (simp [entryFrame, mkF, argsToLocals, Value.category]; done) | rfl
theorem rm_ul (l : Launch) (Z : State) (a0 : Array Value) (hw : ∀ d ∈ tables_1, d.before a0 Z = true) (ws : List Jvm.Cond) (tb : Addr) (kt : ClassId) (xn : Nat) (ft : Nat → Int32)   (h0 : Heap) (n0 : Nat) (O : Old Z n0 h0) (V_t : Arv Z h0 tb kt .byte (nI (2 * xn)) (cont (2 * xn) ft) (.int 0)) (hy0 : xn < 100000) :
    MF l Z h0 (⟨"java/lang/StringUTF16", "length", "([B)I"⟩ : MethodName) c17 1 (some .int) ws (rk 0 0 0 0) #[(.ref tb)] (Qpure (some (.int (nI xn))) h0 n0) := by
  refine sg n0 [] pn_ul rfl (fun m => ef_ul m tb) fun p e s m below meth c s₁ Bd hml hZ hh hx B hown hnm X0 e0 N K => ?_
  let LL1 : Array Slot := #[.val (.ref tb)]
  refine sA 1 X0 hx (B d17_0) rfl rfl rfl ?_
  obtain ⟨cl2, Ar2, q2, S2, N2', H2, G2⟩ := id V_t
  refine gb m s₁ 2 LL1 [(.int (nI (2 * xn)))] (fun t k => X0.arraylength hx (by rw [e0]; exact Ar2.1) (State.isArrayOf_alike hZ.alike Ar2.2.1) (g := (mkF m 1 LL1 [(.ref tb)])) rfl rfl (B d17_1) t (by rw [len_of S2 N2']; exact k)) ?_
  refine sC 3 (1 : Int32) X0 hx (B d17_2) rfl rfl ?_
  refine gb m s₁ 4 LL1 [(.int ((nI (2 * xn)) >>> ((1 : Int32) &&& 31)))] (fun _ k => XS.ishr X0.here hx rfl (B d17_3) rfl k) ?_
  rw [show ((nI (2 * xn)) >>> ((1 : Int32) &&& 31)) = (nI xn) from own_shr1 (a := xn) (by omega)]
  obtain ⟨fs, hr, hrun, hended, hW, hsame⟩ := X0.leave (v := some (.int (nI xn))) (fun h => by rw [Bd.returns] at h; cases h)
  refine ⟨_, _, retOut X0 hx Bd.returns rfl (Or.inl ⟨rfl, Or.inl rfl, _, rfl⟩) (B d17_4) hr, hrun, hended, _, _, rfl, ?_, ⟨_, rfl⟩, hW, hsame.mono (by decide) (by decide)⟩
  show Qpure (some (.int (nI xn))) h0 n0 (some (.int (nI xn))) s₁.heap _
  rw [e0]
  exact ⟨rfl, N, rfl⟩

theorem d18_0 : decode c18 0 = .ok (.iload_n 0, 1) := by decide +kernel
theorem d18_1 : decode c18 1 = .ok (.iload_n 1, 1) := by decide +kernel
theorem d18_2 : decode c18 2 = .ok (.aload_n 2, 1) := by decide +kernel
theorem d18_3 : decode c18 3 = .ok (.invokestatic 48, 3) := by decide +kernel
theorem d18_6 : decode c18 6 = .ok (.invokestatic 419, 3) := by decide +kernel
theorem d18_9 : decode c18 9 = .ok (.pop, 1) := by decide +kernel
theorem d18_10 : decode c18 10 = .ok (.return_, 1) := by decide +kernel
theorem pn_ubo : plainFor (⟨"java/lang/StringUTF16", "checkBoundsOffCount", "(II[B)V"⟩ : MethodName) = true := plainFor_of_name (by first | (simp [plainName, overriddenIn]; done) | decide +kernel)
theorem pd3 : parseMethodDescriptor "([B)I" = some ⟨[(.array .byte)], some .int⟩ := by decide +kernel
theorem pd4 : parseMethodDescriptor "(III)I" = some ⟨[.int, .int, .int], some .int⟩ := by decide +kernel
theorem ef_ubo (m : MethodId) (x0 : Int32) (x1 : Int32) (x2 : Addr) : entryFrame m #[(.int x0), (.int x1), (.ref x2)] 3 = mkF m 0 #[.val (.int x0), .val (.int x1), .val (.ref x2)] [] := by first | (simp [entryFrame, mkF, argsToLocals, Value.category]; done) | rfl
theorem rm_ubo (l : Launch) (Z : State) (a0 : Array Value) (hw : ∀ d ∈ tables_1, d.before a0 Z = true) (ws : List Jvm.Cond) (tb : Addr) (kt : ClassId) (xn : Nat) (ft : Nat → Int32) (xo xc : Nat) (zc : Int32) (fm : Value) (hS0 : Sf Z zc fm) (h0 : Heap) (n0 : Nat) (O : Old Z n0 h0) (V_t : Arv Z h0 tb kt .byte (nI (2 * xn)) (cont (2 * xn) ft) (.int 0)) (hy0 : xn < 100000) (hy1 : xo + xc ≤ xn) :
    MF l Z h0 (⟨"java/lang/StringUTF16", "checkBoundsOffCount", "(II[B)V"⟩ : MethodName) c18 3 none ws (rk 2 0 0 29) #[(.int (nI xo)), (.int (nI xc)), (.ref tb)] (Qpure none h0 n0) := by
  refine sg n0 [] pn_ubo rfl (fun m => ef_ubo m (nI xo) (nI xc) tb) fun p e s m below meth c s₁ Bd hml hZ hh hx B hown hnm X0 e0 N K => ?_
  let LL1 : Array Slot := #[.val (.int (nI xo)), .val (.int (nI xc)), .val (.ref tb)]
  refine sI 1 X0 hx (B d18_0) rfl rfl ?_
  refine sI 2 X0 hx (B d18_1) rfl rfl ?_
  refine sA 3 X0 hx (B d18_2) rfl rfl rfl ?_
  have hy2_0 : xn < 100000 := by omega
  obtain ⟨v2, T2, Lc2, X2, hQ2, st2⟩ := cS LL1 [(.int (nI xc)), (.int (nI xo))] X0 hx hZ hown hw e0 hml 284 285 23 286 rfl rfl rfl rfl (by decide) (rm_ul l Z a0 hw [] tb _ xn ft h0 n0 O V_t hy2_0) pd3 rfl rfl (B d18_3) rfl
  obtain ⟨rfl, Nq2, e2⟩ := hQ2
  replace N := Fr.app N Nq2
  refine gb m T2 6 LL1 [(.int (nI xn)), (.int (nI xc)), (.int (nI xo))] (st2) ?_
  have hy3_0 : xo + xc ≤ xn := by omega
  have hy3_1 : xn < 1073741824 := by omega
  obtain ⟨v3, T3, Lc3, X3, hQ3, st3⟩ := cS LL1 [] X2 hx hZ hown hw e2 hml 287 288 9 289 rfl rfl rfl rfl (by decide) (rm_sbo l Z a0 hw [] xo xc xn zc fm hS0  h0 n0 O hy3_0 hy3_1) pd4 rfl rfl (B d18_6) rfl
  obtain ⟨rfl, Nq3, e3⟩ := hQ3
  replace N := Fr.app N Nq3
  refine gb m T3 9 LL1 [(.int (nI (xo)))] (st3) ?_
  refine gb m T3 10 LL1 [] (fun _ k => XS.pop X3.here hx rfl (B d18_9) rfl rfl k) ?_
  obtain ⟨fs, hr, hrun, hended, hW, hsame⟩ := X3.leave (v := none) (fun _ => rfl)
  refine ⟨_, _, X3.returnOut hx Bd.returns (B d18_10) hr, hrun, hended, _, _, rfl, ?_, ⟨_, rfl⟩, hW, hsame.mono (by decide) (by decide)⟩
  show Qpure none h0 n0 (none) T3.heap _
  rw [e3]
  exact ⟨rfl, N, rfl⟩

theorem d19_0 : decode c19 0 = .ok (.iload_n 0, 1) := by decide +kernel
theorem d19_1 : decode c19 1 = .ok (.aload_n 1, 1) := by decide +kernel
theorem d19_2 : decode c19 2 = .ok (.invokestatic 48, 3) := by decide +kernel
theorem d19_5 : decode c19 5 = .ok (.invokestatic 414, 3) := by decide +kernel
theorem d19_8 : decode c19 8 = .ok (.return_, 1) := by decide +kernel
theorem pn_uci : plainFor (⟨"java/lang/StringUTF16", "checkIndex", "(I[B)V"⟩ : MethodName) = true := plainFor_of_name (by first | (simp [plainName, overriddenIn]; done) | decide +kernel)
theorem pd5 : parseMethodDescriptor "(II)V" = some ⟨[.int, .int], none⟩ := by decide +kernel
theorem ef_uci (m : MethodId) (x0 : Int32) (x1 : Addr) : entryFrame m #[(.int x0), (.ref x1)] 2 = mkF m 0 #[.val (.int x0), .val (.ref x1)] [] := by first | (simp [entryFrame, mkF, argsToLocals, Value.category]; done) | rfl
theorem rm_uci (l : Launch) (Z : State) (a0 : Array Value) (hw : ∀ d ∈ tables_1, d.before a0 Z = true) (ws : List Jvm.Cond) (tb : Addr) (kt : ClassId) (xn : Nat) (ft : Nat → Int32) (xo : Nat) (zc : Int32) (fm : Value) (hS0 : Sf Z zc fm) (h0 : Heap) (n0 : Nat) (O : Old Z n0 h0) (V_t : Arv Z h0 tb kt .byte (nI (2 * xn)) (cont (2 * xn) ft) (.int 0)) (hy0 : xn < 100000) (hy1 : xo < xn) :
    MF l Z h0 (⟨"java/lang/StringUTF16", "checkIndex", "(I[B)V"⟩ : MethodName) c19 2 none ws (rk 2 0 0 27) #[(.int (nI xo)), (.ref tb)] (Qpure none h0 n0) := by
  refine sg n0 [] pn_uci rfl (fun m => ef_uci m (nI xo) tb) fun p e s m below meth c s₁ Bd hml hZ hh hx B hown hnm X0 e0 N K => ?_
  let LL1 : Array Slot := #[.val (.int (nI xo)), .val (.ref tb)]
  refine sI 1 X0 hx (B d19_0) rfl rfl ?_
  refine sA 2 X0 hx (B d19_1) rfl rfl rfl ?_
  have hy2_0 : xn < 100000 := by omega
  obtain ⟨v2, T2, Lc2, X2, hQ2, st2⟩ := cS LL1 [(.int (nI xo))] X0 hx hZ hown hw e0 hml 284 285 23 286 rfl rfl rfl rfl (by decide) (rm_ul l Z a0 hw [] tb _ xn ft h0 n0 O V_t hy2_0) pd3 rfl rfl (B d19_2) rfl
  obtain ⟨rfl, Nq2, e2⟩ := hQ2
  replace N := Fr.app N Nq2
  refine gb m T2 5 LL1 [(.int (nI xn)), (.int (nI xo))] (st2) ?_
  have hy3_0 : xo < xn := by omega
  have hy3_1 : xn < 1073741824 := by omega
  obtain ⟨v3, T3, Lc3, X3, hQ3, st3⟩ := cS LL1 [] X2 hx hZ hown hw e2 hml 323 61 9 62 rfl rfl rfl rfl (by decide) (rm_sci l Z a0 hw [] xo xn zc fm hS0  h0 n0 O hy3_0 hy3_1) pd5 rfl rfl (B d19_5) rfl
  obtain ⟨rfl, Nq3, e3⟩ := hQ3
  replace N := Fr.app N Nq3
  refine gb m T3 8 LL1 [] (st3) ?_
  obtain ⟨fs, hr, hrun, hended, hW, hsame⟩ := X3.leave (v := none) (fun _ => rfl)
  refine ⟨_, _, X3.returnOut hx Bd.returns (B d19_8) hr, hrun, hended, _, _, rfl, ?_, ⟨_, rfl⟩, hW, hsame.mono (by decide) (by decide)⟩
  show Qpure none h0 n0 (none) T3.heap _
  rw [e3]
  exact ⟨rfl, N, rfl⟩

theorem d20_0 : decode c20 0 = .ok (.getstatic 44, 3) := by decide +kernel
theorem d20_3 : decode c20 3 = .ok (.ifCond .ne 25, 3) := by decide +kernel
theorem d20_28 : decode c20 28 = .ok (.iload_n 1, 1) := by decide +kernel
theorem d20_29 : decode c20 29 = .ok (.iconst 1, 1) := by decide +kernel
theorem d20_30 : decode c20 30 = .ok (.ishl, 1) := by decide +kernel
theorem d20_31 : decode c20 31 = .ok (.istore_n 1, 1) := by decide +kernel
theorem d20_32 : decode c20 32 = .ok (.aload_n 0, 1) := by decide +kernel
theorem d20_33 : decode c20 33 = .ok (.iload_n 1, 1) := by decide +kernel
theorem d20_34 : decode c20 34 = .ok (.iinc 1 1, 3) := by decide +kernel
theorem d20_37 : decode c20 37 = .ok (.baload, 1) := by decide +kernel
theorem d20_38 : decode c20 38 = .ok (.sipush 255, 3) := by decide +kernel
theorem d20_41 : decode c20 41 = .ok (.iand, 1) := by decide +kernel
theorem d20_42 : decode c20 42 = .ok (.getstatic 59, 3) := by decide +kernel
theorem d20_45 : decode c20 45 = .ok (.ishl, 1) := by decide +kernel
theorem d20_46 : decode c20 46 = .ok (.aload_n 0, 1) := by decide +kernel
theorem d20_47 : decode c20 47 = .ok (.iload_n 1, 1) := by decide +kernel
theorem d20_48 : decode c20 48 = .ok (.baload, 1) := by decide +kernel
theorem d20_49 : decode c20 49 = .ok (.sipush 255, 3) := by decide +kernel
theorem d20_52 : decode c20 52 = .ok (.iand, 1) := by decide +kernel
theorem d20_53 : decode c20 53 = .ok (.getstatic 63, 3) := by decide +kernel
theorem d20_56 : decode c20 56 = .ok (.ishl, 1) := by decide +kernel
theorem d20_57 : decode c20 57 = .ok (.ior, 1) := by decide +kernel
theorem d20_58 : decode c20 58 = .ok (.i2c, 1) := by decide +kernel
theorem d20_59 : decode c20 59 = .ok (.ireturn, 1) := by decide +kernel
theorem pn_gc : plainFor (⟨"java/lang/StringUTF16", "getChar", "([BI)C"⟩ : MethodName) = true := plainFor_of_name (by first | (simp [plainName, overriddenIn]; done) | decide +kernel)
theorem ef_gc (m : MethodId) (x0 : Addr) (x1 : Int32) : entryFrame m #[(.ref x0), (.int x1)] 2 = mkF m 0 #[.val (.ref x0), .val (.int x1)] [] := by first | (simp [entryFrame, mkF, argsToLocals, Value.category]; done) | rfl
theorem rm_gc (l : Launch) (Z : State) (a0 : Array Value) (hw : ∀ d ∈ tables_1, d.before a0 Z = true) (ws : List Jvm.Cond) (tb : Addr) (kt : ClassId) (xn : Nat) (ft : Nat → Int32) (xi xc : Nat) (zc : Int32) (fm : Value) (hS0 : Sf Z zc fm) (h0 : Heap) (n0 : Nat) (O : Old Z n0 h0) (V_t : Arv Z h0 tb kt .byte (nI (2 * xn)) (cont (2 * xn) ft) (.int 0)) (hy0 : xn < 100000) (hy1 : xi < xn) (hy2 : xc < 65536) (hR : dec (ft (2 * xi)) (ft (2 * xi + 1)) = nI xc) :
    MF l Z h0 (⟨"java/lang/StringUTF16", "getChar", "([BI)C"⟩ : MethodName) c20 2 (some .char) ws (rk 0 0 0 0) #[(.ref tb), (.int (nI xi))] (Qpure (some (.int (nI xc))) h0 n0) := by
  refine sg n0 [] pn_gc rfl (fun m => ef_gc m tb (nI xi)) fun p e s m below meth c s₁ Bd hml hZ hh hx B hown hnm X0 e0 N K => ?_
  let LL1 : Array Slot := #[.val (.ref tb), .val (.int (nI xi))]
  obtain ⟨T2, X2, e2, st2⟩ := getS2 X0 hx hZ hown (host := "") (Or.inl (wv hw 246 rfl)) Via.refl e0 (Sta.ext O.2 hS0.2.2.2.2.1) (g := (mkF m 0 LL1 [])) rfl (B d20_0)
  refine gb m T2 3 LL1 [(.int (1 : Int32))] (st2) ?_
  refine gb m T2 28 LL1 [] (fun _ k => XS.ifYes X2.here hx rfl (pc0 := 3) (pc' := 28) rfl (B d20_3) rfl ((if0 _ _).trans (feq (by decide : ¬ ((1 : Int32) = (0 : Int32)))).2) (by decide) (by decide) k) ?_
  refine sI 29 X2 hx (B d20_28) rfl rfl ?_
  refine sC 30 (1 : Int32) X2 hx (B d20_29) rfl rfl ?_
  refine gb m T2 31 LL1 [(.int ((nI xi) <<< ((1 : Int32) &&& 31)))] (fun _ k => XS.ishl X2.here hx rfl (B d20_30) rfl k) ?_
  rw [show ((nI xi) <<< ((1 : Int32) &&& 31)) = (nI (2 * xi)) from own_shl1 (a := xi) (by omega)]
  let LL4 : Array Slot := #[.val (.ref tb), .val (.int (nI (2 * xi)))]
  refine gb m T2 32 LL4 [] (fun _ k => XS.istoreN X2.here hx rfl (B d20_31) rfl (l' := LL4) rfl k) ?_
  refine sA 33 X2 hx (B d20_32) rfl rfl rfl ?_
  refine sI 34 X2 hx (B d20_33) rfl rfl ?_
  refine gb m T2 37 #[.val (.ref tb), .val (.int ((nI (2 * xi)) + (1 : Int32)))] [(.int (nI (2 * xi))), (.ref tb)] (fun _ k => XS.iinc X2.here hx rfl (B d20_34) rfl (l' := #[.val (.ref tb), .val (.int ((nI (2 * xi)) + (1 : Int32)))]) rfl k) ?_
  rw [show ((nI (2 * xi)) + (1 : Int32)) = (nI ((2 * xi) + 1)) from own_add _ _]
  obtain ⟨cl5, Ar5, q5, S5, N5', H5, G5⟩ := id V_t
  refine gb m T2 38 #[.val (.ref tb), .val (.int (nI ((2 * xi) + 1)))] [(.int (ft (2 * xi)))] (X2.baloadBytes hx (j := (nI (2 * xi))) (v := (.int (ft (2 * xi)))) (by rw [e2]; exact Ar5.1) (State.isArrayOf_alike hZ.alike Ar5.2.1) Ar5.2.2 (inb_of S5 ⟨own_neg (a := (2 * xi)) (by omega), (own_nlt (a := (2 * xi)) (b := (2 * xn)) (by omega) (by omega)).mpr (by omega)⟩) (Has.at H5 (inb_of S5 ⟨own_neg (a := (2 * xi)) (by omega), (own_nlt (a := (2 * xi)) (b := (2 * xn)) (by omega) (by omega)).mpr (by omega)⟩) (own_at (n := (2 * xn)) (i := (2 * xi)) (f := ft) (by omega) (by omega))) (g := (mkF m 37 #[.val (.ref tb), .val (.int (nI ((2 * xi) + 1)))] [(.int (nI (2 * xi))), (.ref tb)])) rfl rfl (B d20_37)) ?_
  refine sS 41 (255 : Int32) X2 hx (B d20_38) rfl rfl ?_
  refine gb m T2 42 #[.val (.ref tb), .val (.int (nI ((2 * xi) + 1)))] [(.int ((ft (2 * xi)) &&& (255 : Int32)))] (fun _ k => XS.iand X2.here hx rfl (B d20_41) rfl k) ?_
  obtain ⟨T6, X6, e6, st6⟩ := getS2 X2 hx hZ hown (host := "") (Or.inl (wv hw 247 rfl)) Via.refl e2 (Sta.ext O.2 hS0.2.2.2.2.2.1) (g := (mkF m 42 #[.val (.ref tb), .val (.int (nI ((2 * xi) + 1)))] [(.int ((ft (2 * xi)) &&& (255 : Int32)))])) rfl (B d20_42)
  refine gb m T6 45 #[.val (.ref tb), .val (.int (nI ((2 * xi) + 1)))] [(.int (0 : Int32)), (.int ((ft (2 * xi)) &&& (255 : Int32)))] (st6) ?_
  refine gb m T6 46 #[.val (.ref tb), .val (.int (nI ((2 * xi) + 1)))] [(.int (((ft (2 * xi)) &&& (255 : Int32)) <<< ((0 : Int32) &&& 31)))] (fun _ k => XS.ishl X6.here hx rfl (B d20_45) rfl k) ?_
  rw [show (((ft (2 * xi)) &&& (255 : Int32)) <<< ((0 : Int32) &&& 31)) = ((ft (2 * xi)) &&& (255 : Int32)) from own_shl0 _]
  refine sA 47 X6 hx (B d20_46) rfl rfl rfl ?_
  refine sI 48 X6 hx (B d20_47) rfl rfl ?_
  obtain ⟨cl7, Ar7, q7, S7, N7', H7, G7⟩ := id V_t
  refine gb m T6 49 #[.val (.ref tb), .val (.int (nI ((2 * xi) + 1)))] [(.int (ft ((2 * xi) + 1))), (.int ((ft (2 * xi)) &&& (255 : Int32)))] (X6.baloadBytes hx (j := (nI ((2 * xi) + 1))) (v := (.int (ft ((2 * xi) + 1)))) (by rw [e6]; exact Ar7.1) (State.isArrayOf_alike hZ.alike Ar7.2.1) Ar7.2.2 (inb_of S7 ⟨own_neg (a := ((2 * xi) + 1)) (by omega), (own_nlt (a := ((2 * xi) + 1)) (b := (2 * xn)) (by omega) (by omega)).mpr (by omega)⟩) (Has.at H7 (inb_of S7 ⟨own_neg (a := ((2 * xi) + 1)) (by omega), (own_nlt (a := ((2 * xi) + 1)) (b := (2 * xn)) (by omega) (by omega)).mpr (by omega)⟩) (own_at (n := (2 * xn)) (i := ((2 * xi) + 1)) (f := ft) (by omega) (by omega))) (g := (mkF m 48 #[.val (.ref tb), .val (.int (nI ((2 * xi) + 1)))] [(.int (nI ((2 * xi) + 1))), (.ref tb), (.int ((ft (2 * xi)) &&& (255 : Int32)))])) rfl rfl (B d20_48)) ?_
  refine sS 52 (255 : Int32) X6 hx (B d20_49) rfl rfl ?_
  refine gb m T6 53 #[.val (.ref tb), .val (.int (nI ((2 * xi) + 1)))] [(.int ((ft ((2 * xi) + 1)) &&& (255 : Int32))), (.int ((ft (2 * xi)) &&& (255 : Int32)))] (fun _ k => XS.iand X6.here hx rfl (B d20_52) rfl k) ?_
  obtain ⟨T8, X8, e8, st8⟩ := getS2 X6 hx hZ hown (host := "") (Or.inl (wv hw 248 rfl)) Via.refl e6 (Sta.ext O.2 hS0.2.2.2.2.2.2) (g := (mkF m 53 #[.val (.ref tb), .val (.int (nI ((2 * xi) + 1)))] [(.int ((ft ((2 * xi) + 1)) &&& (255 : Int32))), (.int ((ft (2 * xi)) &&& (255 : Int32)))])) rfl (B d20_53)
  refine gb m T8 56 #[.val (.ref tb), .val (.int (nI ((2 * xi) + 1)))] [(.int (8 : Int32)), (.int ((ft ((2 * xi) + 1)) &&& (255 : Int32))), (.int ((ft (2 * xi)) &&& (255 : Int32)))] (st8) ?_
  refine gb m T8 57 #[.val (.ref tb), .val (.int (nI ((2 * xi) + 1)))] [(.int (((ft ((2 * xi) + 1)) &&& (255 : Int32)) <<< ((8 : Int32) &&& 31))), (.int ((ft (2 * xi)) &&& (255 : Int32)))] (fun _ k => XS.ishl X8.here hx rfl (B d20_56) rfl k) ?_
  refine gb m T8 58 #[.val (.ref tb), .val (.int (nI ((2 * xi) + 1)))] [(.int (((ft (2 * xi)) &&& (255 : Int32)) ||| (((ft ((2 * xi) + 1)) &&& (255 : Int32)) <<< ((8 : Int32) &&& 31))))] (fun _ k => XS.ior X8.here hx rfl (B d20_57) rfl k) ?_
  refine gb m T8 59 #[.val (.ref tb), .val (.int (nI ((2 * xi) + 1)))] [(.int ((((ft (2 * xi)) &&& (255 : Int32)) ||| (((ft ((2 * xi) + 1)) &&& (255 : Int32)) <<< ((8 : Int32) &&& 31))).toUInt32.toUInt16.toUInt32.toInt32))] (fun _ k => XS.i2c X8.here hx rfl (B d20_58) rfl k) ?_
  obtain ⟨fs, hr, hrun, hended, hW, hsame⟩ := X8.leave (v := some (.int (nar .char ((((ft (2 * xi)) &&& (255 : Int32)) ||| (((ft ((2 * xi) + 1)) &&& (255 : Int32)) <<< ((8 : Int32) &&& 31))).toUInt32.toUInt16.toUInt32.toInt32)))) (fun h => by rw [Bd.returns] at h; cases h)
  refine ⟨_, _, retN X8 hx (t := .char) Bd.returns (by simp) (B d20_59) hr, hrun, hended, _, _, rfl, ?_, ⟨_, rfl⟩, hW, hsame.mono (by decide) (by decide)⟩
  show Qpure (some (.int (nI xc))) h0 n0 (some (.int (nar .char ((((ft (2 * xi)) &&& (255 : Int32)) ||| (((ft ((2 * xi) + 1)) &&& (255 : Int32)) <<< ((8 : Int32) &&& 31))).toUInt32.toUInt16.toUInt32.toInt32)))) T8.heap _
  rw [e8]
  exact ⟨congrArg (fun z => some (Value.int z)) (own_gcv hR hy2), N, rfl⟩

theorem d21_0 : decode c21 0 = .ok (.getstatic 44, 3) := by decide +kernel
theorem d21_3 : decode c21 3 = .ok (.ifCond .ne 25, 3) := by decide +kernel
theorem d21_28 : decode c21 28 = .ok (.iload_n 1, 1) := by decide +kernel
theorem d21_29 : decode c21 29 = .ok (.iconst 1, 1) := by decide +kernel
theorem d21_30 : decode c21 30 = .ok (.ishl, 1) := by decide +kernel
theorem d21_31 : decode c21 31 = .ok (.istore_n 1, 1) := by decide +kernel
theorem d21_32 : decode c21 32 = .ok (.aload_n 0, 1) := by decide +kernel
theorem d21_33 : decode c21 33 = .ok (.iload_n 1, 1) := by decide +kernel
theorem d21_34 : decode c21 34 = .ok (.iinc 1 1, 3) := by decide +kernel
theorem d21_37 : decode c21 37 = .ok (.iload_n 2, 1) := by decide +kernel
theorem d21_38 : decode c21 38 = .ok (.getstatic 59, 3) := by decide +kernel
theorem d21_41 : decode c21 41 = .ok (.ishr, 1) := by decide +kernel
theorem d21_42 : decode c21 42 = .ok (.i2b, 1) := by decide +kernel
theorem d21_43 : decode c21 43 = .ok (.bastore, 1) := by decide +kernel
theorem d21_44 : decode c21 44 = .ok (.aload_n 0, 1) := by decide +kernel
theorem d21_45 : decode c21 45 = .ok (.iload_n 1, 1) := by decide +kernel
theorem d21_46 : decode c21 46 = .ok (.iload_n 2, 1) := by decide +kernel
theorem d21_47 : decode c21 47 = .ok (.getstatic 63, 3) := by decide +kernel
theorem d21_50 : decode c21 50 = .ok (.ishr, 1) := by decide +kernel
theorem d21_51 : decode c21 51 = .ok (.i2b, 1) := by decide +kernel
theorem d21_52 : decode c21 52 = .ok (.bastore, 1) := by decide +kernel
theorem d21_53 : decode c21 53 = .ok (.return_, 1) := by decide +kernel
theorem pn_pc : plainFor (⟨"java/lang/StringUTF16", "putChar", "([BII)V"⟩ : MethodName) = true := plainFor_of_name (by first | (simp [plainName, overriddenIn]; done) | decide +kernel)
theorem ef_pc (m : MethodId) (x0 : Addr) (x1 : Int32) (x2 : Int32) : entryFrame m #[(.ref x0), (.int x1), (.int x2)] 3 = mkF m 0 #[.val (.ref x0), .val (.int x1), .val (.int x2)] [] := by first | (simp [entryFrame, mkF, argsToLocals, Value.category]; done) | rfl
theorem rm_pc (l : Launch) (Z : State) (a0 : Array Value) (hw : ∀ d ∈ tables_1, d.before a0 Z = true) (ws : List Jvm.Cond) (tb : Addr) (kt : ClassId) (xn : Nat) (ft : Nat → Int32) (xi xc : Nat) (zc : Int32) (fm : Value) (hS0 : Sf Z zc fm) (h0 : Heap) (n0 : Nat) (O : Old Z n0 h0) (V_t : Arv Z h0 tb kt .byte (nI (2 * xn)) (cont (2 * xn) ft) (.int 0)) (g_tb : n0 ≤ tb) (hy0 : xn < 100000) (hy1 : xi < xn) (hy2 : xc < 65536) :
    MF l Z h0 (⟨"java/lang/StringUTF16", "putChar", "([BII)V"⟩ : MethodName) c21 3 none ws (rk 0 0 0 0) #[(.ref tb), (.int (nI xi)), (.int (nI xc))] (Qwr Z tb (2 * xn) (fun f => dec (f (2 * xi)) (f (2 * xi + 1)) = nI xc ∧ ∀ j, j ≠ 2 * xi → j ≠ 2 * xi + 1 → f j = ft j) h0 n0) := by
  refine sg n0 [tb] pn_pc rfl (fun m => ef_pc m tb (nI xi) (nI xc)) fun p e s m below meth c s₁ Bd hml hZ hh hx B hown hnm X0 e0 N K => ?_
  let LL1 : Array Slot := #[.val (.ref tb), .val (.int (nI xi)), .val (.int (nI xc))]
  obtain ⟨T2, X2, e2, st2⟩ := getS2 X0 hx hZ hown (host := "") (Or.inl (wv hw 246 rfl)) Via.refl e0 (Sta.ext O.2 hS0.2.2.2.2.1) (g := (mkF m 0 LL1 [])) rfl (B d21_0)
  refine gb m T2 3 LL1 [(.int (1 : Int32))] (st2) ?_
  refine gb m T2 28 LL1 [] (fun _ k => XS.ifYes X2.here hx rfl (pc0 := 3) (pc' := 28) rfl (B d21_3) rfl ((if0 _ _).trans (feq (by decide : ¬ ((1 : Int32) = (0 : Int32)))).2) (by decide) (by decide) k) ?_
  refine sI 29 X2 hx (B d21_28) rfl rfl ?_
  refine sC 30 (1 : Int32) X2 hx (B d21_29) rfl rfl ?_
  refine gb m T2 31 LL1 [(.int ((nI xi) <<< ((1 : Int32) &&& 31)))] (fun _ k => XS.ishl X2.here hx rfl (B d21_30) rfl k) ?_
  rw [show ((nI xi) <<< ((1 : Int32) &&& 31)) = (nI (2 * xi)) from own_shl1 (a := xi) (by omega)]
  let LL4 : Array Slot := #[.val (.ref tb), .val (.int (nI (2 * xi))), .val (.int (nI xc))]
  refine gb m T2 32 LL4 [] (fun _ k => XS.istoreN X2.here hx rfl (B d21_31) rfl (l' := LL4) rfl k) ?_
  refine sA 33 X2 hx (B d21_32) rfl rfl rfl ?_
  refine sI 34 X2 hx (B d21_33) rfl rfl ?_
  refine gb m T2 37 #[.val (.ref tb), .val (.int ((nI (2 * xi)) + (1 : Int32))), .val (.int (nI xc))] [(.int (nI (2 * xi))), (.ref tb)] (fun _ k => XS.iinc X2.here hx rfl (B d21_34) rfl (l' := #[.val (.ref tb), .val (.int ((nI (2 * xi)) + (1 : Int32))), .val (.int (nI xc))]) rfl k) ?_
  rw [show ((nI (2 * xi)) + (1 : Int32)) = (nI ((2 * xi) + 1)) from own_add _ _]
  refine sI 38 X2 hx (B d21_37) rfl rfl ?_
  obtain ⟨T5, X5, e5, st5⟩ := getS2 X2 hx hZ hown (host := "") (Or.inl (wv hw 247 rfl)) Via.refl e2 (Sta.ext O.2 hS0.2.2.2.2.2.1) (g := (mkF m 38 #[.val (.ref tb), .val (.int (nI ((2 * xi) + 1))), .val (.int (nI xc))] [(.int (nI xc)), (.int (nI (2 * xi))), (.ref tb)])) rfl (B d21_38)
  refine gb m T5 41 #[.val (.ref tb), .val (.int (nI ((2 * xi) + 1))), .val (.int (nI xc))] [(.int (0 : Int32)), (.int (nI xc)), (.int (nI (2 * xi))), (.ref tb)] (st5) ?_
  refine gb m T5 42 #[.val (.ref tb), .val (.int (nI ((2 * xi) + 1))), .val (.int (nI xc))] [(.int ((nI xc) >>> ((0 : Int32) &&& 31))), (.int (nI (2 * xi))), (.ref tb)] (fun _ k => XS.ishr X5.here hx rfl (B d21_41) rfl k) ?_
  refine gb m T5 43 #[.val (.ref tb), .val (.int (nI ((2 * xi) + 1))), .val (.int (nI xc))] [(.int (((nI xc) >>> ((0 : Int32) &&& 31)).toInt8.toInt32)), (.int (nI (2 * xi))), (.ref tb)] (fun _ k => XS.i2b X5.here hx rfl (B d21_42) rfl k) ?_
  obtain ⟨cl6, Ar6, q6, S6, N6', H6, G6⟩ := id V_t
  obtain ⟨T6, h6, X6, e6, W6, st6⟩ := stB X5 hx hZ e5 Ar6 (j := (nI (2 * xi))) (inb_of S6 ⟨own_neg (a := (2 * xi)) (by omega), (own_nlt (a := (2 * xi)) (b := (2 * xn)) (by omega) (by omega)).mpr (by omega)⟩) (g := (mkF m 43 #[.val (.ref tb), .val (.int (nI ((2 * xi) + 1))), .val (.int (nI xc))] [(.int (((nI xc) >>> ((0 : Int32) &&& 31)).toInt8.toInt32)), (.int (nI (2 * xi))), (.ref tb)])) rfl rfl (B d21_43)
  replace V_t := (show Arv Z h6 tb _ .byte (nI (2 * xn)) ((cont (2 * xn) ft).set (2 * xi) (.int (nar .byte (((nI xc) >>> ((0 : Int32) &&& 31)).toInt8.toInt32)))) (.int 0) from Arv.set Ar6 q6 S6 N6' H6 G6 (fits_nar_byte _) W6 (2 * xi) (own_nat (a := (2 * xi)) (by omega)) (by rw [own_clen]; omega))
  rw [own_cset (by omega)] at V_t
  obtain ⟨fd6, hfd6⟩ : ∃ g, g = upd ft (2 * xi) (nar .byte (((nI xc) >>> ((0 : Int32) &&& 31)).toInt8.toInt32)) := ⟨_, rfl⟩
  rw [← hfd6] at V_t
  replace O := O.wr W6 g_tb
  replace K := K.wr W6 (Or.inl (by simp))
  replace N := Fr.snoc X6 N g_tb
  refine gb m T6 44 #[.val (.ref tb), .val (.int (nI ((2 * xi) + 1))), .val (.int (nI xc))] [] (st6) ?_
  refine sA 45 X6 hx (B d21_44) rfl rfl rfl ?_
  refine sI 46 X6 hx (B d21_45) rfl rfl ?_
  refine sI 47 X6 hx (B d21_46) rfl rfl ?_
  obtain ⟨T7, X7, e7, st7⟩ := getS2 X6 hx hZ hown (host := "") (Or.inl (wv hw 248 rfl)) Via.refl e6 (Sta.ext O.2 hS0.2.2.2.2.2.2) (g := (mkF m 47 #[.val (.ref tb), .val (.int (nI ((2 * xi) + 1))), .val (.int (nI xc))] [(.int (nI xc)), (.int (nI ((2 * xi) + 1))), (.ref tb)])) rfl (B d21_47)
  refine gb m T7 50 #[.val (.ref tb), .val (.int (nI ((2 * xi) + 1))), .val (.int (nI xc))] [(.int (8 : Int32)), (.int (nI xc)), (.int (nI ((2 * xi) + 1))), (.ref tb)] (st7) ?_
  refine gb m T7 51 #[.val (.ref tb), .val (.int (nI ((2 * xi) + 1))), .val (.int (nI xc))] [(.int ((nI xc) >>> ((8 : Int32) &&& 31))), (.int (nI ((2 * xi) + 1))), (.ref tb)] (fun _ k => XS.ishr X7.here hx rfl (B d21_50) rfl k) ?_
  refine gb m T7 52 #[.val (.ref tb), .val (.int (nI ((2 * xi) + 1))), .val (.int (nI xc))] [(.int (((nI xc) >>> ((8 : Int32) &&& 31)).toInt8.toInt32)), (.int (nI ((2 * xi) + 1))), (.ref tb)] (fun _ k => XS.i2b X7.here hx rfl (B d21_51) rfl k) ?_
  obtain ⟨cl8, Ar8, q8, S8, N8', H8, G8⟩ := id V_t
  obtain ⟨T8, h8, X8, e8, W8, st8⟩ := stB X7 hx hZ e7 Ar8 (j := (nI ((2 * xi) + 1))) (inb_of S8 ⟨own_neg (a := ((2 * xi) + 1)) (by omega), (own_nlt (a := ((2 * xi) + 1)) (b := (2 * xn)) (by omega) (by omega)).mpr (by omega)⟩) (g := (mkF m 52 #[.val (.ref tb), .val (.int (nI ((2 * xi) + 1))), .val (.int (nI xc))] [(.int (((nI xc) >>> ((8 : Int32) &&& 31)).toInt8.toInt32)), (.int (nI ((2 * xi) + 1))), (.ref tb)])) rfl rfl (B d21_52)
  replace V_t := (show Arv Z h8 tb _ .byte (nI (2 * xn)) ((cont (2 * xn) fd6).set ((2 * xi) + 1) (.int (nar .byte (((nI xc) >>> ((8 : Int32) &&& 31)).toInt8.toInt32)))) (.int 0) from Arv.set Ar8 q8 S8 N8' H8 G8 (fits_nar_byte _) W8 ((2 * xi) + 1) (own_nat (a := ((2 * xi) + 1)) (by omega)) (by rw [own_clen]; omega))
  rw [own_cset (by omega)] at V_t
  obtain ⟨fd8, hfd8⟩ : ∃ g, g = upd fd6 ((2 * xi) + 1) (nar .byte (((nI xc) >>> ((8 : Int32) &&& 31)).toInt8.toInt32)) := ⟨_, rfl⟩
  rw [← hfd8] at V_t
  replace O := O.wr W8 g_tb
  replace K := K.wr W8 (Or.inl (by simp))
  replace N := Fr.snoc X8 N g_tb
  refine gb m T8 53 #[.val (.ref tb), .val (.int (nI ((2 * xi) + 1))), .val (.int (nI xc))] [] (st8) ?_
  obtain ⟨fs, hr, hrun, hended, hW, hsame⟩ := X8.leave (v := none) (fun _ => rfl)
  refine ⟨_, _, X8.returnOut hx Bd.returns (B d21_53) hr, hrun, hended, _, _, rfl, ?_, ⟨_, rfl⟩, hW, hsame.mono (by decide) (by decide)⟩
  show Qwr Z tb (2 * xn) (fun f => dec (f (2 * xi)) (f (2 * xi + 1)) = nI xc ∧ ∀ j, j ≠ 2 * xi → j ≠ 2 * xi + 1 → f j = ft j) h0 n0 (none) T8.heap _
  rw [e8]
  have hpp := own_put2 (i := xi) (k := xc) hy2 hfd6 hfd8
  exact ⟨rfl, N, K, kt, _, V_t, hpp⟩

theorem d22_0 : decode c22 0 = .ok (.iload_n 0, 1) := by decide +kernel
theorem d22_1 : decode c22 1 = .ok (.invokestatic 11, 3) := by decide +kernel
theorem d22_4 : decode c22 4 = .ok (.newarray .byte, 2) := by decide +kernel
theorem d22_6 : decode c22 6 = .ok (.areturn, 1) := by decide +kernel
theorem pn_nbf : plainFor (⟨"java/lang/StringUTF16", "newBytesFor", "(I)[B"⟩ : MethodName) = true := plainFor_of_name (by first | (simp [plainName, overriddenIn]; done) | decide +kernel)
theorem pd6 : parseMethodDescriptor "(I)I" = some ⟨[.int], some .int⟩ := by decide +kernel
theorem ef_nbf (m : MethodId) (x0 : Int32) : entryFrame m #[(.int x0)] 1 = mkF m 0 #[.val (.int x0)] [] := by first | (simp [entryFrame, mkF, argsToLocals, Value.category]; done) | rfl
theorem rm_nbf (l : Launch) (Z : State) (a0 : Array Value) (hw : ∀ d ∈ tables_1, d.before a0 Z = true) (ws : List Jvm.Cond) (xn : Nat) (h0 : Heap) (n0 : Nat) (O : Old Z n0 h0) (hy0 : xn ≤ 520) :
    MF l Z h0 (⟨"java/lang/StringUTF16", "newBytesFor", "(I)[B"⟩ : MethodName) c22 1 (some (.array .byte)) ws (rk 1 1 1040 12) #[(.int (nI xn))] (Qnw Z (2 * xn) (fun _ => True) h0 n0) := by
  refine sg n0 [] pn_nbf rfl (fun m => ef_nbf m (nI xn)) fun p e s m below meth c s₁ Bd hml hZ hh hx B hown hnm X0 e0 N K => ?_
  let LL1 : Array Slot := #[.val (.int (nI xn))]
  refine sI 1 X0 hx (B d22_0) rfl rfl ?_
  have hy2_0 : xn < 100000 := by omega
  obtain ⟨v2, T2, Lc2, X2, hQ2, st2⟩ := cS LL1 [] X0 hx hZ hown hw e0 hml 239 240 23 241 rfl rfl rfl rfl (by decide) (rm_nbl l Z a0 hw [] xn   h0 n0 O hy2_0) pd6 rfl rfl (B d22_1) rfl
  obtain ⟨rfl, Nq2, e2⟩ := hQ2
  replace N := Fr.app N Nq2
  refine gb m T2 4 LL1 [(.int (nI (2 * xn)))] (st2) ?_
  obtain ⟨T3, h3, k3, X3, e3, E3, A3, B3, st3⟩ := newPE X2 hx hZ (wv hw 25 rfl) e2 (g := (mkF m 4 LL1 [(.int (nI (2 * xn)))])) rfl (B d22_4) (n := (nI (2 * xn))) rfl (own_neg (a := (2 * xn)) (by omega)) (cap := 1040) (by rw [own_nat (a := (2 * xn)) (by omega)]; omega) (by decide) (by decide) (by decide) (ad := "[B") (by decide)
  obtain ⟨b3, g3⟩ : ∃ z, z = h0.size := ⟨_, rfl⟩
  rw [← g3] at A3 B3 st3
  have sz_b3 : h0.size ≤ b3 := Nat.le_trans K.1 (Nat.le_of_eq g3.symm)
  replace O := O.ext E3
  replace K := K.ext E3
  have V_b3 : Arv Z h3 b3 k3 .byte (nI (2 * xn)) (cont (2 * xn) (fun _ => 0)) (.int 0) := own_cnew (Arv.new A3 (own_neg (a := (2 * xn)) (by omega)))
  have E_b3 := B3
  obtain ⟨fz3, hfz3⟩ : ∃ g : Nat → Int32, g = fun _ => 0 := ⟨_, rfl⟩
  rw [← hfz3] at V_b3
  refine gb m T3 6 LL1 [(.ref b3)] (st3) ?_
  obtain ⟨fs, hr, hrun, hended, hW, hsame⟩ := X3.leave (v := some (.ref b3)) (fun h => by rw [Bd.returns] at h; cases h)
  refine ⟨_, _, retOut X3 hx Bd.returns rfl (Or.inr (Or.inr (Or.inr (Or.inr ⟨rfl, rfl, rfl⟩)))) (B d22_6) hr, hrun, hended, _, _, rfl, ?_, ⟨_, rfl⟩, hW, hsame.mono (by decide) (by decide)⟩
  show Qnw Z (2 * xn) (fun _ => True) h0 n0 (some (.ref b3)) T3.heap _
  rw [e3]
  exact ⟨_, _, _, rfl, N, K, sz_b3, V_b3, E_b3, trivial⟩

theorem d23_0 : decode c23 0 = .ok (.iconst 0, 1) := by decide +kernel
theorem d23_1 : decode c23 1 = .ok (.istore 5, 2) := by decide +kernel
theorem d23_3 : decode c23 3 = .ok (.iload 5, 2) := by decide +kernel
theorem d23_5 : decode c23 5 = .ok (.iload 4, 2) := by decide +kernel
theorem d23_7 : decode c23 7 = .ok (.if_icmp .ge 37, 3) := by decide +kernel
theorem d23_10 : decode c23 10 = .ok (.aload_n 0, 1) := by decide +kernel
theorem d23_11 : decode c23 11 = .ok (.iload_n 1, 1) := by decide +kernel
theorem d23_12 : decode c23 12 = .ok (.caload, 1) := by decide +kernel
theorem d23_13 : decode c23 13 = .ok (.istore 6, 2) := by decide +kernel
theorem d23_15 : decode c23 15 = .ok (.iload 6, 2) := by decide +kernel
theorem d23_17 : decode c23 17 = .ok (.sipush 255, 3) := by decide +kernel
theorem d23_20 : decode c23 20 = .ok (.if_icmp .le 6, 3) := by decide +kernel
theorem d23_23 : decode c23 23 = .ok (.iload 5, 2) := by decide +kernel
theorem d23_25 : decode c23 25 = .ok (.ireturn, 1) := by decide +kernel
theorem d23_26 : decode c23 26 = .ok (.aload_n 2, 1) := by decide +kernel
theorem d23_27 : decode c23 27 = .ok (.iload_n 3, 1) := by decide +kernel
theorem d23_28 : decode c23 28 = .ok (.iload 6, 2) := by decide +kernel
theorem d23_30 : decode c23 30 = .ok (.i2b, 1) := by decide +kernel
theorem d23_31 : decode c23 31 = .ok (.bastore, 1) := by decide +kernel
theorem d23_32 : decode c23 32 = .ok (.iinc 1 1, 3) := by decide +kernel
theorem d23_35 : decode c23 35 = .ok (.iinc 3 1, 3) := by decide +kernel
theorem d23_38 : decode c23 38 = .ok (.iinc 5 1, 3) := by decide +kernel
theorem d23_41 : decode c23 41 = .ok (.goto (-38), 3) := by decide +kernel
theorem d23_44 : decode c23 44 = .ok (.iload 4, 2) := by decide +kernel
theorem d23_46 : decode c23 46 = .ok (.ireturn, 1) := by decide +kernel
theorem pn_cmc : plainFor (⟨"java/lang/StringUTF16", "compress", "([CI[BII)I"⟩ : MethodName) = true := plainFor_of_name (by first | (simp [plainName, overriddenIn]; done) | decide +kernel)
theorem ef_cmc (m : MethodId) (x0 : Addr) (x2 : Addr) (x4 : Int32) : entryFrame m #[(.ref x0), (.int (0 : Int32)), (.ref x2), (.int (0 : Int32)), (.int x4)] 7 = mkF m 0 #[.val (.ref x0), .val (.int (0 : Int32)), .val (.ref x2), .val (.int (0 : Int32)), .val (.int x4), .unset, .unset] [] := by first | (simp [entryFrame, mkF, argsToLocals, Value.category]; done) | rfl
theorem rm_cmc (l : Launch) (Z : State) (a0 : Array Value) (hw : ∀ d ∈ tables_1, d.before a0 Z = true) (ws : List Jvm.Cond) (ca : Addr) (kc : ClassId) (nn : Nat) (ch : Nat → Nat) (tb : Addr) (kt : ClassId) (ft : Nat → Int32) (h0 : Heap) (n0 : Nat) (O : Old Z n0 h0) (V_c : Arv Z h0 ca kc .char (nI nn) (cont nn (chf ch)) (.int 0)) (hch : ∀ i, ch i < 65536) (hnn : nn ≤ 260) (V_t : Arv Z h0 tb kt .byte (nI nn) (cont nn ft) (.int 0)) (g_tb : n0 ≤ tb) (hne : ca ≠ tb) :
    MF l Z h0 (⟨"java/lang/StringUTF16", "compress", "([CI[BII)I"⟩ : MethodName) c23 7 (some .int) ws (rk 0 0 0 0) #[(.ref ca), (.int (0 : Int32)), (.ref tb), (.int (0 : Int32)), (.int (nI nn))] (Qcp Z tb nn ch h0 n0) := by
  refine sg n0 [tb] pn_cmc rfl (fun m => ef_cmc m ca tb (nI nn)) fun p e s m below meth c s₁ Bd hml hZ hh hx B hown hnm X0 e0 N K => ?_
  let LL1 : Array Slot := #[.val (.ref ca), .val (.int (0 : Int32)), .val (.ref tb), .val (.int (0 : Int32)), .val (.int (nI nn)), .unset, .unset]
  refine sC 1 (0 : Int32) X0 hx (B d23_0) rfl rfl ?_
  let LL2 : Array Slot := #[.val (.ref ca), .val (.int (0 : Int32)), .val (.ref tb), .val (.int (0 : Int32)), .val (.int (nI nn)), .val (.int (0 : Int32)), .unset]
  refine gb m s₁ 3 LL2 [] (fun _ k => XS.istore X0.here hx rfl (B d23_1) rfl (l' := LL2) rfl k) ?_
  have LP3 : ∀ (fu3 : Nat) (i0 : Nat) (f0 : Nat → Int32) (s6 : Slot) (Tq3 : State) (hq3 : Heap) (Lq3 : List Loc), (fu3 + i0 = nn) → (Lat i0 f0 ch) → (s6 = .unset ∨ ∃ z, s6 = .val (.int z)) → (Stand p l e (rk 0 0 0 0) s m #[(.ref ca), (.int (0 : Int32)), (.ref tb), (.int (0 : Int32)), (.int (nI nn))] below meth c Tq3 Lq3 0 0) → (Tq3.heap = hq3) → (Old Z n0 hq3) → (Keep h0 hq3 [tb]) → (Fr n0 Lq3) → (Arv Z hq3 ca kc .char (nI nn) (cont nn (chf ch)) (.int 0)) → (Arv Z hq3 tb kt .byte (nI nn) (cont nn f0) (.int 0)) → Go p e below (fun o U' => ∃ v L, o = .returned v ∧ Qcp Z tb nn ch h0 n0 v U'.heap L ∧ FrameEnd s o U' L (rk 0 0 0 0).cells (rk 0 0 0 0).slots) Tq3 (mkF m 3 #[.val (.ref ca), .val (.int (nI i0)), .val (.ref tb), .val (.int (nI i0)), .val (.int (nI nn)), .val (.int (nI i0)), s6] []) := by
   intro fu3
   induction fu3 with
   | zero =>
    intro i0 f0 s6 Tq3 hq3 Lq3 hfu3 hL0 hs6 Xq3 eq3 O K N V_c V_t
    refine tI 5 Xq3 hx (B d23_3) rfl rfl ?_
    refine tI 7 Xq3 hx (B d23_5) rfl rfl ?_
    refine gb m Tq3 44 #[.val (.ref ca), .val (.int (nI i0)), .val (.ref tb), .val (.int (nI i0)), .val (.int (nI nn)), .val (.int (nI i0)), s6] [] (fun _ k => XS.icmpYes Xq3.here hx rfl (pc0 := 7) (pc' := 44) rfl (B d23_7) rfl (flt (mt (own_nlt (a := i0) (b := nn) (by omega) (by omega)).mp (by omega))).2.1 (by decide) (by decide) k) ?_
    refine tI 46 Xq3 hx (B d23_44) rfl rfl ?_
    obtain ⟨fs, hr, hrun, hended, hW, hsame⟩ := Xq3.leave (v := some (.int (nI nn))) (fun h => by rw [Bd.returns] at h; cases h)
    refine ⟨_, _, retOut Xq3 hx Bd.returns rfl (Or.inl ⟨rfl, Or.inl rfl, _, rfl⟩) (B d23_46) hr, hrun, hended, _, _, rfl, ?_, ⟨_, rfl⟩, hW, hsame.mono (by decide) (by decide)⟩
    show Qcp Z tb nn ch h0 n0 (some (.int (nI nn))) Tq3.heap _
    rw [eq3]
    exact ⟨nn, _, _, rfl, N, K, V_t, by omega, (by rw [show nn = i0 by omega]; exact hL0), fun _ => by omega⟩
   | succ fu3 ih =>
    intro i0 f0 s6 Tq3 hq3 Lq3 hfu3 hL0 hs6 Xq3 eq3 O K N V_c V_t
    refine tI 5 Xq3 hx (B d23_3) rfl rfl ?_
    refine tI 7 Xq3 hx (B d23_5) rfl rfl ?_
    refine gb m Tq3 10 #[.val (.ref ca), .val (.int (nI i0)), .val (.ref tb), .val (.int (nI i0)), .val (.int (nI nn)), .val (.int (nI i0)), s6] [] (fun _ k => XS.icmpNo Xq3.here hx rfl (B d23_7) rfl (tlt ((own_nlt (a := i0) (b := nn) (by omega) (by omega)).mpr (by omega))).2.1 k) ?_
    refine sA 11 Xq3 hx (B d23_10) rfl rfl rfl ?_
    refine sI 12 Xq3 hx (B d23_11) rfl rfl ?_
    obtain ⟨cl6, Ar6, q6, S6, N6', H6, G6⟩ := id V_c
    refine gb m Tq3 13 #[.val (.ref ca), .val (.int (nI i0)), .val (.ref tb), .val (.int (nI i0)), .val (.int (nI nn)), .val (.int (nI i0)), s6] [(.int (nI (ch i0)))] (Xq3.caload hx (j := (nI i0)) (v := (.int (nI (ch i0)))) (by rw [eq3]; exact Ar6.1) (State.isArrayOf_alike hZ.alike Ar6.2.1) Ar6.2.2 (inb_of S6 ⟨own_neg (a := i0) (by omega), (own_nlt (a := i0) (b := nn) (by omega) (by omega)).mpr (by omega)⟩) (Has.at H6 (inb_of S6 ⟨own_neg (a := i0) (by omega), (own_nlt (a := i0) (b := nn) (by omega) (by omega)).mpr (by omega)⟩) (own_at (n := nn) (i := i0) (f := (chf ch)) (by omega) (by omega))) (g := (mkF m 12 #[.val (.ref ca), .val (.int (nI i0)), .val (.ref tb), .val (.int (nI i0)), .val (.int (nI nn)), .val (.int (nI i0)), s6] [(.int (nI i0)), (.ref ca)])) rfl rfl (B d23_12)) ?_
    have hci := hch i0
    refine gb m Tq3 15 #[.val (.ref ca), .val (.int (nI i0)), .val (.ref tb), .val (.int (nI i0)), .val (.int (nI nn)), .val (.int (nI i0)), .val (.int (nI (ch i0)))] [] (fun _ k => XS.istore Xq3.here hx rfl (B d23_13) rfl (l' := #[.val (.ref ca), .val (.int (nI i0)), .val (.ref tb), .val (.int (nI i0)), .val (.int (nI nn)), .val (.int (nI i0)), .val (.int (nI (ch i0)))]) (by rcases hs6 with rfl | ⟨z6, rfl⟩ <;> rfl) k) ?_
    refine tI 17 Xq3 hx (B d23_15) rfl rfl ?_
    refine sS 20 (255 : Int32) Xq3 hx (B d23_17) rfl rfl ?_
    by_cases hc20_7 : 255 < (ch i0)
    ·
     refine gb m Tq3 23 #[.val (.ref ca), .val (.int (nI i0)), .val (.ref tb), .val (.int (nI i0)), .val (.int (nI nn)), .val (.int (nI i0)), .val (.int (nI (ch i0)))] [] (fun _ k => XS.icmpNo Xq3.here hx rfl (B d23_20) rfl (tlt ((own_nlt (a := 255) (b := (ch i0)) (by omega) (by omega)).mpr hc20_7)).2.2.2 k) ?_
     refine tI 25 Xq3 hx (B d23_23) rfl rfl ?_
     obtain ⟨fs, hr, hrun, hended, hW, hsame⟩ := Xq3.leave (v := some (.int (nI i0))) (fun h => by rw [Bd.returns] at h; cases h)
     refine ⟨_, _, retOut Xq3 hx Bd.returns rfl (Or.inl ⟨rfl, Or.inl rfl, _, rfl⟩) (B d23_25) hr, hrun, hended, _, _, rfl, ?_, ⟨_, rfl⟩, hW, hsame.mono (by decide) (by decide)⟩
     show Qcp Z tb nn ch h0 n0 (some (.int (nI i0))) Tq3.heap _
     rw [eq3]
     exact ⟨i0, _, _, rfl, N, K, V_t, by omega, hL0, fun _ => by omega⟩
    ·
     refine gb m Tq3 26 #[.val (.ref ca), .val (.int (nI i0)), .val (.ref tb), .val (.int (nI i0)), .val (.int (nI nn)), .val (.int (nI i0)), .val (.int (nI (ch i0)))] [] (fun _ k => XS.icmpYes Xq3.here hx rfl (pc0 := 20) (pc' := 26) rfl (B d23_20) rfl (flt (mt (own_nlt (a := 255) (b := (ch i0)) (by omega) (by omega)).mp hc20_7)).2.2.2 (by decide) (by decide) k) ?_
     refine sA 27 Xq3 hx (B d23_26) rfl rfl rfl ?_
     refine sI 28 Xq3 hx (B d23_27) rfl rfl ?_
     refine tI 30 Xq3 hx (B d23_28) rfl rfl ?_
     refine gb m Tq3 31 #[.val (.ref ca), .val (.int (nI i0)), .val (.ref tb), .val (.int (nI i0)), .val (.int (nI nn)), .val (.int (nI i0)), .val (.int (nI (ch i0)))] [(.int ((nI (ch i0)).toInt8.toInt32)), (.int (nI i0)), (.ref tb)] (fun _ k => XS.i2b Xq3.here hx rfl (B d23_30) rfl k) ?_
     obtain ⟨cl8, Ar8, q8, S8, N8', H8, G8⟩ := id V_t
     obtain ⟨T8, h8, X8, e8, W8, st8⟩ := stB Xq3 hx hZ eq3 Ar8 (j := (nI i0)) (inb_of S8 ⟨own_neg (a := i0) (by omega), (own_nlt (a := i0) (b := nn) (by omega) (by omega)).mpr (by omega)⟩) (g := (mkF m 31 #[.val (.ref ca), .val (.int (nI i0)), .val (.ref tb), .val (.int (nI i0)), .val (.int (nI nn)), .val (.int (nI i0)), .val (.int (nI (ch i0)))] [(.int ((nI (ch i0)).toInt8.toInt32)), (.int (nI i0)), (.ref tb)])) rfl rfl (B d23_31)
     replace V_c := V_c.other W8 hne
     replace V_t := (show Arv Z h8 tb _ .byte (nI nn) ((cont nn f0).set i0 (.int (nar .byte ((nI (ch i0)).toInt8.toInt32)))) (.int 0) from Arv.set Ar8 q8 S8 N8' H8 G8 (fits_nar_byte _) W8 i0 (own_nat (a := i0) (by omega)) (by rw [own_clen]; omega))
     rw [own_cset (by omega)] at V_t
     obtain ⟨fd8, hfd8⟩ : ∃ g, g = upd f0 i0 (nar .byte ((nI (ch i0)).toInt8.toInt32)) := ⟨_, rfl⟩
     rw [← hfd8] at V_t
     replace O := O.wr W8 g_tb
     replace K := K.wr W8 (Or.inl (by simp))
     replace N := Fr.snoc X8 N g_tb
     refine gb m T8 32 #[.val (.ref ca), .val (.int (nI i0)), .val (.ref tb), .val (.int (nI i0)), .val (.int (nI nn)), .val (.int (nI i0)), .val (.int (nI (ch i0)))] [] (st8) ?_
     refine gb m T8 35 #[.val (.ref ca), .val (.int ((nI i0) + (1 : Int32))), .val (.ref tb), .val (.int (nI i0)), .val (.int (nI nn)), .val (.int (nI i0)), .val (.int (nI (ch i0)))] [] (fun _ k => XS.iinc X8.here hx rfl (B d23_32) rfl (l' := #[.val (.ref ca), .val (.int ((nI i0) + (1 : Int32))), .val (.ref tb), .val (.int (nI i0)), .val (.int (nI nn)), .val (.int (nI i0)), .val (.int (nI (ch i0)))]) rfl k) ?_
     rw [show ((nI i0) + (1 : Int32)) = (nI (i0 + 1)) from own_add _ _]
     refine gb m T8 38 #[.val (.ref ca), .val (.int (nI (i0 + 1))), .val (.ref tb), .val (.int ((nI i0) + (1 : Int32))), .val (.int (nI nn)), .val (.int (nI i0)), .val (.int (nI (ch i0)))] [] (fun _ k => XS.iinc X8.here hx rfl (B d23_35) rfl (l' := #[.val (.ref ca), .val (.int (nI (i0 + 1))), .val (.ref tb), .val (.int ((nI i0) + (1 : Int32))), .val (.int (nI nn)), .val (.int (nI i0)), .val (.int (nI (ch i0)))]) rfl k) ?_
     rw [show ((nI i0) + (1 : Int32)) = (nI (i0 + 1)) from own_add _ _]
     refine gb m T8 41 #[.val (.ref ca), .val (.int (nI (i0 + 1))), .val (.ref tb), .val (.int (nI (i0 + 1))), .val (.int (nI nn)), .val (.int ((nI i0) + (1 : Int32))), .val (.int (nI (ch i0)))] [] (fun _ k => XS.iinc X8.here hx rfl (B d23_38) rfl (l' := #[.val (.ref ca), .val (.int (nI (i0 + 1))), .val (.ref tb), .val (.int (nI (i0 + 1))), .val (.int (nI nn)), .val (.int ((nI i0) + (1 : Int32))), .val (.int (nI (ch i0)))]) rfl k) ?_
     rw [show ((nI i0) + (1 : Int32)) = (nI (i0 + 1)) from own_add _ _]
     refine gb m T8 3 #[.val (.ref ca), .val (.int (nI (i0 + 1))), .val (.ref tb), .val (.int (nI (i0 + 1))), .val (.int (nI nn)), .val (.int (nI (i0 + 1))), .val (.int (nI (ch i0)))] [] (fun _ k => XS.goto X8.here hx rfl (pc0 := 41) (pc' := 3) rfl (B d23_41) (by decide) (by decide) k) ?_
     have hL8 := own_L0s hL0 (by omega) hfd8
     exact ih (i0 + 1) fd8 (.val (.int (nI (ch i0)))) T8 h8 _ (by omega) hL8 (Or.inr ⟨_, rfl⟩) X8 e8 O K N V_c V_t
  exact LP3 nn 0 ft (.unset) s₁ h0 _ (by omega) (fun j hj => absurd hj (Nat.not_lt_zero j)) (Or.inl rfl) X0 e0 O K N V_c V_t

theorem d24_0 : decode c24 0 = .ok (.iload_n 2, 1) := by decide +kernel
theorem d24_1 : decode c24 1 = .ok (.invokestatic 107, 3) := by decide +kernel
theorem d24_4 : decode c24 4 = .ok (.astore_n 3, 1) := by decide +kernel
theorem d24_5 : decode c24 5 = .ok (.iconst 0, 1) := by decide +kernel
theorem d24_6 : decode c24 6 = .ok (.istore 4, 2) := by decide +kernel
theorem d24_8 : decode c24 8 = .ok (.iload 4, 2) := by decide +kernel
theorem d24_10 : decode c24 10 = .ok (.iload_n 2, 1) := by decide +kernel
theorem d24_11 : decode c24 11 = .ok (.if_icmp .ge 21, 3) := by decide +kernel
theorem d24_14 : decode c24 14 = .ok (.aload_n 3, 1) := by decide +kernel
theorem d24_15 : decode c24 15 = .ok (.iload 4, 2) := by decide +kernel
theorem d24_17 : decode c24 17 = .ok (.aload_n 0, 1) := by decide +kernel
theorem d24_18 : decode c24 18 = .ok (.iload_n 1, 1) := by decide +kernel
theorem d24_19 : decode c24 19 = .ok (.caload, 1) := by decide +kernel
theorem d24_20 : decode c24 20 = .ok (.invokestatic 111, 3) := by decide +kernel
theorem d24_23 : decode c24 23 = .ok (.iinc 1 1, 3) := by decide +kernel
theorem d24_26 : decode c24 26 = .ok (.iinc 4 1, 3) := by decide +kernel
theorem d24_29 : decode c24 29 = .ok (.goto (-21), 3) := by decide +kernel
theorem d24_32 : decode c24 32 = .ok (.aload_n 3, 1) := by decide +kernel
theorem d24_33 : decode c24 33 = .ok (.areturn, 1) := by decide +kernel
theorem pn_tob : plainFor (⟨"java/lang/StringUTF16", "toBytes", "([CII)[B"⟩ : MethodName) = true := plainFor_of_name (by first | (simp [plainName, overriddenIn]; done) | decide +kernel)
theorem pd7 : parseMethodDescriptor "(I)[B" = some ⟨[.int], some (.array .byte)⟩ := by decide +kernel
theorem pd8 : parseMethodDescriptor "([BII)V" = some ⟨[(.array .byte), .int, .int], none⟩ := by decide +kernel
theorem ef_tob (m : MethodId) (x0 : Addr) (x2 : Int32) : entryFrame m #[(.ref x0), (.int (0 : Int32)), (.int x2)] 5 = mkF m 0 #[.val (.ref x0), .val (.int (0 : Int32)), .val (.int x2), .unset, .unset] [] := by first | (simp [entryFrame, mkF, argsToLocals, Value.category]; done) | rfl
theorem rm_tob (l : Launch) (Z : State) (a0 : Array Value) (hw : ∀ d ∈ tables_1, d.before a0 Z = true) (ws : List Jvm.Cond) (ca : Addr) (kc : ClassId) (nn : Nat) (ch : Nat → Nat) (zc : Int32) (fm : Value) (hS0 : Sf Z zc fm) (h0 : Heap) (n0 : Nat) (O : Old Z n0 h0) (V_c : Arv Z h0 ca kc .char (nI nn) (cont nn (chf ch)) (.int 0)) (hch : ∀ i, ch i < 65536) (hnn : nn ≤ 260) :
    MF l Z h0 (⟨"java/lang/StringUTF16", "toBytes", "([CII)[B"⟩ : MethodName) c24 5 (some (.array .byte)) ws (rk 2 1 1040 24) #[(.ref ca), (.int (0 : Int32)), (.int (nI nn))] (Qnw Z (2 * nn) (fun f => Utf nn f ch) h0 n0) := by
  refine sg n0 [] pn_tob rfl (fun m => ef_tob m ca (nI nn)) fun p e s m below meth c s₁ Bd hml hZ hh hx B hown hnm X0 e0 N K => ?_
  let LL1 : Array Slot := #[.val (.ref ca), .val (.int (0 : Int32)), .val (.int (nI nn)), .unset, .unset]
  refine sI 1 X0 hx (B d24_0) rfl rfl ?_
  have hy2_0 : nn ≤ 520 := by omega
  obtain ⟨v2, T2, Lc2, X2, hQ2, st2⟩ := cS LL1 [] X0 hx hZ hown hw e0 hml 236 237 23 238 rfl rfl rfl rfl (by decide) (rm_nbf l Z a0 hw [] nn h0 n0 O hy2_0) pd7 rfl rfl (B d24_1) rfl
  obtain ⟨r2, k22, fd2, rfl, Nq2, K2, gr2, Vr2, Er2, hP2⟩ := hQ2
  replace N := Fr.app N Nq2
  have ne_ca_r2 : ca ≠ r2 := Nat.ne_of_lt (Nat.lt_of_lt_of_le V_c.lt gr2)
  have g_r2 : n0 ≤ r2 := Nat.le_trans (Old.le O) gr2
  have sz_r2 : h0.size ≤ r2 := Nat.le_trans K.1 gr2
  replace V_c := V_c.keep K2 nin0
  replace O := O.keep K2 all0
  replace K := K.trans K2 all0
  refine gb m T2 4 LL1 [(.ref r2)] (st2) ?_
  let LL3 : Array Slot := #[.val (.ref ca), .val (.int (0 : Int32)), .val (.int (nI nn)), .val (.ref r2), .unset]
  refine gb m T2 5 LL3 [] (fun _ k => XS.astoreN X2.here hx rfl (B d24_4) rfl rfl (l' := LL3) rfl k) ?_
  refine sC 6 (0 : Int32) X2 hx (B d24_5) rfl rfl ?_
  let LL4 : Array Slot := #[.val (.ref ca), .val (.int (0 : Int32)), .val (.int (nI nn)), .val (.ref r2), .val (.int (0 : Int32))]
  refine gb m T2 8 LL4 [] (fun _ k => XS.istore X2.here hx rfl (B d24_6) rfl (l' := LL4) rfl k) ?_
  obtain ⟨kr0, ekr⟩ : ∃ k, k = k22 := ⟨_, rfl⟩
  clear ekr
  have LP5 : ∀ (fu5 : Nat) (i0 : Nat) (f0 : Nat → Int32) (kv0 : ClassId) (Tq5 : State) (hq5 : Heap) (Lq5 : List Loc), (fu5 + i0 = nn) → (Utf i0 f0 ch) → (Stand p l e (rk 2 1 1040 24) s m #[(.ref ca), (.int (0 : Int32)), (.int (nI nn))] below meth c Tq5 Lq5 1 1040) → (Tq5.heap = hq5) → (Old Z n0 hq5) → (Keep h0 hq5 []) → (Fr n0 Lq5) → (Arv Z hq5 ca kc .char (nI nn) (cont nn (chf ch)) (.int 0)) → (Arv Z hq5 r2 kv0 .byte (nI (2 * nn)) (cont (2 * nn) f0) (.int 0)) → (Exa Z hq5 r2 "[B") → Go p e below (fun o U' => ∃ v L, o = .returned v ∧ Qnw Z (2 * nn) (fun f => Utf nn f ch) h0 n0 v U'.heap L ∧ FrameEnd s o U' L (rk 2 1 1040 24).cells (rk 2 1 1040 24).slots) Tq5 (mkF m 8 #[.val (.ref ca), .val (.int (nI i0)), .val (.int (nI nn)), .val (.ref r2), .val (.int (nI i0))] []) := by
   intro fu5
   induction fu5 with
   | zero =>
    intro i0 f0 kv0 Tq5 hq5 Lq5 hfu5 hL0 Xq5 eq5 O K N V_c Vr2 Er2
    refine tI 10 Xq5 hx (B d24_8) rfl rfl ?_
    refine sI 11 Xq5 hx (B d24_10) rfl rfl ?_
    refine gb m Tq5 32 #[.val (.ref ca), .val (.int (nI i0)), .val (.int (nI nn)), .val (.ref r2), .val (.int (nI i0))] [] (fun _ k => XS.icmpYes Xq5.here hx rfl (pc0 := 11) (pc' := 32) rfl (B d24_11) rfl (flt (mt (own_nlt (a := i0) (b := nn) (by omega) (by omega)).mp (by omega))).2.1 (by decide) (by decide) k) ?_
    refine sA 33 Xq5 hx (B d24_32) rfl rfl rfl ?_
    obtain ⟨fs, hr, hrun, hended, hW, hsame⟩ := Xq5.leave (v := some (.ref r2)) (fun h => by rw [Bd.returns] at h; cases h)
    refine ⟨_, _, retOut Xq5 hx Bd.returns rfl (Or.inr (Or.inr (Or.inr (Or.inr ⟨rfl, rfl, rfl⟩)))) (B d24_33) hr, hrun, hended, _, _, rfl, ?_, ⟨_, rfl⟩, hW, hsame.mono (by decide) (by decide)⟩
    show Qnw Z (2 * nn) (fun f => Utf nn f ch) h0 n0 (some (.ref r2)) Tq5.heap _
    rw [eq5]
    exact ⟨_, _, _, rfl, N, K, sz_r2, Vr2, Er2, (by rw [show nn = i0 by omega]; exact hL0)⟩
   | succ fu5 ih =>
    intro i0 f0 kv0 Tq5 hq5 Lq5 hfu5 hL0 Xq5 eq5 O K N V_c Vr2 Er2
    refine tI 10 Xq5 hx (B d24_8) rfl rfl ?_
    refine sI 11 Xq5 hx (B d24_10) rfl rfl ?_
    refine gb m Tq5 14 #[.val (.ref ca), .val (.int (nI i0)), .val (.int (nI nn)), .val (.ref r2), .val (.int (nI i0))] [] (fun _ k => XS.icmpNo Xq5.here hx rfl (B d24_11) rfl (tlt ((own_nlt (a := i0) (b := nn) (by omega) (by omega)).mpr (by omega))).2.1 k) ?_
    refine sA 15 Xq5 hx (B d24_14) rfl rfl rfl ?_
    refine tI 17 Xq5 hx (B d24_15) rfl rfl ?_
    refine sA 18 Xq5 hx (B d24_17) rfl rfl rfl ?_
    refine sI 19 Xq5 hx (B d24_18) rfl rfl ?_
    obtain ⟨cl8, Ar8, q8, S8, N8', H8, G8⟩ := id V_c
    refine gb m Tq5 20 #[.val (.ref ca), .val (.int (nI i0)), .val (.int (nI nn)), .val (.ref r2), .val (.int (nI i0))] [(.int (nI (ch i0))), (.int (nI i0)), (.ref r2)] (Xq5.caload hx (j := (nI i0)) (v := (.int (nI (ch i0)))) (by rw [eq5]; exact Ar8.1) (State.isArrayOf_alike hZ.alike Ar8.2.1) Ar8.2.2 (inb_of S8 ⟨own_neg (a := i0) (by omega), (own_nlt (a := i0) (b := nn) (by omega) (by omega)).mpr (by omega)⟩) (Has.at H8 (inb_of S8 ⟨own_neg (a := i0) (by omega), (own_nlt (a := i0) (b := nn) (by omega) (by omega)).mpr (by omega)⟩) (own_at (n := nn) (i := i0) (f := (chf ch)) (by omega) (by omega))) (g := (mkF m 19 #[.val (.ref ca), .val (.int (nI i0)), .val (.int (nI nn)), .val (.ref r2), .val (.int (nI i0))] [(.int (nI i0)), (.ref ca), (.int (nI i0)), (.ref r2)])) rfl rfl (B d24_19)) ?_
    have hci := hch i0
    have hy9_0 : nn < 100000 := by omega
    have hy9_1 : i0 < nn := by omega
    have hy9_2 : (ch i0) < 65536 := by omega
    obtain ⟨v9, T9, Lc9, X9, hQ9, st9⟩ := cS #[.val (.ref ca), .val (.int (nI i0)), .val (.int (nI nn)), .val (.ref r2), .val (.int (nI i0))] [] Xq5 hx hZ hown hw eq5 hml 243 244 23 245 rfl rfl rfl rfl (by decide) (rm_pc l Z a0 hw [] r2 _ nn f0 i0 (ch i0) zc fm hS0 hq5 n0 O Vr2 g_r2 hy9_0 hy9_1 hy9_2) pd8 rfl rfl (B d24_20) rfl
    obtain ⟨rfl, Nq9, K9, k29, fd9, Vt9, hP9⟩ := hQ9
    replace N := Fr.app N Nq9
    replace V_c := V_c.keep K9 (ninS ne_ca_r2 nin0)
    replace Er2 := Er2.keep K9
    replace O := O.keep K9 (allS g_r2 all0)
    replace K := K.trans K9 (allS (Or.inr sz_r2) all0)
    refine gb m T9 23 #[.val (.ref ca), .val (.int (nI i0)), .val (.int (nI nn)), .val (.ref r2), .val (.int (nI i0))] [] (st9) ?_
    refine gb m T9 26 #[.val (.ref ca), .val (.int ((nI i0) + (1 : Int32))), .val (.int (nI nn)), .val (.ref r2), .val (.int (nI i0))] [] (fun _ k => XS.iinc X9.here hx rfl (B d24_23) rfl (l' := #[.val (.ref ca), .val (.int ((nI i0) + (1 : Int32))), .val (.int (nI nn)), .val (.ref r2), .val (.int (nI i0))]) rfl k) ?_
    rw [show ((nI i0) + (1 : Int32)) = (nI (i0 + 1)) from own_add _ _]
    refine gb m T9 29 #[.val (.ref ca), .val (.int (nI (i0 + 1))), .val (.int (nI nn)), .val (.ref r2), .val (.int ((nI i0) + (1 : Int32)))] [] (fun _ k => XS.iinc X9.here hx rfl (B d24_26) rfl (l' := #[.val (.ref ca), .val (.int (nI (i0 + 1))), .val (.int (nI nn)), .val (.ref r2), .val (.int ((nI i0) + (1 : Int32)))]) rfl k) ?_
    rw [show ((nI i0) + (1 : Int32)) = (nI (i0 + 1)) from own_add _ _]
    refine gb m T9 8 #[.val (.ref ca), .val (.int (nI (i0 + 1))), .val (.int (nI nn)), .val (.ref r2), .val (.int (nI (i0 + 1)))] [] (fun _ k => XS.goto X9.here hx rfl (pc0 := 29) (pc' := 8) rfl (B d24_29) (by decide) (by decide) k) ?_
    have hL9 := own_L1s hL0 hP9.1 hP9.2
    exact ih (i0 + 1) fd9 k29 T9 T9.heap _ (by omega) hL9 X9 rfl O K N V_c Vt9 Er2
  exact LP5 nn 0 fd2 k22 T2 T2.heap _ (by omega) (fun j hj => absurd hj (Nat.not_lt_zero j)) X2 rfl O K N V_c Vr2 Er2

theorem d25_0 : decode c25 0 = .ok (.iload_n 2, 1) := by decide +kernel
theorem d25_1 : decode c25 1 = .ok (.newarray .byte, 2) := by decide +kernel
theorem d25_3 : decode c25 3 = .ok (.astore_n 3, 1) := by decide +kernel
theorem d25_4 : decode c25 4 = .ok (.aload_n 0, 1) := by decide +kernel
theorem d25_5 : decode c25 5 = .ok (.iload_n 1, 1) := by decide +kernel
theorem d25_6 : decode c25 6 = .ok (.aload_n 3, 1) := by decide +kernel
theorem d25_7 : decode c25 7 = .ok (.iconst 0, 1) := by decide +kernel
theorem d25_8 : decode c25 8 = .ok (.iload_n 2, 1) := by decide +kernel
theorem d25_9 : decode c25 9 = .ok (.invokestatic 115, 3) := by decide +kernel
theorem d25_12 : decode c25 12 = .ok (.istore 4, 2) := by decide +kernel
theorem d25_14 : decode c25 14 = .ok (.iload 4, 2) := by decide +kernel
theorem d25_16 : decode c25 16 = .ok (.iload_n 2, 1) := by decide +kernel
theorem d25_17 : decode c25 17 = .ok (.if_icmp .eq 40, 3) := by decide +kernel
theorem d25_20 : decode c25 20 = .ok (.aload_n 0, 1) := by decide +kernel
theorem d25_21 : decode c25 21 = .ok (.iload_n 1, 1) := by decide +kernel
theorem d25_22 : decode c25 22 = .ok (.iload_n 2, 1) := by decide +kernel
theorem d25_23 : decode c25 23 = .ok (.invokestatic 119, 3) := by decide +kernel
theorem d25_26 : decode c25 26 = .ok (.astore 5, 2) := by decide +kernel
theorem d25_28 : decode c25 28 = .ok (.aload 5, 2) := by decide +kernel
theorem d25_30 : decode c25 30 = .ok (.iload 4, 2) := by decide +kernel
theorem d25_32 : decode c25 32 = .ok (.invokestatic 71, 3) := by decide +kernel
theorem d25_35 : decode c25 35 = .ok (.sipush 255, 3) := by decide +kernel
theorem d25_38 : decode c25 38 = .ok (.if_icmp .gt 16, 3) := by decide +kernel
theorem d25_54 : decode c25 54 = .ok (.aload 5, 2) := by decide +kernel
theorem d25_56 : decode c25 56 = .ok (.areturn, 1) := by decide +kernel
theorem d25_57 : decode c25 57 = .ok (.aload_n 3, 1) := by decide +kernel
theorem d25_58 : decode c25 58 = .ok (.areturn, 1) := by decide +kernel
theorem pn_cm1 : plainFor (⟨"java/lang/StringUTF16", "compress", "([CII)[B"⟩ : MethodName) = true := plainFor_of_name (by first | (simp [plainName, overriddenIn]; done) | decide +kernel)
theorem pd9 : parseMethodDescriptor "([CI[BII)I" = some ⟨[(.array .char), .int, (.array .byte), .int, .int], some .int⟩ := by decide +kernel
theorem pd10 : parseMethodDescriptor "([CII)[B" = some ⟨[(.array .char), .int, .int], some (.array .byte)⟩ := by decide +kernel
theorem pd11 : parseMethodDescriptor "([BI)C" = some ⟨[(.array .byte), .int], some .char⟩ := by decide +kernel
theorem ef_cm1 (m : MethodId) (x0 : Addr) (x2 : Int32) : entryFrame m #[(.ref x0), (.int (0 : Int32)), (.int x2)] 6 = mkF m 0 #[.val (.ref x0), .val (.int (0 : Int32)), .val (.int x2), .unset, .unset, .unset] [] := by first | (simp [entryFrame, mkF, argsToLocals, Value.category]; done) | rfl
theorem rm_cm1 (l : Launch) (Z : State) (a0 : Array Value) (hw : ∀ d ∈ tables_1, d.before a0 Z = true) (ws : List Jvm.Cond) (ca : Addr) (kc : ClassId) (nn : Nat) (ch : Nat → Nat) (zc : Int32) (fm : Value) (hS0 : Sf Z zc fm) (h0 : Heap) (n0 : Nat) (O : Old Z n0 h0) (V_c : Arv Z h0 ca kc .char (nI nn) (cont nn (chf ch)) (.int 0)) (hch : ∀ i, ch i < 65536) (hnn : nn ≤ 260) :
    MF l Z h0 (⟨"java/lang/StringUTF16", "compress", "([CII)[B"⟩ : MethodName) c25 6 (some (.array .byte)) ws (rk 3 2 1300 40) #[(.ref ca), (.int (0 : Int32)), (.int (nI nn))] (Qcm Z nn ch h0 n0) := by
  refine sg n0 [] pn_cm1 rfl (fun m => ef_cm1 m ca (nI nn)) fun p e s m below meth c s₁ Bd hml hZ hh hx B hown hnm X0 e0 N K => ?_
  let LL1 : Array Slot := #[.val (.ref ca), .val (.int (0 : Int32)), .val (.int (nI nn)), .unset, .unset, .unset]
  refine sI 1 X0 hx (B d25_0) rfl rfl ?_
  obtain ⟨T2, h2, k2, X2, e2, E2, A2, B2, st2⟩ := newPE X0 hx hZ (wv hw 25 rfl) e0 (g := (mkF m 1 LL1 [(.int (nI nn))])) rfl (B d25_1) (n := (nI nn)) rfl (own_neg (a := nn) (by omega)) (cap := 260) (by rw [own_nat (a := nn) (by omega)]; omega) (by decide) (by decide) (by decide) (ad := "[B") (by decide)
  obtain ⟨b2, g2⟩ : ∃ z, z = h0.size := ⟨_, rfl⟩
  rw [← g2] at A2 B2 st2
  have ne_ca_b2 : ca ≠ b2 := Nat.ne_of_lt (Nat.lt_of_lt_of_le V_c.lt (Nat.le_of_eq g2.symm))
  have g_b2 : n0 ≤ b2 := Nat.le_trans (Old.le O) (Nat.le_of_eq g2.symm)
  have sz_b2 : h0.size ≤ b2 := Nat.le_trans K.1 (Nat.le_of_eq g2.symm)
  replace V_c := V_c.ext E2
  replace O := O.ext E2
  replace K := K.ext E2
  have V_b2 : Arv Z h2 b2 k2 .byte (nI nn) (cont nn (fun _ => 0)) (.int 0) := own_cnew (Arv.new A2 (own_neg (a := nn) (by omega)))
  have E_b2 := B2
  obtain ⟨fz2, hfz2⟩ : ∃ g : Nat → Int32, g = fun _ => 0 := ⟨_, rfl⟩
  rw [← hfz2] at V_b2
  refine gb m T2 3 LL1 [(.ref b2)] (st2) ?_
  let LL3 : Array Slot := #[.val (.ref ca), .val (.int (0 : Int32)), .val (.int (nI nn)), .val (.ref b2), .unset, .unset]
  refine gb m T2 4 LL3 [] (fun _ k => XS.astoreN X2.here hx rfl (B d25_3) rfl rfl (l' := LL3) rfl k) ?_
  refine sA 5 X2 hx (B d25_4) rfl rfl rfl ?_
  refine sI 6 X2 hx (B d25_5) rfl rfl ?_
  refine sA 7 X2 hx (B d25_6) rfl rfl rfl ?_
  refine sC 8 (0 : Int32) X2 hx (B d25_7) rfl rfl ?_
  refine sI 9 X2 hx (B d25_8) rfl rfl ?_
  have hy4_0 : nn ≤ 260 := by omega
  obtain ⟨v4, T4, Lc4, X4, hQ4, st4⟩ := cS LL3 [] X2 hx hZ hown hw e2 hml 26 27 23 28 rfl rfl rfl rfl (by decide) (rm_cmc l Z a0 hw [] ca _ nn ch b2 _ fz2 h2 n0 O V_c hch hy4_0 V_b2 g_b2 ne_ca_b2) pd9 rfl rfl (B d25_9) rfl
  obtain ⟨kn4, k24, fd4, rfl, Nq4, K4, Vt4, hkn4, hL4, hw4⟩ := hQ4
  replace N := Fr.app N Nq4
  replace V_c := V_c.keep K4 (ninS ne_ca_b2 nin0)
  replace E_b2 := E_b2.keep K4
  replace O := O.keep K4 (allS g_b2 all0)
  replace K := K.trans K4 (allS (Or.inr sz_b2) all0)
  refine gb m T4 12 LL3 [(.int (nI kn4))] (st4) ?_
  let LL5 : Array Slot := #[.val (.ref ca), .val (.int (0 : Int32)), .val (.int (nI nn)), .val (.ref b2), .val (.int (nI kn4)), .unset]
  refine gb m T4 14 LL5 [] (fun _ k => XS.istore X4.here hx rfl (B d25_12) rfl (l' := LL5) rfl k) ?_
  refine tI 16 X4 hx (B d25_14) rfl rfl ?_
  refine sI 17 X4 hx (B d25_16) rfl rfl ?_
  by_cases hc17_6 : kn4 = nn
  ·
   refine gb m T4 57 LL5 [] (fun _ k => XS.icmpYes X4.here hx rfl (pc0 := 17) (pc' := 57) rfl (B d25_17) rfl (teq ((own_neq (a := kn4) (b := nn) (by omega) (by omega)).mpr hc17_6)).1 (by decide) (by decide) k) ?_
   refine sA 58 X4 hx (B d25_57) rfl rfl rfl ?_
   obtain ⟨fs, hr, hrun, hended, hW, hsame⟩ := X4.leave (v := some (.ref b2)) (fun h => by rw [Bd.returns] at h; cases h)
   refine ⟨_, _, retOut X4 hx Bd.returns rfl (Or.inr (Or.inr (Or.inr (Or.inr ⟨rfl, rfl, rfl⟩)))) (B d25_58) hr, hrun, hended, _, _, rfl, ?_, ⟨_, rfl⟩, hW, hsame.mono (by decide) (by decide)⟩
   show Qcm Z nn ch h0 n0 (some (.ref b2)) T4.heap _
   exact ⟨_, _, 0, _, _, rfl, N, K, sz_b2, Vt4, E_b2, Or.inl ⟨rfl, rfl, by rw [show nn = kn4 by omega]; exact hL4⟩⟩
  ·
   refine gb m T4 20 LL5 [] (fun _ k => XS.icmpNo X4.here hx rfl (B d25_17) rfl (feq (mt (own_neq (a := kn4) (b := nn) (by omega) (by omega)).mp hc17_6)).1 k) ?_
   have hci := hch kn4
   have hwc := hw4 (by omega)
   refine sA 21 X4 hx (B d25_20) rfl rfl rfl ?_
   refine sI 22 X4 hx (B d25_21) rfl rfl ?_
   refine sI 23 X4 hx (B d25_22) rfl rfl ?_
   have hy7_0 : nn ≤ 260 := by omega
   obtain ⟨v7, T7, Lc7, X7, hQ7, st7⟩ := cS LL5 [] X4 hx hZ hown hw rfl hml 233 234 23 235 rfl rfl rfl rfl (by decide) (rm_tob l Z a0 hw [] ca _ nn ch zc fm hS0 T4.heap n0 O V_c hch hy7_0) pd10 rfl rfl (B d25_23) rfl
   obtain ⟨r7, k27, fd7, rfl, Nq7, K7, gr7, Vr7, Er7, hP7⟩ := hQ7
   replace N := Fr.app N Nq7
   have sz_r7 : h0.size ≤ r7 := Nat.le_trans K.1 gr7
   replace V_c := V_c.keep K7 nin0
   replace E_b2 := E_b2.keep K7
   replace Vt4 := Vt4.keep K7 nin0
   replace O := O.keep K7 all0
   replace K := K.trans K7 all0
   refine gb m T7 26 LL5 [(.ref r7)] (st7) ?_
   let LL8 : Array Slot := #[.val (.ref ca), .val (.int (0 : Int32)), .val (.int (nI nn)), .val (.ref b2), .val (.int (nI kn4)), .val (.ref r7)]
   refine gb m T7 28 LL8 [] (fun _ k => XS.astore X7.here hx rfl (B d25_26) rfl rfl (l' := LL8) rfl k) ?_
   refine tA 30 X7 hx (B d25_28) rfl rfl rfl ?_
   refine tI 32 X7 hx (B d25_30) rfl rfl ?_
   have hy9_0 : nn < 100000 := by omega
   have hy9_1 : kn4 < nn := by omega
   have hy9_2 : (ch kn4) < 65536 := by omega
   obtain ⟨v9, T9, Lc9, X9, hQ9, st9⟩ := cS LL8 [] X7 hx hZ hown hw rfl hml 249 250 23 251 rfl rfl rfl rfl (by decide) (rm_gc l Z a0 hw [] r7 _ nn fd7 kn4 (ch kn4) zc fm hS0 T7.heap n0 O Vr7 hy9_0 hy9_1 hy9_2 (hP7 kn4 (by omega))) pd11 rfl rfl (B d25_32) rfl
   obtain ⟨rfl, Nq9, e9⟩ := hQ9
   replace N := Fr.app N Nq9
   refine gb m T9 35 LL8 [(.int (nI (ch kn4)))] (st9) ?_
   refine sS 38 (255 : Int32) X9 hx (B d25_35) rfl rfl ?_
   refine gb m T9 54 LL8 [] (fun _ k => XS.icmpYes X9.here hx rfl (pc0 := 38) (pc' := 54) rfl (B d25_38) rfl (tlt ((own_nlt (a := 255) (b := (ch kn4)) (by omega) (by omega)).mpr (by omega))).2.2.1 (by decide) (by decide) k) ?_
   refine tA 56 X9 hx (B d25_54) rfl rfl rfl ?_
   obtain ⟨fs, hr, hrun, hended, hW, hsame⟩ := X9.leave (v := some (.ref r7)) (fun h => by rw [Bd.returns] at h; cases h)
   refine ⟨_, _, retOut X9 hx Bd.returns rfl (Or.inr (Or.inr (Or.inr (Or.inr ⟨rfl, rfl, rfl⟩)))) (B d25_56) hr, hrun, hended, _, _, rfl, ?_, ⟨_, rfl⟩, hW, hsame.mono (by decide) (by decide)⟩
   show Qcm Z nn ch h0 n0 (some (.ref r7)) T9.heap _
   rw [e9]
   exact ⟨_, _, 1, _, _, rfl, N, K, sz_r7, Vr7, Er7, Or.inr ⟨rfl, rfl, hP7⟩⟩

theorem d26_0 : decode c26 0 = .ok (.iload_n 1, 1) := by decide +kernel
theorem d26_1 : decode c26 1 = .ok (.aload_n 0, 1) := by decide +kernel
theorem d26_2 : decode c26 2 = .ok (.arraylength, 1) := by decide +kernel
theorem d26_3 : decode c26 3 = .ok (.isub, 1) := by decide +kernel
theorem d26_4 : decode c26 4 = .ok (.bipush 31, 2) := by decide +kernel
theorem d26_6 : decode c26 6 = .ok (.iushr, 1) := by decide +kernel
theorem d26_7 : decode c26 7 = .ok (.i2b, 1) := by decide +kernel
theorem d26_8 : decode c26 8 = .ok (.ireturn, 1) := by decide +kernel
theorem pn_cfa0 : plainFor (⟨"java/lang/StringUTF16", "coderFromArrayLen", "([BI)B"⟩ : MethodName) = true := plainFor_of_name (by first | (simp [plainName, overriddenIn]; done) | decide +kernel)
theorem ef_cfa0 (m : MethodId) (x0 : Addr) (x1 : Int32) : entryFrame m #[(.ref x0), (.int x1)] 2 = mkF m 0 #[.val (.ref x0), .val (.int x1)] [] := by first | (simp [entryFrame, mkF, argsToLocals, Value.category]; done) | rfl
theorem rm_cfa0 (l : Launch) (Z : State) (a0 : Array Value) (hw : ∀ d ∈ tables_1, d.before a0 Z = true) (ws : List Jvm.Cond) (tb : Addr) (kt : ClassId) (xn : Nat) (ft : Nat → Int32) (h0 : Heap) (n0 : Nat) (O : Old Z n0 h0) (V_t : Arv Z h0 tb kt .byte (nI xn) (cont xn ft) (.int 0)) (hy0 : xn ≤ 260) (hy1 : 0 < xn) :
    MF l Z h0 (⟨"java/lang/StringUTF16", "coderFromArrayLen", "([BI)B"⟩ : MethodName) c26 2 (some .byte) ws (rk 0 0 0 0) #[(.ref tb), (.int (nI xn))] (Qpure (some (.int 0)) h0 n0) := by
  refine sg n0 [] pn_cfa0 rfl (fun m => ef_cfa0 m tb (nI xn)) fun p e s m below meth c s₁ Bd hml hZ hh hx B hown hnm X0 e0 N K => ?_
  let LL1 : Array Slot := #[.val (.ref tb), .val (.int (nI xn))]
  refine sI 1 X0 hx (B d26_0) rfl rfl ?_
  refine sA 2 X0 hx (B d26_1) rfl rfl rfl ?_
  obtain ⟨cl2, Ar2, q2, S2, N2', H2, G2⟩ := id V_t
  refine gb m s₁ 3 LL1 [(.int (nI xn)), (.int (nI xn))] (fun t k => X0.arraylength hx (by rw [e0]; exact Ar2.1) (State.isArrayOf_alike hZ.alike Ar2.2.1) (g := (mkF m 2 LL1 [(.ref tb), (.int (nI xn))])) rfl rfl (B d26_2) t (by rw [len_of S2 N2']; exact k)) ?_
  refine gb m s₁ 4 LL1 [(.int ((nI xn) - (nI xn)))] (fun _ k => XS.isub X0.here hx rfl (B d26_3) rfl k) ?_
  refine sB 6 (31 : Int32) X0 hx (B d26_4) rfl rfl ?_
  refine gb m s₁ 7 LL1 [(.int ((((nI xn) - (nI xn)).toUInt32 >>> ((31 : Int32) &&& 31).toUInt32).toInt32))] (fun _ k => XS.iushr X0.here hx rfl (B d26_6) rfl k) ?_
  refine gb m s₁ 8 LL1 [(.int (((((nI xn) - (nI xn)).toUInt32 >>> ((31 : Int32) &&& 31).toUInt32).toInt32).toInt8.toInt32))] (fun _ k => XS.i2b X0.here hx rfl (B d26_7) rfl k) ?_
  obtain ⟨fs, hr, hrun, hended, hW, hsame⟩ := X0.leave (v := some (.int (nar .byte (((((nI xn) - (nI xn)).toUInt32 >>> ((31 : Int32) &&& 31).toUInt32).toInt32).toInt8.toInt32)))) (fun h => by rw [Bd.returns] at h; cases h)
  refine ⟨_, _, retN X0 hx (t := .byte) Bd.returns (by simp) (B d26_8) hr, hrun, hended, _, _, rfl, ?_, ⟨_, rfl⟩, hW, hsame.mono (by decide) (by decide)⟩
  show Qpure (some (.int 0)) h0 n0 (some (.int (nar .byte (((((nI xn) - (nI xn)).toUInt32 >>> ((31 : Int32) &&& 31).toUInt32).toInt32).toInt8.toInt32)))) s₁.heap _
  rw [e0]
  exact ⟨congrArg (fun z => some (Value.int z)) (own_cf0 ⟨xn, by omega⟩), N, rfl⟩

theorem pn_cfa1 : plainFor (⟨"java/lang/StringUTF16", "coderFromArrayLen", "([BI)B"⟩ : MethodName) = true := plainFor_of_name (by first | (simp [plainName, overriddenIn]; done) | decide +kernel)
theorem ef_cfa1 (m : MethodId) (x0 : Addr) (x1 : Int32) : entryFrame m #[(.ref x0), (.int x1)] 2 = mkF m 0 #[.val (.ref x0), .val (.int x1)] [] := by first | (simp [entryFrame, mkF, argsToLocals, Value.category]; done) | rfl
theorem rm_cfa1 (l : Launch) (Z : State) (a0 : Array Value) (hw : ∀ d ∈ tables_1, d.before a0 Z = true) (ws : List Jvm.Cond) (tb : Addr) (kt : ClassId) (xn : Nat) (ft : Nat → Int32) (h0 : Heap) (n0 : Nat) (O : Old Z n0 h0) (V_t : Arv Z h0 tb kt .byte (nI (2 * xn)) (cont (2 * xn) ft) (.int 0)) (hy0 : xn ≤ 260) (hy1 : 0 < xn) :
    MF l Z h0 (⟨"java/lang/StringUTF16", "coderFromArrayLen", "([BI)B"⟩ : MethodName) c26 2 (some .byte) ws (rk 0 0 0 0) #[(.ref tb), (.int (nI xn))] (Qpure (some (.int 1)) h0 n0) := by
  refine sg n0 [] pn_cfa1 rfl (fun m => ef_cfa1 m tb (nI xn)) fun p e s m below meth c s₁ Bd hml hZ hh hx B hown hnm X0 e0 N K => ?_
  let LL1 : Array Slot := #[.val (.ref tb), .val (.int (nI xn))]
  refine sI 1 X0 hx (B d26_0) rfl rfl ?_
  refine sA 2 X0 hx (B d26_1) rfl rfl rfl ?_
  obtain ⟨cl2, Ar2, q2, S2, N2', H2, G2⟩ := id V_t
  refine gb m s₁ 3 LL1 [(.int (nI (2 * xn))), (.int (nI xn))] (fun t k => X0.arraylength hx (by rw [e0]; exact Ar2.1) (State.isArrayOf_alike hZ.alike Ar2.2.1) (g := (mkF m 2 LL1 [(.ref tb), (.int (nI xn))])) rfl rfl (B d26_2) t (by rw [len_of S2 N2']; exact k)) ?_
  refine gb m s₁ 4 LL1 [(.int ((nI xn) - (nI (2 * xn))))] (fun _ k => XS.isub X0.here hx rfl (B d26_3) rfl k) ?_
  refine sB 6 (31 : Int32) X0 hx (B d26_4) rfl rfl ?_
  refine gb m s₁ 7 LL1 [(.int ((((nI xn) - (nI (2 * xn))).toUInt32 >>> ((31 : Int32) &&& 31).toUInt32).toInt32))] (fun _ k => XS.iushr X0.here hx rfl (B d26_6) rfl k) ?_
  refine gb m s₁ 8 LL1 [(.int (((((nI xn) - (nI (2 * xn))).toUInt32 >>> ((31 : Int32) &&& 31).toUInt32).toInt32).toInt8.toInt32))] (fun _ k => XS.i2b X0.here hx rfl (B d26_7) rfl k) ?_
  obtain ⟨fs, hr, hrun, hended, hW, hsame⟩ := X0.leave (v := some (.int (nar .byte (((((nI xn) - (nI (2 * xn))).toUInt32 >>> ((31 : Int32) &&& 31).toUInt32).toInt32).toInt8.toInt32)))) (fun h => by rw [Bd.returns] at h; cases h)
  refine ⟨_, _, retN X0 hx (t := .byte) Bd.returns (by simp) (B d26_8) hr, hrun, hended, _, _, rfl, ?_, ⟨_, rfl⟩, hW, hsame.mono (by decide) (by decide)⟩
  show Qpure (some (.int 1)) h0 n0 (some (.int (nar .byte (((((nI xn) - (nI (2 * xn))).toUInt32 >>> ((31 : Int32) &&& 31).toUInt32).toInt32).toInt8.toInt32)))) s₁.heap _
  rw [e0]
  exact ⟨congrArg (fun z => some (Value.int z)) (own_cf1 ⟨xn, by omega⟩ hy1), N, rfl⟩

theorem d27_0 : decode c27 0 = .ok (.aload_n 0, 1) := by decide +kernel
theorem d27_1 : decode c27 1 = .ok (.invokespecial 1, 3) := by decide +kernel
theorem d27_4 : decode c27 4 = .ok (.iload_n 3, 1) := by decide +kernel
theorem d27_5 : decode c27 5 = .ok (.ifCond .ne 22, 3) := by decide +kernel
theorem d27_27 : decode c27 27 = .ok (.getstatic 38, 3) := by decide +kernel
theorem d27_30 : decode c27 30 = .ok (.ifCond .eq 28, 3) := by decide +kernel
theorem d27_33 : decode c27 33 = .ok (.aload_n 1, 1) := by decide +kernel
theorem d27_34 : decode c27 34 = .ok (.iload_n 2, 1) := by decide +kernel
theorem d27_35 : decode c27 35 = .ok (.iload_n 3, 1) := by decide +kernel
theorem d27_36 : decode c27 36 = .ok (.invokestatic 177, 3) := by decide +kernel
theorem d27_39 : decode c27 39 = .ok (.astore 5, 2) := by decide +kernel
theorem d27_41 : decode c27 41 = .ok (.aload_n 0, 1) := by decide +kernel
theorem d27_42 : decode c27 42 = .ok (.aload 5, 2) := by decide +kernel
theorem d27_44 : decode c27 44 = .ok (.iload_n 3, 1) := by decide +kernel
theorem d27_45 : decode c27 45 = .ok (.invokestatic 47, 3) := by decide +kernel
theorem d27_48 : decode c27 48 = .ok (.putfield 15, 3) := by decide +kernel
theorem d27_51 : decode c27 51 = .ok (.aload_n 0, 1) := by decide +kernel
theorem d27_52 : decode c27 52 = .ok (.aload 5, 2) := by decide +kernel
theorem d27_54 : decode c27 54 = .ok (.putfield 9, 3) := by decide +kernel
theorem d27_57 : decode c27 57 = .ok (.return_, 1) := by decide +kernel
theorem pn_siv : plainFor (⟨"java/lang/String", "<init>", "([CIILjava/lang/Void;)V"⟩ : MethodName) = true := plainFor_of_name (by first | (simp [plainName, overriddenIn]; done) | decide +kernel)
theorem pd12 : parseMethodDescriptor "([BI)B" = some ⟨[(.array .byte), .int], some .byte⟩ := by decide +kernel
theorem ef_siv (m : MethodId) (x0 : Addr) (x1 : Addr) (x3 : Int32) : entryFrame m #[(.ref x0), (.ref x1), (.int (0 : Int32)), (.int x3), .null] 6 = mkF m 0 #[.val (.ref x0), .val (.ref x1), .val (.int (0 : Int32)), .val (.int x3), .val .null, .unset] [] := by first | (simp [entryFrame, mkF, argsToLocals, Value.category]; done) | rfl
theorem rm_siv (l : Launch) (Z : State) (a0 : Array Value) (hw : ∀ d ∈ tables_1, d.before a0 Z = true) (ws : List Jvm.Cond) (x : Addr) (ca : Addr) (kc : ClassId) (nn : Nat) (ch : Nat → Nat) (zc : Int32) (fm : Value) (hS0 : Sf Z zc fm) (h0 : Heap) (n0 : Nat) (O : Old Z n0 h0) (E_x : Exa Z h0 x "java/lang/String") (Fv_x : Fld Z h0 x "java/lang/String" "value" "[B" .null) (Fc_x : Fld Z h0 x "java/lang/String" "coder" "B" (.int 0)) (g_x : n0 ≤ x) (V_c : Arv Z h0 ca kc .char (nI nn) (cont nn (chf ch)) (.int 0)) (hch : ∀ i, ch i < 65536) (hnn : nn ≤ 260) (hpos : 0 < nn) :
    MF l Z h0 (⟨"java/lang/String", "<init>", "([CIILjava/lang/Void;)V"⟩ : MethodName) c27 6 none ws (rk 4 2 1300 57) #[(.ref x), (.ref ca), (.int (0 : Int32)), (.int (nI nn)), .null] (Qin Z x nn ch h0 n0) := by
  refine sg n0 [x] pn_siv rfl (fun m => ef_siv m x ca (nI nn)) fun p e s m below meth c s₁ Bd hml hZ hh hx B hown hnm X0 e0 N K => ?_
  let LL1 : Array Slot := #[.val (.ref x), .val (.ref ca), .val (.int (0 : Int32)), .val (.int (nI nn)), .val .null, .unset]
  refine sA 1 X0 hx (B d27_0) rfl rfl rfl ?_
  obtain ⟨T2, X2, e2, st2⟩ := initO X0 hx hZ hown (wv hw 17 rfl) (wv hw 18 rfl) (wv hw 19 rfl) e0 (g := (mkF m 1 LL1 [(.ref x)])) rfl (by rw [hml]; rfl) rfl (B d27_1) (by decide) (W := 0) (by show 2 * 0 + _ ≤ _; exact Nat.le_of_eq rfl) (by decide)
  refine gb m T2 4 LL1 [] (st2) ?_
  refine sI 5 X2 hx (B d27_4) rfl rfl ?_
  refine gb m T2 27 LL1 [] (fun _ k => XS.ifYes X2.here hx rfl (pc0 := 5) (pc' := 27) rfl (B d27_5) rfl ((if0 _ _).trans (feq (mt (own_neq (a := nn) (b := 0) (by omega) (by omega)).mp (by omega))).2) (by decide) (by decide) k) ?_
  obtain ⟨T4, X4, e4, st4⟩ := getS2 X2 hx hZ hown (host := "") (Or.inl (wv hw 20 rfl)) Via.refl e2 (Sta.ext O.2 hS0.1) (g := (mkF m 27 LL1 [])) rfl (B d27_27)
  refine gb m T4 30 LL1 [(.int zc)] (st4) ?_
  refine gb m T4 33 LL1 [] (fun _ k => XS.ifNo X4.here hx rfl (B d27_30) rfl ((if0 _ _).trans (feq hS0.2.1).1) k) ?_
  refine sA 34 X4 hx (B d27_33) rfl rfl rfl ?_
  refine sI 35 X4 hx (B d27_34) rfl rfl ?_
  refine sI 36 X4 hx (B d27_35) rfl rfl ?_
  have hy6_0 : nn ≤ 260 := by omega
  obtain ⟨v6, T6, Lc6, X6, hQ6, st6⟩ := cS LL1 [] X4 hx hZ hown hw e4 hml 21 22 23 24 rfl rfl rfl rfl (by decide) (rm_cm1 l Z a0 hw [] ca _ nn ch zc fm hS0 h0 n0 O V_c hch hy6_0) pd10 rfl rfl (B d27_36) rfl
  obtain ⟨r6, k26, cd6, lb6, fd6, rfl, Nq6, K6, gr6, Vr6, Er6, hR6⟩ := hQ6
  replace N := Fr.app N Nq6
  have ne_x_r6 : x ≠ r6 := Nat.ne_of_lt (Nat.lt_of_lt_of_le E_x.lt gr6)
  have sz_r6 : h0.size ≤ r6 := Nat.le_trans K.1 gr6
  replace V_c := V_c.keep K6 nin0
  replace E_x := E_x.keep K6
  replace Fv_x := Fv_x.keep K6 nin0
  replace Fc_x := Fc_x.keep K6 nin0
  replace O := O.keep K6 all0
  replace K := K.trans K6 all0
  rcases hR6 with ⟨rfl, rfl, hR6⟩ | ⟨rfl, rfl, hR6⟩
  ·
   refine gb m T6 39 LL1 [(.ref r6)] (st6) ?_
   let LL7 : Array Slot := #[.val (.ref x), .val (.ref ca), .val (.int (0 : Int32)), .val (.int (nI nn)), .val .null, .val (.ref r6)]
   refine gb m T6 41 LL7 [] (fun _ k => XS.astore X6.here hx rfl (B d27_39) rfl rfl (l' := LL7) rfl k) ?_
   refine sA 42 X6 hx (B d27_41) rfl rfl rfl ?_
   refine tA 44 X6 hx (B d27_42) rfl rfl rfl ?_
   refine sI 45 X6 hx (B d27_44) rfl rfl ?_
   have hy8_0 : nn ≤ 260 := by omega
   have hy8_1 : 0 < nn := by omega
   obtain ⟨v8, T8, Lc8, X8, hQ8, st8⟩ := cS LL7 [(.ref x)] X6 hx hZ hown hw rfl hml 29 30 23 31 rfl rfl rfl rfl (by decide) (rm_cfa0 l Z a0 hw [] r6 _ nn fd6 T6.heap n0 O Vr6 hy8_0 hy8_1) pd12 rfl rfl (B d27_45) rfl
   obtain ⟨rfl, Nq8, e8⟩ := hQ8
   replace N := Fr.app N Nq8
   refine gb m T8 48 LL7 [(.int (0 : Int32)), (.ref x)] (st8) ?_
   obtain ⟨T9, h9, X9, e9, W9, st9⟩ := putFN X8 hx hZ hown (wv hw 32 rfl) Via.refl e8 Fc_x E_x (Or.inr ⟨(wv hw 33 rfl), rfl, hnm⟩) (wv hw 8 rfl) (ty := .byte) (v' := (.int (0 : Int32))) (by decide) rfl rfl (g := (mkF m 48 LL7 [(.int (0 : Int32)), (.ref x)])) rfl rfl (B d27_48)
   have nq10 : ca ≠ x := (Ne.symm (own_nev E_x (wv hw 8 rfl) V_c))
   replace V_c := V_c.other W9 nq10
   replace E_x := E_x.wr W9
   replace Fv_x := Fv_x.other W9 (Or.inr (slot_ne (Or.inr (wv hw 35 rfl)) (Or.inr (wv hw 33 rfl)) (by decide) (t := (.array .byte)) (t' := .byte) (by decide) (by decide)))
   replace Vr6 := Vr6.other W9 (Ne.symm ne_x_r6)
   replace Er6 := Er6.wr W9
   replace Fc_x := Fc_x.same W9
   replace O := O.wr W9 g_x
   replace K := K.wr W9 (Or.inl (by simp))
   replace N := Fr.snoc X9 N g_x
   refine gb m T9 51 LL7 [] (st9) ?_
   refine sA 52 X9 hx (B d27_51) rfl rfl rfl ?_
   refine tA 54 X9 hx (B d27_52) rfl rfl rfl ?_
   obtain ⟨T11, h11, X11, e11, W11, st11⟩ := putF X9 hx hZ hown (host := "") (Or.inl (wv hw 34 rfl)) Via.refl e9 Fv_x E_x (Or.inr ⟨(wv hw 35 rfl), rfl, hnm⟩) (wv hw 8 rfl) (ty := (.array .byte)) (by decide) rfl rfl (g := (mkF m 54 LL7 [(.ref r6), (.ref x)])) rfl rfl (B d27_54)
   replace V_c := V_c.other W11 nq10
   replace E_x := E_x.wr W11
   replace Fc_x := Fc_x.other W11 (Or.inr (slot_ne (Or.inr (wv hw 33 rfl)) (Or.inr (wv hw 35 rfl)) (by decide) (t := .byte) (t' := (.array .byte)) (by decide) (by decide)))
   replace Vr6 := Vr6.other W11 (Ne.symm ne_x_r6)
   replace Er6 := Er6.wr W11
   replace Fv_x := Fv_x.same W11
   replace O := O.wr W11 g_x
   replace K := K.wr W11 (Or.inl (by simp))
   replace N := Fr.snoc X11 N g_x
   refine gb m T11 57 LL7 [] (st11) ?_
   obtain ⟨fs, hr, hrun, hended, hW, hsame⟩ := X11.leave (v := none) (fun _ => rfl)
   refine ⟨_, _, X11.returnOut hx Bd.returns (B d27_57) hr, hrun, hended, _, _, rfl, ?_, ⟨_, rfl⟩, hW, hsame.mono (by decide) (by decide)⟩
   show Qin Z x nn ch h0 n0 (none) T11.heap _
   rw [e11]
   exact ⟨rfl, N, K, r6, _, _, _, _, sz_r6, Fv_x, Fc_x, Vr6, Er6, Or.inl ⟨rfl, rfl, hR6⟩⟩
  ·
   refine gb m T6 39 LL1 [(.ref r6)] (st6) ?_
   let LL12 : Array Slot := #[.val (.ref x), .val (.ref ca), .val (.int (0 : Int32)), .val (.int (nI nn)), .val .null, .val (.ref r6)]
   refine gb m T6 41 LL12 [] (fun _ k => XS.astore X6.here hx rfl (B d27_39) rfl rfl (l' := LL12) rfl k) ?_
   refine sA 42 X6 hx (B d27_41) rfl rfl rfl ?_
   refine tA 44 X6 hx (B d27_42) rfl rfl rfl ?_
   refine sI 45 X6 hx (B d27_44) rfl rfl ?_
   have hy13_0 : nn ≤ 260 := by omega
   have hy13_1 : 0 < nn := by omega
   obtain ⟨v13, T13, Lc13, X13, hQ13, st13⟩ := cS LL12 [(.ref x)] X6 hx hZ hown hw rfl hml 29 30 23 31 rfl rfl rfl rfl (by decide) (rm_cfa1 l Z a0 hw [] r6 _ nn fd6 T6.heap n0 O Vr6 hy13_0 hy13_1) pd12 rfl rfl (B d27_45) rfl
   obtain ⟨rfl, Nq13, e13⟩ := hQ13
   replace N := Fr.app N Nq13
   refine gb m T13 48 LL12 [(.int (1 : Int32)), (.ref x)] (st13) ?_
   obtain ⟨T14, h14, X14, e14, W14, st14⟩ := putFN X13 hx hZ hown (wv hw 32 rfl) Via.refl e13 Fc_x E_x (Or.inr ⟨(wv hw 33 rfl), rfl, hnm⟩) (wv hw 8 rfl) (ty := .byte) (v' := (.int (1 : Int32))) (by decide) rfl rfl (g := (mkF m 48 LL12 [(.int (1 : Int32)), (.ref x)])) rfl rfl (B d27_48)
   have nq15 : ca ≠ x := (Ne.symm (own_nev E_x (wv hw 8 rfl) V_c))
   replace V_c := V_c.other W14 nq15
   replace E_x := E_x.wr W14
   replace Fv_x := Fv_x.other W14 (Or.inr (slot_ne (Or.inr (wv hw 35 rfl)) (Or.inr (wv hw 33 rfl)) (by decide) (t := (.array .byte)) (t' := .byte) (by decide) (by decide)))
   replace Vr6 := Vr6.other W14 (Ne.symm ne_x_r6)
   replace Er6 := Er6.wr W14
   replace Fc_x := Fc_x.same W14
   replace O := O.wr W14 g_x
   replace K := K.wr W14 (Or.inl (by simp))
   replace N := Fr.snoc X14 N g_x
   refine gb m T14 51 LL12 [] (st14) ?_
   refine sA 52 X14 hx (B d27_51) rfl rfl rfl ?_
   refine tA 54 X14 hx (B d27_52) rfl rfl rfl ?_
   obtain ⟨T16, h16, X16, e16, W16, st16⟩ := putF X14 hx hZ hown (host := "") (Or.inl (wv hw 34 rfl)) Via.refl e14 Fv_x E_x (Or.inr ⟨(wv hw 35 rfl), rfl, hnm⟩) (wv hw 8 rfl) (ty := (.array .byte)) (by decide) rfl rfl (g := (mkF m 54 LL12 [(.ref r6), (.ref x)])) rfl rfl (B d27_54)
   replace V_c := V_c.other W16 nq15
   replace E_x := E_x.wr W16
   replace Fc_x := Fc_x.other W16 (Or.inr (slot_ne (Or.inr (wv hw 33 rfl)) (Or.inr (wv hw 35 rfl)) (by decide) (t := .byte) (t' := (.array .byte)) (by decide) (by decide)))
   replace Vr6 := Vr6.other W16 (Ne.symm ne_x_r6)
   replace Er6 := Er6.wr W16
   replace Fv_x := Fv_x.same W16
   replace O := O.wr W16 g_x
   replace K := K.wr W16 (Or.inl (by simp))
   replace N := Fr.snoc X16 N g_x
   refine gb m T16 57 LL12 [] (st16) ?_
   obtain ⟨fs, hr, hrun, hended, hW, hsame⟩ := X16.leave (v := none) (fun _ => rfl)
   refine ⟨_, _, X16.returnOut hx Bd.returns (B d27_57) hr, hrun, hended, _, _, rfl, ?_, ⟨_, rfl⟩, hW, hsame.mono (by decide) (by decide)⟩
   show Qin Z x nn ch h0 n0 (none) T16.heap _
   rw [e16]
   exact ⟨rfl, N, K, r6, _, _, _, _, sz_r6, Fv_x, Fc_x, Vr6, Er6, Or.inr ⟨rfl, rfl, hR6⟩⟩

theorem d28_0 : decode c28 0 = .ok (.aload_n 0, 1) := by decide +kernel
theorem d28_1 : decode c28 1 = .ok (.aload_n 1, 1) := by decide +kernel
theorem d28_2 : decode c28 2 = .ok (.iconst 0, 1) := by decide +kernel
theorem d28_3 : decode c28 3 = .ok (.aload_n 1, 1) := by decide +kernel
theorem d28_4 : decode c28 4 = .ok (.arraylength, 1) := by decide +kernel
theorem d28_5 : decode c28 5 = .ok (.aconst_null, 1) := by decide +kernel
theorem d28_6 : decode c28 6 = .ok (.invokespecial 27, 3) := by decide +kernel
theorem d28_9 : decode c28 9 = .ok (.return_, 1) := by decide +kernel
theorem pn_sic : plainFor (⟨"java/lang/String", "<init>", "([C)V"⟩ : MethodName) = true := plainFor_of_name (by first | (simp [plainName, overriddenIn]; done) | decide +kernel)
theorem pd13 : parseMethodDescriptor "([CIILjava/lang/Void;)V" = some ⟨[(.array .char), .int, .int, (.object "java/lang/Void")], none⟩ := by decide +kernel
theorem ef_sic (m : MethodId) (x0 : Addr) (x1 : Addr) : entryFrame m #[(.ref x0), (.ref x1)] 2 = mkF m 0 #[.val (.ref x0), .val (.ref x1)] [] := by first | (simp [entryFrame, mkF, argsToLocals, Value.category]; done) | rfl
theorem rm_sic (l : Launch) (Z : State) (a0 : Array Value) (hw : ∀ d ∈ tables_1, d.before a0 Z = true) (ws : List Jvm.Cond) (x : Addr) (ca : Addr) (kc : ClassId) (nn : Nat) (ch : Nat → Nat) (zc : Int32) (fm : Value) (hS0 : Sf Z zc fm) (h0 : Heap) (n0 : Nat) (O : Old Z n0 h0) (E_x : Exa Z h0 x "java/lang/String") (Fv_x : Fld Z h0 x "java/lang/String" "value" "[B" .null) (Fc_x : Fld Z h0 x "java/lang/String" "coder" "B" (.int 0)) (g_x : n0 ≤ x) (V_c : Arv Z h0 ca kc .char (nI nn) (cont nn (chf ch)) (.int 0)) (hch : ∀ i, ch i < 65536) (hnn : nn ≤ 260) (hpos : 0 < nn) :
    MF l Z h0 (⟨"java/lang/String", "<init>", "([C)V"⟩ : MethodName) c28 2 none ws (rk 5 2 1300 74) #[(.ref x), (.ref ca)] (Qin Z x nn ch h0 n0) := by
  refine sg n0 [x] pn_sic rfl (fun m => ef_sic m x ca) fun p e s m below meth c s₁ Bd hml hZ hh hx B hown hnm X0 e0 N K => ?_
  let LL1 : Array Slot := #[.val (.ref x), .val (.ref ca)]
  refine sA 1 X0 hx (B d28_0) rfl rfl rfl ?_
  refine sA 2 X0 hx (B d28_1) rfl rfl rfl ?_
  refine sC 3 (0 : Int32) X0 hx (B d28_2) rfl rfl ?_
  refine sA 4 X0 hx (B d28_3) rfl rfl rfl ?_
  obtain ⟨cl2, Ar2, q2, S2, N2', H2, G2⟩ := id V_c
  refine gb m s₁ 5 LL1 [(.int (nI nn)), (.int (0 : Int32)), (.ref ca), (.ref x)] (fun t k => X0.arraylength hx (by rw [e0]; exact Ar2.1) (State.isArrayOf_alike hZ.alike Ar2.2.1) (g := (mkF m 4 LL1 [(.ref ca), (.int (0 : Int32)), (.ref ca), (.ref x)])) rfl rfl (B d28_4) t (by rw [len_of S2 N2']; exact k)) ?_
  refine gb m s₁ 6 LL1 [.null, (.int (nI nn)), (.int (0 : Int32)), (.ref ca), (.ref x)] (fun _ k => XS.aconstNull X0.here hx rfl (B d28_5) k) ?_
  have hy3_0 : nn ≤ 260 := by omega
  have hy3_1 : 0 < nn := by omega
  obtain ⟨v3, _, ⟨T3, L3, k3, n3⟩, -, X3, ⟨Lc3, hQ3, l3, y3, z3⟩, st3⟩ := X0.specialBack hx (y := (⟨"java/lang/String", "<init>", "([CIILjava/lang/Void;)V"⟩ : MethodName)) rfl hown (mvT hZ (wv hw 13 rfl)) (mvT hZ (wv hw 14 rfl)) (mvT hZ (wv hw 16 rfl)) (by decide) (backOf (W := 0) (rm_siv l Z a0 hw [] x ca _ nn ch zc fm hS0 h0 n0 O E_x Fv_x Fc_x g_x V_c hch hy3_0 hy3_1) hZ (wv hw 16 rfl) (wv hw 9 rfl) (by decide) (by decide)) (g := (mkF m 6 LL1 [.null, (.int (nI nn)), (.int (0 : Int32)), (.ref ca), (.ref x)])) rfl (by rw [hml]; rfl) (Steps.refl _) (a := x) (argsL := [(.ref ca), (.int (0 : Int32)), (.int (nI nn)), .null]) (rest := []) (lenOf pd13 rfl) rfl (by show 2 * 0 + _ ≤ _; exact Nat.le_of_eq rfl) (B d28_6) (fun _ _ => ⟨rfl, e0, (by decide : 0 + 2 ≤ _), (by decide : 0 + 1300 ≤ _)⟩)
  dsimp only [Pt.U, Pt.locs, Pt.cells, Pt.slots] at X3 l3 y3 z3 st3 hQ3
  rw [l3, y3, z3] at X3; clear l3 y3 z3
  obtain ⟨rfl, Nq3, K3, r3, k23, cd3, lb3, fd3, gr3, Gv3, Gc3, Vr3, Er3, hR3⟩ := hQ3
  replace N := Fr.app N Nq3
  have sz_r3 : h0.size ≤ r3 := Nat.le_trans K.1 gr3
  have nq4 : ca ≠ x := (Ne.symm (own_nev E_x (wv hw 8 rfl) V_c))
  replace V_c := V_c.keep K3 (ninS nq4 nin0)
  replace E_x := E_x.keep K3
  replace O := O.keep K3 (allS g_x all0)
  replace K := K.trans K3 (allS (Or.inl (by simp)) all0)
  refine gb m T3 9 LL1 [] (fun _ k => st3.trans k) ?_
  obtain ⟨fs, hr, hrun, hended, hW, hsame⟩ := X3.leave (v := none) (fun _ => rfl)
  refine ⟨_, _, X3.returnOut hx Bd.returns (B d28_9) hr, hrun, hended, _, _, rfl, ?_, ⟨_, rfl⟩, hW, hsame.mono (by decide) (by decide)⟩
  show Qin Z x nn ch h0 n0 (none) T3.heap _
  exact ⟨rfl, N, K, r3, _, _, _, _, sz_r3, Gv3, Gc3, Vr3, Er3, hR3⟩

theorem own_cpaA {ch : Nat → Nat} {n i : Nat} (h : hiS (ch i) = false) (hc : ch i < 65536) : 65536 ≤ ch i ↔ pr ch n i = true := by
  unfold pr; rw [h]; simp; omega
theorem own_cpaB {ch : Nat → Nat} {n i : Nat} (h : ¬ i + 1 < n) (hc : ch i < 65536) : 65536 ≤ ch i ↔ pr ch n i = true := by
  unfold pr; simp [h]; omega
theorem own_cpaC {ch : Nat → Nat} {n i : Nat} (h : loS (ch (i + 1)) = false) (hc : ch i < 65536) : 65536 ≤ ch i ↔ pr ch n i = true := by
  unfold pr; rw [h]; simp; omega
theorem own_cpaD {ch : Nat → Nat} {n i : Nat} (h1 : i + 1 < n) (h2 : ¬ hiS (ch i) = false) (h3 : ¬ loS (ch (i + 1)) = false) (q : 65536 ≤ ch i * 1024 + ch (i + 1) - 56613888) : 65536 ≤ ch i * 1024 + ch (i + 1) - 56613888 ↔ pr ch n i = true := by
  unfold pr; simp at h2 h3; simp [h1, h2, h3, q]
theorem own_cpa0 {ch : Nat → Nat} {n i : Nat} (hc : ch i < 256) : 65536 ≤ ch i ↔ pr ch n i = true := own_cpaA (by unfold hiS; simp; omega) (by omega)
theorem own_hi {k : Nat} (h : ¬ hiS k = false) : 55296 ≤ k ∧ k < 56320 := by unfold hiS at h; simp at h; omega
theorem own_loq {k : Nat} (h : ¬ loS k = false) : 56320 ≤ k ∧ k < 57344 := by unfold loS at h; simp at h; omega
theorem own_i2c2 {k : Nat} (hk : k < 65536) : nar .char ((Int32.ofNat k).toUInt32.toUInt16.toUInt32.toInt32) = Int32.ofNat k := by rw [own_i2cN hk]; exact own_narc hk
theorem own_cpy0 {f g z : Nat → Int32} {k i : Nat} (e : g = cpy f 0 z 0 k) (h : i < k) : g i = f i := by
  subst e; unfold cpy; rw [if_pos ⟨by omega, by omega⟩]; congr 1; omega
theorem own_L1m {f g : Nat → Int32} {ch : Nat → Nat} {m n : Nat} (e : ∀ i, i < 2 * m → g i = f i) (h : m ≤ n) (H : Utf n f ch) : Utf m g ch := fun i hi => by
  rw [e _ (by omega), e _ (by omega)]; exact H i (by omega)
theorem own_L0m {f g : Nat → Int32} {ch : Nat → Nat} {m n : Nat} (e : ∀ i, i < m → g i = f i) (h : m ≤ n) (H : Lat n f ch) : Lat m g ch := fun i hi => by
  rw [e _ hi]; exact H i (by omega)

theorem d29_0 : decode c29 0 = .ok (.getstatic 38, 3) := by decide +kernel
theorem d29_3 : decode c29 3 = .ok (.ifCond .eq 10, 3) := by decide +kernel
theorem d29_6 : decode c29 6 = .ok (.aload_n 0, 1) := by decide +kernel
theorem d29_7 : decode c29 7 = .ok (.getfield 15, 3) := by decide +kernel
theorem d29_10 : decode c29 10 = .ok (.goto 4, 3) := by decide +kernel
theorem d29_14 : decode c29 14 = .ok (.ireturn, 1) := by decide +kernel
theorem pn_cdr0 : plainFor (⟨"java/lang/String", "coder", "()B"⟩ : MethodName) = true := plainFor_of_name (by first | (simp [plainName, overriddenIn]; done) | decide +kernel)
theorem ef_cdr0 (m : MethodId) (x0 : Addr) : entryFrame m #[(.ref x0)] 1 = mkF m 0 #[.val (.ref x0)] [] := by first | (simp [entryFrame, mkF, argsToLocals, Value.category]; done) | rfl
theorem rm_cdr0 (l : Launch) (Z : State) (a0 : Array Value) (hw : ∀ d ∈ tables_1, d.before a0 Z = true) (ws : List Jvm.Cond) (x tx : Addr) (kx : ClassId) (xn : Nat) (fx : Nat → Int32)   (zc : Int32) (fm : Value) (hS0 : Sf Z zc fm) (h0 : Heap) (n0 : Nat) (O : Old Z n0 h0) (E_x : Exa Z h0 x "java/lang/String") (Fv_x : Fld Z h0 x "java/lang/String" "value" "[B" (.ref tx)) (Fc_x : Fld Z h0 x "java/lang/String" "coder" "B" (.int 0)) (V_tx : Arv Z h0 tx kx .byte (nI xn) (cont xn fx) (.int 0)) (hxn : xn ≤ 300)   :
    MF l Z h0 (⟨"java/lang/String", "coder", "()B"⟩ : MethodName) c29 1 (some .byte) ws (rk 0 0 0 0) #[(.ref x)] (Qpure (some (.int 0)) h0 n0) := by
  refine sg n0 [] pn_cdr0 rfl (fun m => ef_cdr0 m x) fun p e s m below meth c s₁ Bd hml hZ hh hx B hown hnm X0 e0 N K => ?_
  let LL1 : Array Slot := #[.val (.ref x)]
  obtain ⟨T2, X2, e2, st2⟩ := getS2 X0 hx hZ hown (host := "") (Or.inl (wv hw 20 rfl)) Via.refl e0 (Sta.ext O.2 hS0.1) (g := (mkF m 0 LL1 [])) rfl (B d29_0)
  refine gb m T2 3 LL1 [(.int zc)] (st2) ?_
  refine gb m T2 6 LL1 [] (fun _ k => XS.ifNo X2.here hx rfl (B d29_3) rfl ((if0 _ _).trans (feq hS0.2.1).1) k) ?_
  refine sA 7 X2 hx (B d29_6) rfl rfl rfl ?_
  obtain ⟨T4, X4, e4, st4⟩ := getF X2 hx hZ hown (host := "") (Or.inl (wv hw 32 rfl)) Via.refl e2 Fc_x (g := (mkF m 7 LL1 [(.ref x)])) rfl rfl (B d29_7)
  refine gb m T4 10 LL1 [(.int (0 : Int32))] (st4) ?_
  refine gb m T4 14 LL1 [(.int (0 : Int32))] (fun _ k => XS.goto X4.here hx rfl (pc0 := 10) (pc' := 14) rfl (B d29_10) (by decide) (by decide) k) ?_
  obtain ⟨fs, hr, hrun, hended, hW, hsame⟩ := X4.leave (v := some (.int (0 : Int32))) (fun h => by rw [Bd.returns] at h; cases h)
  refine ⟨_, _, retN X4 hx (t := .byte) Bd.returns (by simp) (B d29_14) hr, hrun, hended, _, _, rfl, ?_, ⟨_, rfl⟩, hW, hsame.mono (by decide) (by decide)⟩
  show Qpure (some (.int 0)) h0 n0 (some (.int (0 : Int32))) T4.heap _
  rw [e4]
  exact ⟨rfl, N, rfl⟩

theorem pn_cdr1 : plainFor (⟨"java/lang/String", "coder", "()B"⟩ : MethodName) = true := plainFor_of_name (by first | (simp [plainName, overriddenIn]; done) | decide +kernel)
theorem ef_cdr1 (m : MethodId) (x0 : Addr) : entryFrame m #[(.ref x0)] 1 = mkF m 0 #[.val (.ref x0)] [] := by first | (simp [entryFrame, mkF, argsToLocals, Value.category]; done) | rfl
theorem rm_cdr1 (l : Launch) (Z : State) (a0 : Array Value) (hw : ∀ d ∈ tables_1, d.before a0 Z = true) (ws : List Jvm.Cond) (x tx : Addr) (kx : ClassId) (xn : Nat) (fx : Nat → Int32)   (zc : Int32) (fm : Value) (hS0 : Sf Z zc fm) (h0 : Heap) (n0 : Nat) (O : Old Z n0 h0) (E_x : Exa Z h0 x "java/lang/String") (Fv_x : Fld Z h0 x "java/lang/String" "value" "[B" (.ref tx)) (Fc_x : Fld Z h0 x "java/lang/String" "coder" "B" (.int 1)) (V_tx : Arv Z h0 tx kx .byte (nI (2 * xn)) (cont (2 * xn) fx) (.int 0)) (hxn : xn ≤ 300)   :
    MF l Z h0 (⟨"java/lang/String", "coder", "()B"⟩ : MethodName) c29 1 (some .byte) ws (rk 0 0 0 0) #[(.ref x)] (Qpure (some (.int 1)) h0 n0) := by
  refine sg n0 [] pn_cdr1 rfl (fun m => ef_cdr1 m x) fun p e s m below meth c s₁ Bd hml hZ hh hx B hown hnm X0 e0 N K => ?_
  let LL1 : Array Slot := #[.val (.ref x)]
  obtain ⟨T2, X2, e2, st2⟩ := getS2 X0 hx hZ hown (host := "") (Or.inl (wv hw 20 rfl)) Via.refl e0 (Sta.ext O.2 hS0.1) (g := (mkF m 0 LL1 [])) rfl (B d29_0)
  refine gb m T2 3 LL1 [(.int zc)] (st2) ?_
  refine gb m T2 6 LL1 [] (fun _ k => XS.ifNo X2.here hx rfl (B d29_3) rfl ((if0 _ _).trans (feq hS0.2.1).1) k) ?_
  refine sA 7 X2 hx (B d29_6) rfl rfl rfl ?_
  obtain ⟨T4, X4, e4, st4⟩ := getF X2 hx hZ hown (host := "") (Or.inl (wv hw 32 rfl)) Via.refl e2 Fc_x (g := (mkF m 7 LL1 [(.ref x)])) rfl rfl (B d29_7)
  refine gb m T4 10 LL1 [(.int (1 : Int32))] (st4) ?_
  refine gb m T4 14 LL1 [(.int (1 : Int32))] (fun _ k => XS.goto X4.here hx rfl (pc0 := 10) (pc' := 14) rfl (B d29_10) (by decide) (by decide) k) ?_
  obtain ⟨fs, hr, hrun, hended, hW, hsame⟩ := X4.leave (v := some (.int (1 : Int32))) (fun h => by rw [Bd.returns] at h; cases h)
  refine ⟨_, _, retN X4 hx (t := .byte) Bd.returns (by simp) (B d29_14) hr, hrun, hended, _, _, rfl, ?_, ⟨_, rfl⟩, hW, hsame.mono (by decide) (by decide)⟩
  show Qpure (some (.int 1)) h0 n0 (some (.int (1 : Int32))) T4.heap _
  rw [e4]
  exact ⟨rfl, N, rfl⟩

theorem d30_0 : decode c30 0 = .ok (.getstatic 38, 3) := by decide +kernel
theorem d30_3 : decode c30 3 = .ok (.ifCond .eq 14, 3) := by decide +kernel
theorem d30_6 : decode c30 6 = .ok (.aload_n 0, 1) := by decide +kernel
theorem d30_7 : decode c30 7 = .ok (.getfield 15, 3) := by decide +kernel
theorem d30_10 : decode c30 10 = .ok (.ifCond .ne 7, 3) := by decide +kernel
theorem d30_13 : decode c30 13 = .ok (.iconst 1, 1) := by decide +kernel
theorem d30_14 : decode c30 14 = .ok (.goto 4, 3) := by decide +kernel
theorem d30_18 : decode c30 18 = .ok (.ireturn, 1) := by decide +kernel
theorem pn_isl0 : plainFor (⟨"java/lang/String", "isLatin1", "()Z"⟩ : MethodName) = true := plainFor_of_name (by first | (simp [plainName, overriddenIn]; done) | decide +kernel)
theorem ef_isl0 (m : MethodId) (x0 : Addr) : entryFrame m #[(.ref x0)] 1 = mkF m 0 #[.val (.ref x0)] [] := by first | (simp [entryFrame, mkF, argsToLocals, Value.category]; done) | rfl
theorem rm_isl0 (l : Launch) (Z : State) (a0 : Array Value) (hw : ∀ d ∈ tables_1, d.before a0 Z = true) (ws : List Jvm.Cond) (x tx : Addr) (kx : ClassId) (xn : Nat) (fx : Nat → Int32)   (zc : Int32) (fm : Value) (hS0 : Sf Z zc fm) (h0 : Heap) (n0 : Nat) (O : Old Z n0 h0) (E_x : Exa Z h0 x "java/lang/String") (Fv_x : Fld Z h0 x "java/lang/String" "value" "[B" (.ref tx)) (Fc_x : Fld Z h0 x "java/lang/String" "coder" "B" (.int 0)) (V_tx : Arv Z h0 tx kx .byte (nI xn) (cont xn fx) (.int 0)) (hxn : xn ≤ 300)   :
    MF l Z h0 (⟨"java/lang/String", "isLatin1", "()Z"⟩ : MethodName) c30 1 (some .boolean) ws (rk 0 0 0 0) #[(.ref x)] (Qpure (some (.int 1)) h0 n0) := by
  refine sg n0 [] pn_isl0 rfl (fun m => ef_isl0 m x) fun p e s m below meth c s₁ Bd hml hZ hh hx B hown hnm X0 e0 N K => ?_
  let LL1 : Array Slot := #[.val (.ref x)]
  obtain ⟨T2, X2, e2, st2⟩ := getS2 X0 hx hZ hown (host := "") (Or.inl (wv hw 20 rfl)) Via.refl e0 (Sta.ext O.2 hS0.1) (g := (mkF m 0 LL1 [])) rfl (B d30_0)
  refine gb m T2 3 LL1 [(.int zc)] (st2) ?_
  refine gb m T2 6 LL1 [] (fun _ k => XS.ifNo X2.here hx rfl (B d30_3) rfl ((if0 _ _).trans (feq hS0.2.1).1) k) ?_
  refine sA 7 X2 hx (B d30_6) rfl rfl rfl ?_
  obtain ⟨T4, X4, e4, st4⟩ := getF X2 hx hZ hown (host := "") (Or.inl (wv hw 32 rfl)) Via.refl e2 Fc_x (g := (mkF m 7 LL1 [(.ref x)])) rfl rfl (B d30_7)
  refine gb m T4 10 LL1 [(.int (0 : Int32))] (st4) ?_
  refine gb m T4 13 LL1 [] (fun _ k => XS.ifNo X4.here hx rfl (B d30_10) rfl ((if0 _ _).trans (teq (by decide : (0 : Int32) = (0 : Int32))).2) k) ?_
  refine sC 14 (1 : Int32) X4 hx (B d30_13) rfl rfl ?_
  refine gb m T4 18 LL1 [(.int (1 : Int32))] (fun _ k => XS.goto X4.here hx rfl (pc0 := 14) (pc' := 18) rfl (B d30_14) (by decide) (by decide) k) ?_
  obtain ⟨fs, hr, hrun, hended, hW, hsame⟩ := X4.leave (v := some (.int (1 : Int32))) (fun h => by rw [Bd.returns] at h; cases h)
  refine ⟨_, _, retN X4 hx (t := .boolean) Bd.returns (by simp) (B d30_18) hr, hrun, hended, _, _, rfl, ?_, ⟨_, rfl⟩, hW, hsame.mono (by decide) (by decide)⟩
  show Qpure (some (.int 1)) h0 n0 (some (.int (1 : Int32))) T4.heap _
  rw [e4]
  exact ⟨rfl, N, rfl⟩

theorem d30_17 : decode c30 17 = .ok (.iconst 0, 1) := by decide +kernel
theorem pn_isl1 : plainFor (⟨"java/lang/String", "isLatin1", "()Z"⟩ : MethodName) = true := plainFor_of_name (by first | (simp [plainName, overriddenIn]; done) | decide +kernel)
theorem ef_isl1 (m : MethodId) (x0 : Addr) : entryFrame m #[(.ref x0)] 1 = mkF m 0 #[.val (.ref x0)] [] := by first | (simp [entryFrame, mkF, argsToLocals, Value.category]; done) | rfl
theorem rm_isl1 (l : Launch) (Z : State) (a0 : Array Value) (hw : ∀ d ∈ tables_1, d.before a0 Z = true) (ws : List Jvm.Cond) (x tx : Addr) (kx : ClassId) (xn : Nat) (fx : Nat → Int32)   (zc : Int32) (fm : Value) (hS0 : Sf Z zc fm) (h0 : Heap) (n0 : Nat) (O : Old Z n0 h0) (E_x : Exa Z h0 x "java/lang/String") (Fv_x : Fld Z h0 x "java/lang/String" "value" "[B" (.ref tx)) (Fc_x : Fld Z h0 x "java/lang/String" "coder" "B" (.int 1)) (V_tx : Arv Z h0 tx kx .byte (nI (2 * xn)) (cont (2 * xn) fx) (.int 0)) (hxn : xn ≤ 300)   :
    MF l Z h0 (⟨"java/lang/String", "isLatin1", "()Z"⟩ : MethodName) c30 1 (some .boolean) ws (rk 0 0 0 0) #[(.ref x)] (Qpure (some (.int 0)) h0 n0) := by
  refine sg n0 [] pn_isl1 rfl (fun m => ef_isl1 m x) fun p e s m below meth c s₁ Bd hml hZ hh hx B hown hnm X0 e0 N K => ?_
  let LL1 : Array Slot := #[.val (.ref x)]
  obtain ⟨T2, X2, e2, st2⟩ := getS2 X0 hx hZ hown (host := "") (Or.inl (wv hw 20 rfl)) Via.refl e0 (Sta.ext O.2 hS0.1) (g := (mkF m 0 LL1 [])) rfl (B d30_0)
  refine gb m T2 3 LL1 [(.int zc)] (st2) ?_
  refine gb m T2 6 LL1 [] (fun _ k => XS.ifNo X2.here hx rfl (B d30_3) rfl ((if0 _ _).trans (feq hS0.2.1).1) k) ?_
  refine sA 7 X2 hx (B d30_6) rfl rfl rfl ?_
  obtain ⟨T4, X4, e4, st4⟩ := getF X2 hx hZ hown (host := "") (Or.inl (wv hw 32 rfl)) Via.refl e2 Fc_x (g := (mkF m 7 LL1 [(.ref x)])) rfl rfl (B d30_7)
  refine gb m T4 10 LL1 [(.int (1 : Int32))] (st4) ?_
  refine gb m T4 17 LL1 [] (fun _ k => XS.ifYes X4.here hx rfl (pc0 := 10) (pc' := 17) rfl (B d30_10) rfl ((if0 _ _).trans (feq (by decide : ¬ ((1 : Int32) = (0 : Int32)))).2) (by decide) (by decide) k) ?_
  refine sC 18 (0 : Int32) X4 hx (B d30_17) rfl rfl ?_
  obtain ⟨fs, hr, hrun, hended, hW, hsame⟩ := X4.leave (v := some (.int (0 : Int32))) (fun h => by rw [Bd.returns] at h; cases h)
  refine ⟨_, _, retN X4 hx (t := .boolean) Bd.returns (by simp) (B d30_18) hr, hrun, hended, _, _, rfl, ?_, ⟨_, rfl⟩, hW, hsame.mono (by decide) (by decide)⟩
  show Qpure (some (.int 0)) h0 n0 (some (.int (0 : Int32))) T4.heap _
  rw [e4]
  exact ⟨rfl, N, rfl⟩

theorem d31_0 : decode c31 0 = .ok (.aload_n 0, 1) := by decide +kernel
theorem d31_1 : decode c31 1 = .ok (.getfield 9, 3) := by decide +kernel
theorem d31_4 : decode c31 4 = .ok (.arraylength, 1) := by decide +kernel
theorem d31_5 : decode c31 5 = .ok (.aload_n 0, 1) := by decide +kernel
theorem d31_6 : decode c31 6 = .ok (.invokevirtual 335, 3) := by decide +kernel
theorem d31_9 : decode c31 9 = .ok (.ishr, 1) := by decide +kernel
theorem d31_10 : decode c31 10 = .ok (.ireturn, 1) := by decide +kernel
theorem pn_sl0 : plainFor (⟨"java/lang/String", "length", "()I"⟩ : MethodName) = true := plainFor_of_name (by first | (simp [plainName, overriddenIn]; done) | decide +kernel)
theorem pd14 : parseMethodDescriptor "()B" = some ⟨[], some .byte⟩ := by decide +kernel
theorem ef_sl0 (m : MethodId) (x0 : Addr) : entryFrame m #[(.ref x0)] 1 = mkF m 0 #[.val (.ref x0)] [] := by first | (simp [entryFrame, mkF, argsToLocals, Value.category]; done) | rfl
theorem rm_sl0 (l : Launch) (Z : State) (a0 : Array Value) (hw : ∀ d ∈ tables_1, d.before a0 Z = true) (ws : List Jvm.Cond) (x tx : Addr) (kx : ClassId) (xn : Nat) (fx : Nat → Int32)   (zc : Int32) (fm : Value) (hS0 : Sf Z zc fm) (h0 : Heap) (n0 : Nat) (O : Old Z n0 h0) (E_x : Exa Z h0 x "java/lang/String") (Fv_x : Fld Z h0 x "java/lang/String" "value" "[B" (.ref tx)) (Fc_x : Fld Z h0 x "java/lang/String" "coder" "B" (.int 0)) (V_tx : Arv Z h0 tx kx .byte (nI xn) (cont xn fx) (.int 0)) (hxn : xn ≤ 300)   :
    MF l Z h0 (⟨"java/lang/String", "length", "()I"⟩ : MethodName) c31 1 (some .int) ws (rk 1 0 0 13) #[(.ref x)] (Qpure (some (.int (nI xn))) h0 n0) := by
  refine sg n0 [] pn_sl0 rfl (fun m => ef_sl0 m x) fun p e s m below meth c s₁ Bd hml hZ hh hx B hown hnm X0 e0 N K => ?_
  let LL1 : Array Slot := #[.val (.ref x)]
  refine sA 1 X0 hx (B d31_0) rfl rfl rfl ?_
  obtain ⟨T2, X2, e2, st2⟩ := getF X0 hx hZ hown (host := "") (Or.inl (wv hw 34 rfl)) Via.refl e0 Fv_x (g := (mkF m 1 LL1 [(.ref x)])) rfl rfl (B d31_1)
  refine gb m T2 4 LL1 [(.ref tx)] (st2) ?_
  obtain ⟨cl3, Ar3, q3, S3, N3', H3, G3⟩ := id V_tx
  refine gb m T2 5 LL1 [(.int (nI xn))] (fun t k => X2.arraylength hx (by rw [e2]; exact Ar3.1) (State.isArrayOf_alike hZ.alike Ar3.2.1) (g := (mkF m 4 LL1 [(.ref tx)])) rfl rfl (B d31_4) t (by rw [len_of S3 N3']; exact k)) ?_
  refine sA 6 X2 hx (B d31_5) rfl rfl rfl ?_
  have hs4_x : xn ≤ 300 := by omega
  obtain ⟨v4, T4, Lc4, X4, hQ4, st4⟩ := cV LL1 [(.int (nI xn))] X2 hx hZ hown hw e2 hml E_x 45 46 48 47 9 49 rfl rfl rfl rfl rfl rfl (by decide) (rm_cdr0 l Z a0 hw [] x tx _ xn fx   zc fm hS0 h0 n0 O E_x Fv_x Fc_x V_tx hs4_x  ) pd14 rfl rfl (B d31_6) rfl
  obtain ⟨rfl, Nq4, e4⟩ := hQ4
  replace N := Fr.app N Nq4
  refine gb m T4 9 LL1 [(.int (0 : Int32)), (.int (nI xn))] (st4) ?_
  refine gb m T4 10 LL1 [(.int ((nI xn) >>> ((0 : Int32) &&& 31)))] (fun _ k => XS.ishr X4.here hx rfl (B d31_9) rfl k) ?_
  rw [show ((nI xn) >>> ((0 : Int32) &&& 31)) = (nI xn) from own_shr0 _]
  obtain ⟨fs, hr, hrun, hended, hW, hsame⟩ := X4.leave (v := some (.int (nI xn))) (fun h => by rw [Bd.returns] at h; cases h)
  refine ⟨_, _, retOut X4 hx Bd.returns rfl (Or.inl ⟨rfl, Or.inl rfl, _, rfl⟩) (B d31_10) hr, hrun, hended, _, _, rfl, ?_, ⟨_, rfl⟩, hW, hsame.mono (by decide) (by decide)⟩
  show Qpure (some (.int (nI xn))) h0 n0 (some (.int (nI xn))) T4.heap _
  rw [e4]
  exact ⟨rfl, N, rfl⟩

theorem pn_sl1 : plainFor (⟨"java/lang/String", "length", "()I"⟩ : MethodName) = true := plainFor_of_name (by first | (simp [plainName, overriddenIn]; done) | decide +kernel)
theorem ef_sl1 (m : MethodId) (x0 : Addr) : entryFrame m #[(.ref x0)] 1 = mkF m 0 #[.val (.ref x0)] [] := by first | (simp [entryFrame, mkF, argsToLocals, Value.category]; done) | rfl
theorem rm_sl1 (l : Launch) (Z : State) (a0 : Array Value) (hw : ∀ d ∈ tables_1, d.before a0 Z = true) (ws : List Jvm.Cond) (x tx : Addr) (kx : ClassId) (xn : Nat) (fx : Nat → Int32)   (zc : Int32) (fm : Value) (hS0 : Sf Z zc fm) (h0 : Heap) (n0 : Nat) (O : Old Z n0 h0) (E_x : Exa Z h0 x "java/lang/String") (Fv_x : Fld Z h0 x "java/lang/String" "value" "[B" (.ref tx)) (Fc_x : Fld Z h0 x "java/lang/String" "coder" "B" (.int 1)) (V_tx : Arv Z h0 tx kx .byte (nI (2 * xn)) (cont (2 * xn) fx) (.int 0)) (hxn : xn ≤ 300)   :
    MF l Z h0 (⟨"java/lang/String", "length", "()I"⟩ : MethodName) c31 1 (some .int) ws (rk 1 0 0 13) #[(.ref x)] (Qpure (some (.int (nI xn))) h0 n0) := by
  refine sg n0 [] pn_sl1 rfl (fun m => ef_sl1 m x) fun p e s m below meth c s₁ Bd hml hZ hh hx B hown hnm X0 e0 N K => ?_
  let LL1 : Array Slot := #[.val (.ref x)]
  refine sA 1 X0 hx (B d31_0) rfl rfl rfl ?_
  obtain ⟨T2, X2, e2, st2⟩ := getF X0 hx hZ hown (host := "") (Or.inl (wv hw 34 rfl)) Via.refl e0 Fv_x (g := (mkF m 1 LL1 [(.ref x)])) rfl rfl (B d31_1)
  refine gb m T2 4 LL1 [(.ref tx)] (st2) ?_
  obtain ⟨cl3, Ar3, q3, S3, N3', H3, G3⟩ := id V_tx
  refine gb m T2 5 LL1 [(.int (nI (2 * xn)))] (fun t k => X2.arraylength hx (by rw [e2]; exact Ar3.1) (State.isArrayOf_alike hZ.alike Ar3.2.1) (g := (mkF m 4 LL1 [(.ref tx)])) rfl rfl (B d31_4) t (by rw [len_of S3 N3']; exact k)) ?_
  refine sA 6 X2 hx (B d31_5) rfl rfl rfl ?_
  have hs4_x : xn ≤ 300 := by omega
  obtain ⟨v4, T4, Lc4, X4, hQ4, st4⟩ := cV LL1 [(.int (nI (2 * xn)))] X2 hx hZ hown hw e2 hml E_x 45 46 48 47 9 49 rfl rfl rfl rfl rfl rfl (by decide) (rm_cdr1 l Z a0 hw [] x tx _ xn fx   zc fm hS0 h0 n0 O E_x Fv_x Fc_x V_tx hs4_x  ) pd14 rfl rfl (B d31_6) rfl
  obtain ⟨rfl, Nq4, e4⟩ := hQ4
  replace N := Fr.app N Nq4
  refine gb m T4 9 LL1 [(.int (1 : Int32)), (.int (nI (2 * xn)))] (st4) ?_
  refine gb m T4 10 LL1 [(.int ((nI (2 * xn)) >>> ((1 : Int32) &&& 31)))] (fun _ k => XS.ishr X4.here hx rfl (B d31_9) rfl k) ?_
  rw [show ((nI (2 * xn)) >>> ((1 : Int32) &&& 31)) = (nI xn) from own_shr1 (a := xn) (by omega)]
  obtain ⟨fs, hr, hrun, hended, hW, hsame⟩ := X4.leave (v := some (.int (nI xn))) (fun h => by rw [Bd.returns] at h; cases h)
  refine ⟨_, _, retOut X4 hx Bd.returns rfl (Or.inl ⟨rfl, Or.inl rfl, _, rfl⟩) (B d31_10) hr, hrun, hended, _, _, rfl, ?_, ⟨_, rfl⟩, hW, hsame.mono (by decide) (by decide)⟩
  show Qpure (some (.int (nI xn))) h0 n0 (some (.int (nI xn))) T4.heap _
  rw [e4]
  exact ⟨rfl, N, rfl⟩

theorem d32_0 : decode c32 0 = .ok (.getstatic 44, 3) := by decide +kernel
theorem d32_3 : decode c32 3 = .ok (.ifCond .ne 16, 3) := by decide +kernel
theorem d32_19 : decode c32 19 = .ok (.iload_n 3, 1) := by decide +kernel
theorem d32_20 : decode c32 20 = .ok (.ifCond .eq 8, 3) := by decide +kernel
theorem d32_28 : decode c32 28 = .ok (.aload_n 0, 1) := by decide +kernel
theorem d32_29 : decode c32 29 = .ok (.iload_n 1, 1) := by decide +kernel
theorem d32_30 : decode c32 30 = .ok (.invokestatic 71, 3) := by decide +kernel
theorem d32_33 : decode c32 33 = .ok (.istore 4, 2) := by decide +kernel
theorem d32_35 : decode c32 35 = .ok (.iload 4, 2) := by decide +kernel
theorem d32_37 : decode c32 37 = .ok (.invokestatic 75, 3) := by decide +kernel
theorem d32_40 : decode c32 40 = .ok (.ifCond .eq 43, 3) := by decide +kernel
theorem d32_43 : decode c32 43 = .ok (.iinc 1 1, 3) := by decide +kernel
theorem d32_46 : decode c32 46 = .ok (.iload_n 1, 1) := by decide +kernel
theorem d32_47 : decode c32 47 = .ok (.iload_n 2, 1) := by decide +kernel
theorem d32_48 : decode c32 48 = .ok (.if_icmp .ge 35, 3) := by decide +kernel
theorem d32_51 : decode c32 51 = .ok (.iload_n 3, 1) := by decide +kernel
theorem d32_52 : decode c32 52 = .ok (.ifCond .eq 8, 3) := by decide +kernel
theorem d32_60 : decode c32 60 = .ok (.aload_n 0, 1) := by decide +kernel
theorem d32_61 : decode c32 61 = .ok (.iload_n 1, 1) := by decide +kernel
theorem d32_62 : decode c32 62 = .ok (.invokestatic 71, 3) := by decide +kernel
theorem d32_65 : decode c32 65 = .ok (.istore 5, 2) := by decide +kernel
theorem d32_67 : decode c32 67 = .ok (.iload 5, 2) := by decide +kernel
theorem d32_69 : decode c32 69 = .ok (.invokestatic 81, 3) := by decide +kernel
theorem d32_72 : decode c32 72 = .ok (.ifCond .eq 11, 3) := by decide +kernel
theorem d32_75 : decode c32 75 = .ok (.iload 4, 2) := by decide +kernel
theorem d32_77 : decode c32 77 = .ok (.iload 5, 2) := by decide +kernel
theorem d32_79 : decode c32 79 = .ok (.invokestatic 84, 3) := by decide +kernel
theorem d32_82 : decode c32 82 = .ok (.ireturn, 1) := by decide +kernel
theorem d32_83 : decode c32 83 = .ok (.iload 4, 2) := by decide +kernel
theorem d32_85 : decode c32 85 = .ok (.ireturn, 1) := by decide +kernel
theorem pn_ucz : plainFor (⟨"java/lang/StringUTF16", "codePointAt", "([BIIZ)I"⟩ : MethodName) = true := plainFor_of_name (by first | (simp [plainName, overriddenIn]; done) | decide +kernel)
theorem pd15 : parseMethodDescriptor "(C)Z" = some ⟨[.char], some .boolean⟩ := by decide +kernel
theorem pd16 : parseMethodDescriptor "(CC)I" = some ⟨[.char, .char], some .int⟩ := by decide +kernel
theorem ef_ucz (m : MethodId) (x0 : Addr) (x1 : Int32) (x2 : Int32) : entryFrame m #[(.ref x0), (.int x1), (.int x2), (.int (0 : Int32))] 6 = mkF m 0 #[.val (.ref x0), .val (.int x1), .val (.int x2), .val (.int (0 : Int32)), .unset, .unset] [] := by first | (simp [entryFrame, mkF, argsToLocals, Value.category]; done) | rfl
theorem rm_ucz (l : Launch) (Z : State) (a0 : Array Value) (hw : ∀ d ∈ tables_1, d.before a0 Z = true) (ws : List Jvm.Cond) (tb : Addr) (kt : ClassId) (xn : Nat) (ft : Nat → Int32) (ch : Nat → Nat) (xi : Nat) (zc : Int32) (fm : Value) (hS0 : Sf Z zc fm) (h0 : Heap) (n0 : Nat) (O : Old Z n0 h0) (V_t : Arv Z h0 tb kt .byte (nI (2 * xn)) (cont (2 * xn) ft) (.int 0)) (hch : ∀ i, ch i < 65536) (hR : Utf xn ft ch) (hy0 : xi < xn) (hy1 : xn ≤ 300) :
    MF l Z h0 (⟨"java/lang/StringUTF16", "codePointAt", "([BIIZ)I"⟩ : MethodName) c32 6 (some .int) ws (rk 1 0 0 13) #[(.ref tb), (.int (nI xi)), (.int (nI xn)), (.int (0 : Int32))] (Qcpa ch xn xi h0 n0) := by
  refine sg n0 [] pn_ucz rfl (fun m => ef_ucz m tb (nI xi) (nI xn)) fun p e s m below meth c s₁ Bd hml hZ hh hx B hown hnm X0 e0 N K => ?_
  have hci := hch xi
  have hcj := hch (xi + 1)
  let LL1 : Array Slot := #[.val (.ref tb), .val (.int (nI xi)), .val (.int (nI xn)), .val (.int (0 : Int32)), .unset, .unset]
  obtain ⟨T2, X2, e2, st2⟩ := getS2 X0 hx hZ hown (host := "") (Or.inl (wv hw 246 rfl)) Via.refl e0 (Sta.ext O.2 hS0.2.2.2.2.1) (g := (mkF m 0 LL1 [])) rfl (B d32_0)
  refine gb m T2 3 LL1 [(.int (1 : Int32))] (st2) ?_
  refine gb m T2 19 LL1 [] (fun _ k => XS.ifYes X2.here hx rfl (pc0 := 3) (pc' := 19) rfl (B d32_3) rfl ((if0 _ _).trans (feq (by decide : ¬ ((1 : Int32) = (0 : Int32)))).2) (by decide) (by decide) k) ?_
  refine sI 20 X2 hx (B d32_19) rfl rfl ?_
  refine gb m T2 28 LL1 [] (fun _ k => XS.ifYes X2.here hx rfl (pc0 := 20) (pc' := 28) rfl (B d32_20) rfl ((if0 _ _).trans (teq (by decide : (0 : Int32) = (0 : Int32))).1) (by decide) (by decide) k) ?_
  refine sA 29 X2 hx (B d32_28) rfl rfl rfl ?_
  refine sI 30 X2 hx (B d32_29) rfl rfl ?_
  have hy5_0 : xn < 100000 := by omega
  have hy5_1 : xi < xn := by omega
  have hy5_2 : (ch xi) < 65536 := by omega
  obtain ⟨v5, T5, Lc5, X5, hQ5, st5⟩ := cS LL1 [] X2 hx hZ hown hw e2 hml 249 250 23 251 rfl rfl rfl rfl (by decide) (rm_gc l Z a0 hw [] tb _ xn ft xi (ch xi) zc fm hS0 h0 n0 O V_t hy5_0 hy5_1 hy5_2 (hR xi (by omega))) pd11 rfl rfl (B d32_30) rfl
  obtain ⟨rfl, Nq5, e5⟩ := hQ5
  replace N := Fr.app N Nq5
  refine gb m T5 33 LL1 [(.int (nI (ch xi)))] (st5) ?_
  let LL6 : Array Slot := #[.val (.ref tb), .val (.int (nI xi)), .val (.int (nI xn)), .val (.int (0 : Int32)), .val (.int (nI (ch xi))), .unset]
  refine gb m T5 35 LL6 [] (fun _ k => XS.istore X5.here hx rfl (B d32_33) rfl (l' := LL6) rfl k) ?_
  refine tI 37 X5 hx (B d32_35) rfl rfl ?_
  have hy7_0 : (ch xi) < 65536 := by omega
  obtain ⟨v7, T7, Lc7, X7, hQ7, st7⟩ := cS LL6 [] X5 hx hZ hown hw e5 hml 258 259 70 260 rfl rfl rfl rfl (by decide) (rm_ihs l Z a0 hw [] (ch xi) h0 n0 O hy7_0) pd15 rfl rfl (B d32_37) rfl
  obtain ⟨rfl, Nq7, e7⟩ := hQ7
  replace N := Fr.app N Nq7
  refine gb m T7 40 LL6 [(.int (b2i (hiS (ch xi))))] (st7) ?_
  by_cases hc40_8 : (hiS (ch xi)) = false
  ·
   refine gb m T7 83 LL6 [] (fun _ k => XS.ifYes X7.here hx rfl (pc0 := 40) (pc' := 83) rfl (B d32_40) rfl ((if0 _ _).trans (teq (own_b2i.mpr hc40_8)).1) (by decide) (by decide) k) ?_
   refine tI 85 X7 hx (B d32_83) rfl rfl ?_
   obtain ⟨fs, hr, hrun, hended, hW, hsame⟩ := X7.leave (v := some (.int (nI (ch xi)))) (fun h => by rw [Bd.returns] at h; cases h)
   refine ⟨_, _, retOut X7 hx Bd.returns rfl (Or.inl ⟨rfl, Or.inl rfl, _, rfl⟩) (B d32_85) hr, hrun, hended, _, _, rfl, ?_, ⟨_, rfl⟩, hW, hsame.mono (by decide) (by decide)⟩
   show Qcpa ch xn xi h0 n0 (some (.int (nI (ch xi)))) T7.heap _
   rw [e7]
   exact ⟨ch xi, rfl, N, rfl, by omega, own_cpaA (own_b2i.mp (own_b2i.mpr hc40_8)) hci⟩
  ·
   refine gb m T7 43 LL6 [] (fun _ k => XS.ifNo X7.here hx rfl (B d32_40) rfl ((if0 _ _).trans (feq (mt own_b2i.mp hc40_8)).1) k) ?_
   refine gb m T7 46 #[.val (.ref tb), .val (.int ((nI xi) + (1 : Int32))), .val (.int (nI xn)), .val (.int (0 : Int32)), .val (.int (nI (ch xi))), .unset] [] (fun _ k => XS.iinc X7.here hx rfl (B d32_43) rfl (l' := #[.val (.ref tb), .val (.int ((nI xi) + (1 : Int32))), .val (.int (nI xn)), .val (.int (0 : Int32)), .val (.int (nI (ch xi))), .unset]) rfl k) ?_
   rw [show ((nI xi) + (1 : Int32)) = (nI (xi + 1)) from own_add _ _]
   refine sI 47 X7 hx (B d32_46) rfl rfl ?_
   refine sI 48 X7 hx (B d32_47) rfl rfl ?_
   by_cases hc48_9 : (xi + 1) < xn
   ·
    refine gb m T7 51 #[.val (.ref tb), .val (.int (nI (xi + 1))), .val (.int (nI xn)), .val (.int (0 : Int32)), .val (.int (nI (ch xi))), .unset] [] (fun _ k => XS.icmpNo X7.here hx rfl (B d32_48) rfl (tlt ((own_nlt (a := (xi + 1)) (b := xn) (by omega) (by omega)).mpr hc48_9)).2.1 k) ?_
    refine sI 52 X7 hx (B d32_51) rfl rfl ?_
    refine gb m T7 60 #[.val (.ref tb), .val (.int (nI (xi + 1))), .val (.int (nI xn)), .val (.int (0 : Int32)), .val (.int (nI (ch xi))), .unset] [] (fun _ k => XS.ifYes X7.here hx rfl (pc0 := 52) (pc' := 60) rfl (B d32_52) rfl ((if0 _ _).trans (teq (by decide : (0 : Int32) = (0 : Int32))).1) (by decide) (by decide) k) ?_
    refine sA 61 X7 hx (B d32_60) rfl rfl rfl ?_
    refine sI 62 X7 hx (B d32_61) rfl rfl ?_
    have hy11_0 : xn < 100000 := by omega
    have hy11_1 : (xi + 1) < xn := by omega
    have hy11_2 : (ch (xi + 1)) < 65536 := by omega
    obtain ⟨v11, T11, Lc11, X11, hQ11, st11⟩ := cS #[.val (.ref tb), .val (.int (nI (xi + 1))), .val (.int (nI xn)), .val (.int (0 : Int32)), .val (.int (nI (ch xi))), .unset] [] X7 hx hZ hown hw e7 hml 249 250 23 251 rfl rfl rfl rfl (by decide) (rm_gc l Z a0 hw [] tb _ xn ft (xi + 1) (ch (xi + 1)) zc fm hS0 h0 n0 O V_t hy11_0 hy11_1 hy11_2 (hR (xi + 1) (by omega))) pd11 rfl rfl (B d32_62) rfl
    obtain ⟨rfl, Nq11, e11⟩ := hQ11
    replace N := Fr.app N Nq11
    refine gb m T11 65 #[.val (.ref tb), .val (.int (nI (xi + 1))), .val (.int (nI xn)), .val (.int (0 : Int32)), .val (.int (nI (ch xi))), .unset] [(.int (nI (ch (xi + 1))))] (st11) ?_
    let LL12 : Array Slot := #[.val (.ref tb), .val (.int (nI (xi + 1))), .val (.int (nI xn)), .val (.int (0 : Int32)), .val (.int (nI (ch xi))), .val (.int (nI (ch (xi + 1))))]
    refine gb m T11 67 LL12 [] (fun _ k => XS.istore X11.here hx rfl (B d32_65) rfl (l' := LL12) rfl k) ?_
    refine tI 69 X11 hx (B d32_67) rfl rfl ?_
    have hy13_0 : (ch (xi + 1)) < 65536 := by omega
    obtain ⟨v13, T13, Lc13, X13, hQ13, st13⟩ := cS LL12 [] X11 hx hZ hown hw e11 hml 268 269 70 270 rfl rfl rfl rfl (by decide) (rm_ils l Z a0 hw [] (ch (xi + 1)) h0 n0 O hy13_0) pd15 rfl rfl (B d32_69) rfl
    obtain ⟨rfl, Nq13, e13⟩ := hQ13
    replace N := Fr.app N Nq13
    refine gb m T13 72 LL12 [(.int (b2i (loS (ch (xi + 1)))))] (st13) ?_
    by_cases hc72_14 : (loS (ch (xi + 1))) = false
    ·
     refine gb m T13 83 LL12 [] (fun _ k => XS.ifYes X13.here hx rfl (pc0 := 72) (pc' := 83) rfl (B d32_72) rfl ((if0 _ _).trans (teq (own_b2i.mpr hc72_14)).1) (by decide) (by decide) k) ?_
     refine tI 85 X13 hx (B d32_83) rfl rfl ?_
     obtain ⟨fs, hr, hrun, hended, hW, hsame⟩ := X13.leave (v := some (.int (nI (ch xi)))) (fun h => by rw [Bd.returns] at h; cases h)
     refine ⟨_, _, retOut X13 hx Bd.returns rfl (Or.inl ⟨rfl, Or.inl rfl, _, rfl⟩) (B d32_85) hr, hrun, hended, _, _, rfl, ?_, ⟨_, rfl⟩, hW, hsame.mono (by decide) (by decide)⟩
     show Qcpa ch xn xi h0 n0 (some (.int (nI (ch xi)))) T13.heap _
     rw [e13]
     exact ⟨ch xi, rfl, N, rfl, by omega, own_cpaC (own_b2i.mp (own_b2i.mpr hc72_14)) hci⟩
    ·
     refine gb m T13 75 LL12 [] (fun _ k => XS.ifNo X13.here hx rfl (B d32_72) rfl ((if0 _ _).trans (feq (mt own_b2i.mp hc72_14)).1) k) ?_
     have hh1 := hc40_8
     have hh2 := hc72_14
     have hh3 := own_hi hh1
     have hh4 := own_loq hh2
     refine tI 77 X13 hx (B d32_75) rfl rfl ?_
     refine tI 79 X13 hx (B d32_77) rfl rfl ?_
     have hy15_0 : 55296 ≤ (ch xi) := by omega
     have hy15_1 : (ch xi) < 56320 := by omega
     have hy15_2 : 56320 ≤ (ch (xi + 1)) := by omega
     have hy15_3 : (ch (xi + 1)) < 57344 := by omega
     obtain ⟨v15, T15, Lc15, X15, hQ15, st15⟩ := cS LL12 [] X13 hx hZ hown hw e13 hml 325 326 70 327 rfl rfl rfl rfl (by decide) (rm_tcp l Z a0 hw [] (ch xi) (ch (xi + 1)) h0 n0 O hy15_0 hy15_1 hy15_2 hy15_3) pd16 rfl rfl (B d32_79) rfl
     obtain ⟨rfl, Nq15, e15⟩ := hQ15
     replace N := Fr.app N Nq15
     refine gb m T15 82 LL12 [(.int (nI ((ch xi) * 1024 + (ch (xi + 1)) - 56613888)))] (st15) ?_
     obtain ⟨fs, hr, hrun, hended, hW, hsame⟩ := X15.leave (v := some (.int (nI ((ch xi) * 1024 + (ch (xi + 1)) - 56613888)))) (fun h => by rw [Bd.returns] at h; cases h)
     refine ⟨_, _, retOut X15 hx Bd.returns rfl (Or.inl ⟨rfl, Or.inl rfl, _, rfl⟩) (B d32_82) hr, hrun, hended, _, _, rfl, ?_, ⟨_, rfl⟩, hW, hsame.mono (by decide) (by decide)⟩
     show Qcpa ch xn xi h0 n0 (some (.int (nI ((ch xi) * 1024 + (ch (xi + 1)) - 56613888)))) T15.heap _
     rw [e15]
     exact ⟨ch xi * 1024 + ch (xi + 1) - 56613888, rfl, N, rfl, by omega, own_cpaD (by omega) hh1 hh2 (by omega)⟩
   ·
    refine gb m T7 83 #[.val (.ref tb), .val (.int (nI (xi + 1))), .val (.int (nI xn)), .val (.int (0 : Int32)), .val (.int (nI (ch xi))), .unset] [] (fun _ k => XS.icmpYes X7.here hx rfl (pc0 := 48) (pc' := 83) rfl (B d32_48) rfl (flt (mt (own_nlt (a := (xi + 1)) (b := xn) (by omega) (by omega)).mp hc48_9)).2.1 (by decide) (by decide) k) ?_
    refine tI 85 X7 hx (B d32_83) rfl rfl ?_
    obtain ⟨fs, hr, hrun, hended, hW, hsame⟩ := X7.leave (v := some (.int (nI (ch xi)))) (fun h => by rw [Bd.returns] at h; cases h)
    refine ⟨_, _, retOut X7 hx Bd.returns rfl (Or.inl ⟨rfl, Or.inl rfl, _, rfl⟩) (B d32_85) hr, hrun, hended, _, _, rfl, ?_, ⟨_, rfl⟩, hW, hsame.mono (by decide) (by decide)⟩
    show Qcpa ch xn xi h0 n0 (some (.int (nI (ch xi)))) T7.heap _
    rw [e7]
    exact ⟨ch xi, rfl, N, rfl, by omega, own_cpaB (by omega) hci⟩

theorem d33_0 : decode c33 0 = .ok (.aload_n 0, 1) := by decide +kernel
theorem d33_1 : decode c33 1 = .ok (.iload_n 1, 1) := by decide +kernel
theorem d33_2 : decode c33 2 = .ok (.iload_n 2, 1) := by decide +kernel
theorem d33_3 : decode c33 3 = .ok (.iconst 0, 1) := by decide +kernel
theorem d33_4 : decode c33 4 = .ok (.invokestatic 88, 3) := by decide +kernel
theorem d33_7 : decode c33 7 = .ok (.ireturn, 1) := by decide +kernel
theorem pn_uc : plainFor (⟨"java/lang/StringUTF16", "codePointAt", "([BII)I"⟩ : MethodName) = true := plainFor_of_name (by first | (simp [plainName, overriddenIn]; done) | decide +kernel)
theorem pd17 : parseMethodDescriptor "([BIIZ)I" = some ⟨[(.array .byte), .int, .int, .boolean], some .int⟩ := by decide +kernel
theorem ef_uc (m : MethodId) (x0 : Addr) (x1 : Int32) (x2 : Int32) : entryFrame m #[(.ref x0), (.int x1), (.int x2)] 3 = mkF m 0 #[.val (.ref x0), .val (.int x1), .val (.int x2)] [] := by first | (simp [entryFrame, mkF, argsToLocals, Value.category]; done) | rfl
theorem rm_uc (l : Launch) (Z : State) (a0 : Array Value) (hw : ∀ d ∈ tables_1, d.before a0 Z = true) (ws : List Jvm.Cond) (tb : Addr) (kt : ClassId) (xn : Nat) (ft : Nat → Int32) (ch : Nat → Nat) (xi : Nat) (zc : Int32) (fm : Value) (hS0 : Sf Z zc fm) (h0 : Heap) (n0 : Nat) (O : Old Z n0 h0) (V_t : Arv Z h0 tb kt .byte (nI (2 * xn)) (cont (2 * xn) ft) (.int 0)) (hch : ∀ i, ch i < 65536) (hR : Utf xn ft ch) (hy0 : xi < xn) (hy1 : xn ≤ 300) :
    MF l Z h0 (⟨"java/lang/StringUTF16", "codePointAt", "([BII)I"⟩ : MethodName) c33 3 (some .int) ws (rk 2 0 0 30) #[(.ref tb), (.int (nI xi)), (.int (nI xn))] (Qcpa ch xn xi h0 n0) := by
  refine sg n0 [] pn_uc rfl (fun m => ef_uc m tb (nI xi) (nI xn)) fun p e s m below meth c s₁ Bd hml hZ hh hx B hown hnm X0 e0 N K => ?_
  have hci := hch xi
  have hcj := hch (xi + 1)
  let LL1 : Array Slot := #[.val (.ref tb), .val (.int (nI xi)), .val (.int (nI xn))]
  refine sA 1 X0 hx (B d33_0) rfl rfl rfl ?_
  refine sI 2 X0 hx (B d33_1) rfl rfl ?_
  refine sI 3 X0 hx (B d33_2) rfl rfl ?_
  refine sC 4 (0 : Int32) X0 hx (B d33_3) rfl rfl ?_
  have hy2_0 : xi < xn := by omega
  have hy2_1 : xn ≤ 300 := by omega
  obtain ⟨v2, T2, Lc2, X2, hQ2, st2⟩ := cS LL1 [] X0 hx hZ hown hw e0 hml 255 256 23 257 rfl rfl rfl rfl (by decide) (rm_ucz l Z a0 hw [] tb _ xn ft ch xi zc fm hS0 h0 n0 O V_t hch hR hy2_0 hy2_1) pd17 rfl rfl (B d33_4) rfl
  obtain ⟨rc2, rfl, Nq2, e2, hrc2, hpr2⟩ := hQ2
  replace N := Fr.app N Nq2
  refine gb m T2 7 LL1 [(.int (nI rc2))] (st2) ?_
  obtain ⟨fs, hr, hrun, hended, hW, hsame⟩ := X2.leave (v := some (.int (nI rc2))) (fun h => by rw [Bd.returns] at h; cases h)
  refine ⟨_, _, retOut X2 hx Bd.returns rfl (Or.inl ⟨rfl, Or.inl rfl, _, rfl⟩) (B d33_7) hr, hrun, hended, _, _, rfl, ?_, ⟨_, rfl⟩, hW, hsame.mono (by decide) (by decide)⟩
  show Qcpa ch xn xi h0 n0 (some (.int (nI rc2))) T2.heap _
  rw [e2]
  exact ⟨_, rfl, N, rfl, hrc2, hpr2⟩

theorem d34_0 : decode c34 0 = .ok (.aload_n 0, 1) := by decide +kernel
theorem d34_1 : decode c34 1 = .ok (.invokevirtual 492, 3) := by decide +kernel
theorem d34_4 : decode c34 4 = .ok (.ifCond .eq 23, 3) := by decide +kernel
theorem d34_7 : decode c34 7 = .ok (.iload_n 1, 1) := by decide +kernel
theorem d34_8 : decode c34 8 = .ok (.aload_n 0, 1) := by decide +kernel
theorem d34_9 : decode c34 9 = .ok (.getfield 9, 3) := by decide +kernel
theorem d34_12 : decode c34 12 = .ok (.arraylength, 1) := by decide +kernel
theorem d34_13 : decode c34 13 = .ok (.invokestatic 499, 3) := by decide +kernel
theorem d34_16 : decode c34 16 = .ok (.aload_n 0, 1) := by decide +kernel
theorem d34_17 : decode c34 17 = .ok (.getfield 9, 3) := by decide +kernel
theorem d34_20 : decode c34 20 = .ok (.iload_n 1, 1) := by decide +kernel
theorem d34_21 : decode c34 21 = .ok (.baload, 1) := by decide +kernel
theorem d34_22 : decode c34 22 = .ok (.sipush 255, 3) := by decide +kernel
theorem d34_25 : decode c34 25 = .ok (.iand, 1) := by decide +kernel
theorem d34_26 : decode c34 26 = .ok (.ireturn, 1) := by decide +kernel
theorem pn_cpa0 : plainFor (⟨"java/lang/String", "codePointAt", "(I)I"⟩ : MethodName) = true := plainFor_of_name (by first | (simp [plainName, overriddenIn]; done) | decide +kernel)
theorem pd18 : parseMethodDescriptor "()Z" = some ⟨[], some .boolean⟩ := by decide +kernel
theorem ef_cpa0 (m : MethodId) (x0 : Addr) (x1 : Int32) : entryFrame m #[(.ref x0), (.int x1)] 3 = mkF m 0 #[.val (.ref x0), .val (.int x1), .unset] [] := by first | (simp [entryFrame, mkF, argsToLocals, Value.category]; done) | rfl
theorem rm_cpa0 (l : Launch) (Z : State) (a0 : Array Value) (hw : ∀ d ∈ tables_1, d.before a0 Z = true) (ws : List Jvm.Cond) (x tx : Addr) (kx : ClassId) (xn : Nat) (fx : Nat → Int32) (ch : Nat → Nat) (xi : Nat) (zc : Int32) (fm : Value) (hS0 : Sf Z zc fm) (h0 : Heap) (n0 : Nat) (O : Old Z n0 h0) (E_x : Exa Z h0 x "java/lang/String") (Fv_x : Fld Z h0 x "java/lang/String" "value" "[B" (.ref tx)) (Fc_x : Fld Z h0 x "java/lang/String" "coder" "B" (.int 0)) (V_tx : Arv Z h0 tx kx .byte (nI xn) (cont xn fx) (.int 0)) (hxn : xn ≤ 300) (hch : ∀ i, ch i < 65536) (hR : Lat xn fx ch) (hy0 : xi < xn) :
    MF l Z h0 (⟨"java/lang/String", "codePointAt", "(I)I"⟩ : MethodName) c34 3 (some .int) ws (rk 3 0 0 44) #[(.ref x), (.int (nI xi))] (Qcpa ch xn xi h0 n0) := by
  refine sg n0 [] pn_cpa0 rfl (fun m => ef_cpa0 m x (nI xi)) fun p e s m below meth c s₁ Bd hml hZ hh hx B hown hnm X0 e0 N K => ?_
  let LL1 : Array Slot := #[.val (.ref x), .val (.int (nI xi)), .unset]
  refine sA 1 X0 hx (B d34_0) rfl rfl rfl ?_
  have hs2_x : xn ≤ 300 := by omega
  obtain ⟨v2, T2, Lc2, X2, hQ2, st2⟩ := cV LL1 [] X0 hx hZ hown hw e0 hml E_x 55 56 58 57 9 59 rfl rfl rfl rfl rfl rfl (by decide) (rm_isl0 l Z a0 hw [] x tx _ xn fx   zc fm hS0 h0 n0 O E_x Fv_x Fc_x V_tx hs2_x  ) pd18 rfl rfl (B d34_1) rfl
  obtain ⟨rfl, Nq2, e2⟩ := hQ2
  replace N := Fr.app N Nq2
  refine gb m T2 4 LL1 [(.int (1 : Int32))] (st2) ?_
  refine gb m T2 7 LL1 [] (fun _ k => XS.ifNo X2.here hx rfl (B d34_4) rfl ((if0 _ _).trans (feq (by decide : ¬ ((1 : Int32) = (0 : Int32)))).1) k) ?_
  refine sI 8 X2 hx (B d34_7) rfl rfl ?_
  refine sA 9 X2 hx (B d34_8) rfl rfl rfl ?_
  obtain ⟨T4, X4, e4, st4⟩ := getF X2 hx hZ hown (host := "") (Or.inl (wv hw 34 rfl)) Via.refl e2 Fv_x (g := (mkF m 9 LL1 [(.ref x), (.int (nI xi))])) rfl rfl (B d34_9)
  refine gb m T4 12 LL1 [(.ref tx), (.int (nI xi))] (st4) ?_
  obtain ⟨cl5, Ar5, q5, S5, N5', H5, G5⟩ := id V_tx
  refine gb m T4 13 LL1 [(.int (nI xn)), (.int (nI xi))] (fun t k => X4.arraylength hx (by rw [e4]; exact Ar5.1) (State.isArrayOf_alike hZ.alike Ar5.2.1) (g := (mkF m 12 LL1 [(.ref tx), (.int (nI xi))])) rfl rfl (B d34_12) t (by rw [len_of S5 N5']; exact k)) ?_
  have hy6_0 : xi < xn := by omega
  have hy6_1 : xn < 1073741824 := by omega
  obtain ⟨v6, T6, Lc6, X6, hQ6, st6⟩ := cS LL1 [] X4 hx hZ hown hw e4 hml 60 61 9 62 rfl rfl rfl rfl (by decide) (rm_sci l Z a0 hw [] xi xn zc fm hS0  h0 n0 O hy6_0 hy6_1) pd5 rfl rfl (B d34_13) rfl
  obtain ⟨rfl, Nq6, e6⟩ := hQ6
  replace N := Fr.app N Nq6
  refine gb m T6 16 LL1 [] (st6) ?_
  refine sA 17 X6 hx (B d34_16) rfl rfl rfl ?_
  obtain ⟨T7, X7, e7, st7⟩ := getF X6 hx hZ hown (host := "") (Or.inl (wv hw 34 rfl)) Via.refl e6 Fv_x (g := (mkF m 17 LL1 [(.ref x)])) rfl rfl (B d34_17)
  refine gb m T7 20 LL1 [(.ref tx)] (st7) ?_
  refine sI 21 X7 hx (B d34_20) rfl rfl ?_
  obtain ⟨cl8, Ar8, q8, S8, N8', H8, G8⟩ := id V_tx
  refine gb m T7 22 LL1 [(.int (fx xi))] (X7.baloadBytes hx (j := (nI xi)) (v := (.int (fx xi))) (by rw [e7]; exact Ar8.1) (State.isArrayOf_alike hZ.alike Ar8.2.1) Ar8.2.2 (inb_of S8 ⟨own_neg (a := xi) (by omega), (own_nlt (a := xi) (b := xn) (by omega) (by omega)).mpr (by omega)⟩) (Has.at H8 (inb_of S8 ⟨own_neg (a := xi) (by omega), (own_nlt (a := xi) (b := xn) (by omega) (by omega)).mpr (by omega)⟩) (own_at (n := xn) (i := xi) (f := fx) (by omega) (by omega))) (g := (mkF m 21 LL1 [(.int (nI xi)), (.ref tx)])) rfl rfl (B d34_21)) ?_
  refine sS 25 (255 : Int32) X7 hx (B d34_22) rfl rfl ?_
  refine gb m T7 26 LL1 [(.int ((fx xi) &&& (255 : Int32)))] (fun _ k => XS.iand X7.here hx rfl (B d34_25) rfl k) ?_
  rw [show ((fx xi) &&& (255 : Int32)) = (nI (ch xi)) from (hR xi (by omega)).2]
  obtain ⟨fs, hr, hrun, hended, hW, hsame⟩ := X7.leave (v := some (.int (nI (ch xi)))) (fun h => by rw [Bd.returns] at h; cases h)
  refine ⟨_, _, retOut X7 hx Bd.returns rfl (Or.inl ⟨rfl, Or.inl rfl, _, rfl⟩) (B d34_26) hr, hrun, hended, _, _, rfl, ?_, ⟨_, rfl⟩, hW, hsame.mono (by decide) (by decide)⟩
  show Qcpa ch xn xi h0 n0 (some (.int (nI (ch xi)))) T7.heap _
  rw [e7]
  have h9 := hR xi (by omega)
  exact ⟨_, rfl, N, rfl, by omega, own_cpa0 h9.1⟩

theorem d34_27 : decode c34 27 = .ok (.aload_n 0, 1) := by decide +kernel
theorem d34_28 : decode c34 28 = .ok (.getfield 9, 3) := by decide +kernel
theorem d34_31 : decode c34 31 = .ok (.arraylength, 1) := by decide +kernel
theorem d34_32 : decode c34 32 = .ok (.iconst 1, 1) := by decide +kernel
theorem d34_33 : decode c34 33 = .ok (.ishr, 1) := by decide +kernel
theorem d34_34 : decode c34 34 = .ok (.istore_n 2, 1) := by decide +kernel
theorem d34_35 : decode c34 35 = .ok (.iload_n 1, 1) := by decide +kernel
theorem d34_36 : decode c34 36 = .ok (.iload_n 2, 1) := by decide +kernel
theorem d34_37 : decode c34 37 = .ok (.invokestatic 499, 3) := by decide +kernel
theorem d34_40 : decode c34 40 = .ok (.aload_n 0, 1) := by decide +kernel
theorem d34_41 : decode c34 41 = .ok (.getfield 9, 3) := by decide +kernel
theorem d34_44 : decode c34 44 = .ok (.iload_n 1, 1) := by decide +kernel
theorem d34_45 : decode c34 45 = .ok (.iload_n 2, 1) := by decide +kernel
theorem d34_46 : decode c34 46 = .ok (.invokestatic 502, 3) := by decide +kernel
theorem d34_49 : decode c34 49 = .ok (.ireturn, 1) := by decide +kernel
theorem pn_cpa1 : plainFor (⟨"java/lang/String", "codePointAt", "(I)I"⟩ : MethodName) = true := plainFor_of_name (by first | (simp [plainName, overriddenIn]; done) | decide +kernel)
theorem pd19 : parseMethodDescriptor "([BII)I" = some ⟨[(.array .byte), .int, .int], some .int⟩ := by decide +kernel
theorem ef_cpa1 (m : MethodId) (x0 : Addr) (x1 : Int32) : entryFrame m #[(.ref x0), (.int x1)] 3 = mkF m 0 #[.val (.ref x0), .val (.int x1), .unset] [] := by first | (simp [entryFrame, mkF, argsToLocals, Value.category]; done) | rfl
theorem rm_cpa1 (l : Launch) (Z : State) (a0 : Array Value) (hw : ∀ d ∈ tables_1, d.before a0 Z = true) (ws : List Jvm.Cond) (x tx : Addr) (kx : ClassId) (xn : Nat) (fx : Nat → Int32) (ch : Nat → Nat) (xi : Nat) (zc : Int32) (fm : Value) (hS0 : Sf Z zc fm) (h0 : Heap) (n0 : Nat) (O : Old Z n0 h0) (E_x : Exa Z h0 x "java/lang/String") (Fv_x : Fld Z h0 x "java/lang/String" "value" "[B" (.ref tx)) (Fc_x : Fld Z h0 x "java/lang/String" "coder" "B" (.int 1)) (V_tx : Arv Z h0 tx kx .byte (nI (2 * xn)) (cont (2 * xn) fx) (.int 0)) (hxn : xn ≤ 300) (hch : ∀ i, ch i < 65536) (hR : Utf xn fx ch) (hy0 : xi < xn) :
    MF l Z h0 (⟨"java/lang/String", "codePointAt", "(I)I"⟩ : MethodName) c34 3 (some .int) ws (rk 3 0 0 44) #[(.ref x), (.int (nI xi))] (Qcpa ch xn xi h0 n0) := by
  refine sg n0 [] pn_cpa1 rfl (fun m => ef_cpa1 m x (nI xi)) fun p e s m below meth c s₁ Bd hml hZ hh hx B hown hnm X0 e0 N K => ?_
  let LL1 : Array Slot := #[.val (.ref x), .val (.int (nI xi)), .unset]
  refine sA 1 X0 hx (B d34_0) rfl rfl rfl ?_
  have hs2_x : xn ≤ 300 := by omega
  obtain ⟨v2, T2, Lc2, X2, hQ2, st2⟩ := cV LL1 [] X0 hx hZ hown hw e0 hml E_x 55 56 58 57 9 59 rfl rfl rfl rfl rfl rfl (by decide) (rm_isl1 l Z a0 hw [] x tx _ xn fx   zc fm hS0 h0 n0 O E_x Fv_x Fc_x V_tx hs2_x  ) pd18 rfl rfl (B d34_1) rfl
  obtain ⟨rfl, Nq2, e2⟩ := hQ2
  replace N := Fr.app N Nq2
  refine gb m T2 4 LL1 [(.int (0 : Int32))] (st2) ?_
  refine gb m T2 27 LL1 [] (fun _ k => XS.ifYes X2.here hx rfl (pc0 := 4) (pc' := 27) rfl (B d34_4) rfl ((if0 _ _).trans (teq (by decide : (0 : Int32) = (0 : Int32))).1) (by decide) (by decide) k) ?_
  refine sA 28 X2 hx (B d34_27) rfl rfl rfl ?_
  obtain ⟨T4, X4, e4, st4⟩ := getF X2 hx hZ hown (host := "") (Or.inl (wv hw 34 rfl)) Via.refl e2 Fv_x (g := (mkF m 28 LL1 [(.ref x)])) rfl rfl (B d34_28)
  refine gb m T4 31 LL1 [(.ref tx)] (st4) ?_
  obtain ⟨cl5, Ar5, q5, S5, N5', H5, G5⟩ := id V_tx
  refine gb m T4 32 LL1 [(.int (nI (2 * xn)))] (fun t k => X4.arraylength hx (by rw [e4]; exact Ar5.1) (State.isArrayOf_alike hZ.alike Ar5.2.1) (g := (mkF m 31 LL1 [(.ref tx)])) rfl rfl (B d34_31) t (by rw [len_of S5 N5']; exact k)) ?_
  refine sC 33 (1 : Int32) X4 hx (B d34_32) rfl rfl ?_
  refine gb m T4 34 LL1 [(.int ((nI (2 * xn)) >>> ((1 : Int32) &&& 31)))] (fun _ k => XS.ishr X4.here hx rfl (B d34_33) rfl k) ?_
  rw [show ((nI (2 * xn)) >>> ((1 : Int32) &&& 31)) = (nI xn) from own_shr1 (a := xn) (by omega)]
  let LL6 : Array Slot := #[.val (.ref x), .val (.int (nI xi)), .val (.int (nI xn))]
  refine gb m T4 35 LL6 [] (fun _ k => XS.istoreN X4.here hx rfl (B d34_34) rfl (l' := LL6) rfl k) ?_
  refine sI 36 X4 hx (B d34_35) rfl rfl ?_
  refine sI 37 X4 hx (B d34_36) rfl rfl ?_
  have hy7_0 : xi < xn := by omega
  have hy7_1 : xn < 1073741824 := by omega
  obtain ⟨v7, T7, Lc7, X7, hQ7, st7⟩ := cS LL6 [] X4 hx hZ hown hw e4 hml 60 61 9 62 rfl rfl rfl rfl (by decide) (rm_sci l Z a0 hw [] xi xn zc fm hS0  h0 n0 O hy7_0 hy7_1) pd5 rfl rfl (B d34_37) rfl
  obtain ⟨rfl, Nq7, e7⟩ := hQ7
  replace N := Fr.app N Nq7
  refine gb m T7 40 LL6 [] (st7) ?_
  refine sA 41 X7 hx (B d34_40) rfl rfl rfl ?_
  obtain ⟨T8, X8, e8, st8⟩ := getF X7 hx hZ hown (host := "") (Or.inl (wv hw 34 rfl)) Via.refl e7 Fv_x (g := (mkF m 41 LL6 [(.ref x)])) rfl rfl (B d34_41)
  refine gb m T8 44 LL6 [(.ref tx)] (st8) ?_
  refine sI 45 X8 hx (B d34_44) rfl rfl ?_
  refine sI 46 X8 hx (B d34_45) rfl rfl ?_
  have hy9_0 : xi < xn := by omega
  have hy9_1 : xn ≤ 300 := by omega
  obtain ⟨v9, T9, Lc9, X9, hQ9, st9⟩ := cS LL6 [] X8 hx hZ hown hw e8 hml 252 253 23 254 rfl rfl rfl rfl (by decide) (rm_uc l Z a0 hw [] tx _ xn fx ch xi zc fm hS0 h0 n0 O V_tx hch hR hy9_0 hy9_1) pd19 rfl rfl (B d34_46) rfl
  obtain ⟨rc9, rfl, Nq9, e9, hrc9, hpr9⟩ := hQ9
  replace N := Fr.app N Nq9
  refine gb m T9 49 LL6 [(.int (nI rc9))] (st9) ?_
  obtain ⟨fs, hr, hrun, hended, hW, hsame⟩ := X9.leave (v := some (.int (nI rc9))) (fun h => by rw [Bd.returns] at h; cases h)
  refine ⟨_, _, retOut X9 hx Bd.returns rfl (Or.inl ⟨rfl, Or.inl rfl, _, rfl⟩) (B d34_49) hr, hrun, hended, _, _, rfl, ?_, ⟨_, rfl⟩, hW, hsame.mono (by decide) (by decide)⟩
  show Qcpa ch xn xi h0 n0 (some (.int (nI rc9))) T9.heap _
  rw [e9]
  exact ⟨_, rfl, N, rfl, hrc9, hpr9⟩

theorem d35_0 : decode c35 0 = .ok (.iload_n 1, 1) := by decide +kernel
theorem d35_1 : decode c35 1 = .ok (.aload_n 0, 1) := by decide +kernel
theorem d35_2 : decode c35 2 = .ok (.arraylength, 1) := by decide +kernel
theorem d35_3 : decode c35 3 = .ok (.invokestatic 9, 3) := by decide +kernel
theorem d35_6 : decode c35 6 = .ok (.aload_n 0, 1) := by decide +kernel
theorem d35_7 : decode c35 7 = .ok (.iload_n 1, 1) := by decide +kernel
theorem d35_8 : decode c35 8 = .ok (.baload, 1) := by decide +kernel
theorem d35_9 : decode c35 9 = .ok (.sipush 255, 3) := by decide +kernel
theorem d35_12 : decode c35 12 = .ok (.iand, 1) := by decide +kernel
theorem d35_13 : decode c35 13 = .ok (.i2c, 1) := by decide +kernel
theorem d35_14 : decode c35 14 = .ok (.ireturn, 1) := by decide +kernel
theorem pn_lca : plainFor (⟨"java/lang/StringLatin1", "charAt", "([BI)C"⟩ : MethodName) = true := plainFor_of_name (by first | (simp [plainName, overriddenIn]; done) | decide +kernel)
theorem ef_lca (m : MethodId) (x0 : Addr) (x1 : Int32) : entryFrame m #[(.ref x0), (.int x1)] 2 = mkF m 0 #[.val (.ref x0), .val (.int x1)] [] := by first | (simp [entryFrame, mkF, argsToLocals, Value.category]; done) | rfl
theorem rm_lca (l : Launch) (Z : State) (a0 : Array Value) (hw : ∀ d ∈ tables_1, d.before a0 Z = true) (ws : List Jvm.Cond) (tb : Addr) (kt : ClassId) (xn : Nat) (ft : Nat → Int32) (ch : Nat → Nat) (xi : Nat) (zc : Int32) (fm : Value) (hS0 : Sf Z zc fm) (h0 : Heap) (n0 : Nat) (O : Old Z n0 h0) (V_t : Arv Z h0 tb kt .byte (nI xn) (cont xn ft) (.int 0)) (hch : ∀ i, ch i < 65536) (hR : Lat xn ft ch) (hy0 : xi < xn) (hy1 : xn ≤ 300) :
    MF l Z h0 (⟨"java/lang/StringLatin1", "charAt", "([BI)C"⟩ : MethodName) c35 2 (some .char) ws (rk 2 0 0 27) #[(.ref tb), (.int (nI xi))] (Qpure (some (.int (nI (ch xi)))) h0 n0) := by
  refine sg n0 [] pn_lca rfl (fun m => ef_lca m tb (nI xi)) fun p e s m below meth c s₁ Bd hml hZ hh hx B hown hnm X0 e0 N K => ?_
  have hci := hch xi
  let LL1 : Array Slot := #[.val (.ref tb), .val (.int (nI xi))]
  refine sI 1 X0 hx (B d35_0) rfl rfl ?_
  refine sA 2 X0 hx (B d35_1) rfl rfl rfl ?_
  obtain ⟨cl2, Ar2, q2, S2, N2', H2, G2⟩ := id V_t
  refine gb m s₁ 3 LL1 [(.int (nI xn)), (.int (nI xi))] (fun t k => X0.arraylength hx (by rw [e0]; exact Ar2.1) (State.isArrayOf_alike hZ.alike Ar2.2.1) (g := (mkF m 2 LL1 [(.ref tb), (.int (nI xi))])) rfl rfl (B d35_2) t (by rw [len_of S2 N2']; exact k)) ?_
  have hy3_0 : xi < xn := by omega
  have hy3_1 : xn < 1073741824 := by omega
  obtain ⟨v3, T3, Lc3, X3, hQ3, st3⟩ := cS LL1 [] X0 hx hZ hown hw e0 hml 231 61 9 62 rfl rfl rfl rfl (by decide) (rm_sci l Z a0 hw [] xi xn zc fm hS0  h0 n0 O hy3_0 hy3_1) pd5 rfl rfl (B d35_3) rfl
  obtain ⟨rfl, Nq3, e3⟩ := hQ3
  replace N := Fr.app N Nq3
  refine gb m T3 6 LL1 [] (st3) ?_
  refine sA 7 X3 hx (B d35_6) rfl rfl rfl ?_
  refine sI 8 X3 hx (B d35_7) rfl rfl ?_
  obtain ⟨cl4, Ar4, q4, S4, N4', H4, G4⟩ := id V_t
  refine gb m T3 9 LL1 [(.int (ft xi))] (X3.baloadBytes hx (j := (nI xi)) (v := (.int (ft xi))) (by rw [e3]; exact Ar4.1) (State.isArrayOf_alike hZ.alike Ar4.2.1) Ar4.2.2 (inb_of S4 ⟨own_neg (a := xi) (by omega), (own_nlt (a := xi) (b := xn) (by omega) (by omega)).mpr (by omega)⟩) (Has.at H4 (inb_of S4 ⟨own_neg (a := xi) (by omega), (own_nlt (a := xi) (b := xn) (by omega) (by omega)).mpr (by omega)⟩) (own_at (n := xn) (i := xi) (f := ft) (by omega) (by omega))) (g := (mkF m 8 LL1 [(.int (nI xi)), (.ref tb)])) rfl rfl (B d35_8)) ?_
  refine sS 12 (255 : Int32) X3 hx (B d35_9) rfl rfl ?_
  refine gb m T3 13 LL1 [(.int ((ft xi) &&& (255 : Int32)))] (fun _ k => XS.iand X3.here hx rfl (B d35_12) rfl k) ?_
  rw [show ((ft xi) &&& (255 : Int32)) = (nI (ch xi)) from (hR xi (by omega)).2]
  refine gb m T3 14 LL1 [(.int ((nI (ch xi)).toUInt32.toUInt16.toUInt32.toInt32))] (fun _ k => XS.i2c X3.here hx rfl (B d35_13) rfl k) ?_
  obtain ⟨fs, hr, hrun, hended, hW, hsame⟩ := X3.leave (v := some (.int (nar .char ((nI (ch xi)).toUInt32.toUInt16.toUInt32.toInt32)))) (fun h => by rw [Bd.returns] at h; cases h)
  refine ⟨_, _, retN X3 hx (t := .char) Bd.returns (by simp) (B d35_14) hr, hrun, hended, _, _, rfl, ?_, ⟨_, rfl⟩, hW, hsame.mono (by decide) (by decide)⟩
  show Qpure (some (.int (nI (ch xi)))) h0 n0 (some (.int (nar .char ((nI (ch xi)).toUInt32.toUInt16.toUInt32.toInt32)))) T3.heap _
  rw [e3]
  exact ⟨congrArg (fun z => some (Value.int z)) (own_i2c2 hci), N, rfl⟩

theorem d36_0 : decode c36 0 = .ok (.iload_n 1, 1) := by decide +kernel
theorem d36_1 : decode c36 1 = .ok (.aload_n 0, 1) := by decide +kernel
theorem d36_2 : decode c36 2 = .ok (.invokestatic 67, 3) := by decide +kernel
theorem d36_5 : decode c36 5 = .ok (.aload_n 0, 1) := by decide +kernel
theorem d36_6 : decode c36 6 = .ok (.iload_n 1, 1) := by decide +kernel
theorem d36_7 : decode c36 7 = .ok (.invokestatic 71, 3) := by decide +kernel
theorem d36_10 : decode c36 10 = .ok (.ireturn, 1) := by decide +kernel
theorem pn_uca : plainFor (⟨"java/lang/StringUTF16", "charAt", "([BI)C"⟩ : MethodName) = true := plainFor_of_name (by first | (simp [plainName, overriddenIn]; done) | decide +kernel)
theorem pd20 : parseMethodDescriptor "(I[B)V" = some ⟨[.int, (.array .byte)], none⟩ := by decide +kernel
theorem ef_uca (m : MethodId) (x0 : Addr) (x1 : Int32) : entryFrame m #[(.ref x0), (.int x1)] 2 = mkF m 0 #[.val (.ref x0), .val (.int x1)] [] := by first | (simp [entryFrame, mkF, argsToLocals, Value.category]; done) | rfl
theorem rm_uca (l : Launch) (Z : State) (a0 : Array Value) (hw : ∀ d ∈ tables_1, d.before a0 Z = true) (ws : List Jvm.Cond) (tb : Addr) (kt : ClassId) (xn : Nat) (ft : Nat → Int32) (ch : Nat → Nat) (xi : Nat) (zc : Int32) (fm : Value) (hS0 : Sf Z zc fm) (h0 : Heap) (n0 : Nat) (O : Old Z n0 h0) (V_t : Arv Z h0 tb kt .byte (nI (2 * xn)) (cont (2 * xn) ft) (.int 0)) (hch : ∀ i, ch i < 65536) (hR : Utf xn ft ch) (hy0 : xi < xn) (hy1 : xn ≤ 300) :
    MF l Z h0 (⟨"java/lang/StringUTF16", "charAt", "([BI)C"⟩ : MethodName) c36 2 (some .char) ws (rk 3 0 0 40) #[(.ref tb), (.int (nI xi))] (Qpure (some (.int (nI (ch xi)))) h0 n0) := by
  refine sg n0 [] pn_uca rfl (fun m => ef_uca m tb (nI xi)) fun p e s m below meth c s₁ Bd hml hZ hh hx B hown hnm X0 e0 N K => ?_
  have hci := hch xi
  let LL1 : Array Slot := #[.val (.ref tb), .val (.int (nI xi))]
  refine sI 1 X0 hx (B d36_0) rfl rfl ?_
  refine sA 2 X0 hx (B d36_1) rfl rfl rfl ?_
  have hy2_0 : xn < 100000 := by omega
  have hy2_1 : xi < xn := by omega
  obtain ⟨v2, T2, Lc2, X2, hQ2, st2⟩ := cS LL1 [] X0 hx hZ hown hw e0 hml 320 321 23 322 rfl rfl rfl rfl (by decide) (rm_uci l Z a0 hw [] tb _ xn ft xi zc fm hS0 h0 n0 O V_t hy2_0 hy2_1) pd20 rfl rfl (B d36_2) rfl
  obtain ⟨rfl, Nq2, e2⟩ := hQ2
  replace N := Fr.app N Nq2
  refine gb m T2 5 LL1 [] (st2) ?_
  refine sA 6 X2 hx (B d36_5) rfl rfl rfl ?_
  refine sI 7 X2 hx (B d36_6) rfl rfl ?_
  have hy3_0 : xn < 100000 := by omega
  have hy3_1 : xi < xn := by omega
  have hy3_2 : (ch xi) < 65536 := by omega
  obtain ⟨v3, T3, Lc3, X3, hQ3, st3⟩ := cS LL1 [] X2 hx hZ hown hw e2 hml 249 250 23 251 rfl rfl rfl rfl (by decide) (rm_gc l Z a0 hw [] tb _ xn ft xi (ch xi) zc fm hS0 h0 n0 O V_t hy3_0 hy3_1 hy3_2 (hR xi (by omega))) pd11 rfl rfl (B d36_7) rfl
  obtain ⟨rfl, Nq3, e3⟩ := hQ3
  replace N := Fr.app N Nq3
  refine gb m T3 10 LL1 [(.int (nI (ch xi)))] (st3) ?_
  obtain ⟨fs, hr, hrun, hended, hW, hsame⟩ := X3.leave (v := some (.int (nar .char (nI (ch xi))))) (fun h => by rw [Bd.returns] at h; cases h)
  refine ⟨_, _, retN X3 hx (t := .char) Bd.returns (by simp) (B d36_10) hr, hrun, hended, _, _, rfl, ?_, ⟨_, rfl⟩, hW, hsame.mono (by decide) (by decide)⟩
  show Qpure (some (.int (nI (ch xi)))) h0 n0 (some (.int (nar .char (nI (ch xi))))) T3.heap _
  rw [e3]
  exact ⟨congrArg (fun z => some (Value.int z)) (own_narc hci), N, rfl⟩

theorem d37_0 : decode c37 0 = .ok (.aload_n 0, 1) := by decide +kernel
theorem d37_1 : decode c37 1 = .ok (.invokevirtual 492, 3) := by decide +kernel
theorem d37_4 : decode c37 4 = .ok (.ifCond .eq 12, 3) := by decide +kernel
theorem d37_7 : decode c37 7 = .ok (.aload_n 0, 1) := by decide +kernel
theorem d37_8 : decode c37 8 = .ok (.getfield 9, 3) := by decide +kernel
theorem d37_11 : decode c37 11 = .ok (.iload_n 1, 1) := by decide +kernel
theorem d37_12 : decode c37 12 = .ok (.invokestatic 495, 3) := by decide +kernel
theorem d37_15 : decode c37 15 = .ok (.ireturn, 1) := by decide +kernel
theorem pn_ca0 : plainFor (⟨"java/lang/String", "charAt", "(I)C"⟩ : MethodName) = true := plainFor_of_name (by first | (simp [plainName, overriddenIn]; done) | decide +kernel)
theorem ef_ca0 (m : MethodId) (x0 : Addr) (x1 : Int32) : entryFrame m #[(.ref x0), (.int x1)] 2 = mkF m 0 #[.val (.ref x0), .val (.int x1)] [] := by first | (simp [entryFrame, mkF, argsToLocals, Value.category]; done) | rfl
theorem rm_ca0 (l : Launch) (Z : State) (a0 : Array Value) (hw : ∀ d ∈ tables_1, d.before a0 Z = true) (ws : List Jvm.Cond) (x tx : Addr) (kx : ClassId) (xn : Nat) (fx : Nat → Int32) (ch : Nat → Nat) (xi : Nat) (zc : Int32) (fm : Value) (hS0 : Sf Z zc fm) (h0 : Heap) (n0 : Nat) (O : Old Z n0 h0) (E_x : Exa Z h0 x "java/lang/String") (Fv_x : Fld Z h0 x "java/lang/String" "value" "[B" (.ref tx)) (Fc_x : Fld Z h0 x "java/lang/String" "coder" "B" (.int 0)) (V_tx : Arv Z h0 tx kx .byte (nI xn) (cont xn fx) (.int 0)) (hxn : xn ≤ 300) (hch : ∀ i, ch i < 65536) (hR : Lat xn fx ch) (hy0 : xi < xn) :
    MF l Z h0 (⟨"java/lang/String", "charAt", "(I)C"⟩ : MethodName) c37 2 (some .char) ws (rk 4 0 0 53) #[(.ref x), (.int (nI xi))] (Qpure (some (.int (nI (ch xi)))) h0 n0) := by
  refine sg n0 [] pn_ca0 rfl (fun m => ef_ca0 m x (nI xi)) fun p e s m below meth c s₁ Bd hml hZ hh hx B hown hnm X0 e0 N K => ?_
  let LL1 : Array Slot := #[.val (.ref x), .val (.int (nI xi))]
  refine sA 1 X0 hx (B d37_0) rfl rfl rfl ?_
  have hs2_x : xn ≤ 300 := by omega
  obtain ⟨v2, T2, Lc2, X2, hQ2, st2⟩ := cV LL1 [] X0 hx hZ hown hw e0 hml E_x 55 56 58 57 9 59 rfl rfl rfl rfl rfl rfl (by decide) (rm_isl0 l Z a0 hw [] x tx _ xn fx   zc fm hS0 h0 n0 O E_x Fv_x Fc_x V_tx hs2_x  ) pd18 rfl rfl (B d37_1) rfl
  obtain ⟨rfl, Nq2, e2⟩ := hQ2
  replace N := Fr.app N Nq2
  refine gb m T2 4 LL1 [(.int (1 : Int32))] (st2) ?_
  refine gb m T2 7 LL1 [] (fun _ k => XS.ifNo X2.here hx rfl (B d37_4) rfl ((if0 _ _).trans (feq (by decide : ¬ ((1 : Int32) = (0 : Int32)))).1) k) ?_
  refine sA 8 X2 hx (B d37_7) rfl rfl rfl ?_
  obtain ⟨T4, X4, e4, st4⟩ := getF X2 hx hZ hown (host := "") (Or.inl (wv hw 34 rfl)) Via.refl e2 Fv_x (g := (mkF m 8 LL1 [(.ref x)])) rfl rfl (B d37_8)
  refine gb m T4 11 LL1 [(.ref tx)] (st4) ?_
  refine sI 12 X4 hx (B d37_11) rfl rfl ?_
  have hy5_0 : xi < xn := by omega
  have hy5_1 : xn ≤ 300 := by omega
  obtain ⟨v5, T5, Lc5, X5, hQ5, st5⟩ := cS LL1 [] X4 hx hZ hown hw e4 hml 228 229 105 230 rfl rfl rfl rfl (by decide) (rm_lca l Z a0 hw [] tx _ xn fx ch xi zc fm hS0 h0 n0 O V_tx hch hR hy5_0 hy5_1) pd11 rfl rfl (B d37_12) rfl
  obtain ⟨rfl, Nq5, e5⟩ := hQ5
  replace N := Fr.app N Nq5
  refine gb m T5 15 LL1 [(.int (nI (ch xi)))] (st5) ?_
  obtain ⟨fs, hr, hrun, hended, hW, hsame⟩ := X5.leave (v := some (.int (nar .char (nI (ch xi))))) (fun h => by rw [Bd.returns] at h; cases h)
  refine ⟨_, _, retN X5 hx (t := .char) Bd.returns (by simp) (B d37_15) hr, hrun, hended, _, _, rfl, ?_, ⟨_, rfl⟩, hW, hsame.mono (by decide) (by decide)⟩
  show Qpure (some (.int (nI (ch xi)))) h0 n0 (some (.int (nar .char (nI (ch xi))))) T5.heap _
  rw [e5]
  exact ⟨congrArg (fun z => some (Value.int z)) (own_narc (hch xi)), N, rfl⟩

theorem d37_16 : decode c37 16 = .ok (.aload_n 0, 1) := by decide +kernel
theorem d37_17 : decode c37 17 = .ok (.getfield 9, 3) := by decide +kernel
theorem d37_20 : decode c37 20 = .ok (.iload_n 1, 1) := by decide +kernel
theorem d37_21 : decode c37 21 = .ok (.invokestatic 498, 3) := by decide +kernel
theorem d37_24 : decode c37 24 = .ok (.ireturn, 1) := by decide +kernel
theorem pn_ca1 : plainFor (⟨"java/lang/String", "charAt", "(I)C"⟩ : MethodName) = true := plainFor_of_name (by first | (simp [plainName, overriddenIn]; done) | decide +kernel)
theorem ef_ca1 (m : MethodId) (x0 : Addr) (x1 : Int32) : entryFrame m #[(.ref x0), (.int x1)] 2 = mkF m 0 #[.val (.ref x0), .val (.int x1)] [] := by first | (simp [entryFrame, mkF, argsToLocals, Value.category]; done) | rfl
theorem rm_ca1 (l : Launch) (Z : State) (a0 : Array Value) (hw : ∀ d ∈ tables_1, d.before a0 Z = true) (ws : List Jvm.Cond) (x tx : Addr) (kx : ClassId) (xn : Nat) (fx : Nat → Int32) (ch : Nat → Nat) (xi : Nat) (zc : Int32) (fm : Value) (hS0 : Sf Z zc fm) (h0 : Heap) (n0 : Nat) (O : Old Z n0 h0) (E_x : Exa Z h0 x "java/lang/String") (Fv_x : Fld Z h0 x "java/lang/String" "value" "[B" (.ref tx)) (Fc_x : Fld Z h0 x "java/lang/String" "coder" "B" (.int 1)) (V_tx : Arv Z h0 tx kx .byte (nI (2 * xn)) (cont (2 * xn) fx) (.int 0)) (hxn : xn ≤ 300) (hch : ∀ i, ch i < 65536) (hR : Utf xn fx ch) (hy0 : xi < xn) :
    MF l Z h0 (⟨"java/lang/String", "charAt", "(I)C"⟩ : MethodName) c37 2 (some .char) ws (rk 4 0 0 53) #[(.ref x), (.int (nI xi))] (Qpure (some (.int (nI (ch xi)))) h0 n0) := by
  refine sg n0 [] pn_ca1 rfl (fun m => ef_ca1 m x (nI xi)) fun p e s m below meth c s₁ Bd hml hZ hh hx B hown hnm X0 e0 N K => ?_
  let LL1 : Array Slot := #[.val (.ref x), .val (.int (nI xi))]
  refine sA 1 X0 hx (B d37_0) rfl rfl rfl ?_
  have hs2_x : xn ≤ 300 := by omega
  obtain ⟨v2, T2, Lc2, X2, hQ2, st2⟩ := cV LL1 [] X0 hx hZ hown hw e0 hml E_x 55 56 58 57 9 59 rfl rfl rfl rfl rfl rfl (by decide) (rm_isl1 l Z a0 hw [] x tx _ xn fx   zc fm hS0 h0 n0 O E_x Fv_x Fc_x V_tx hs2_x  ) pd18 rfl rfl (B d37_1) rfl
  obtain ⟨rfl, Nq2, e2⟩ := hQ2
  replace N := Fr.app N Nq2
  refine gb m T2 4 LL1 [(.int (0 : Int32))] (st2) ?_
  refine gb m T2 16 LL1 [] (fun _ k => XS.ifYes X2.here hx rfl (pc0 := 4) (pc' := 16) rfl (B d37_4) rfl ((if0 _ _).trans (teq (by decide : (0 : Int32) = (0 : Int32))).1) (by decide) (by decide) k) ?_
  refine sA 17 X2 hx (B d37_16) rfl rfl rfl ?_
  obtain ⟨T4, X4, e4, st4⟩ := getF X2 hx hZ hown (host := "") (Or.inl (wv hw 34 rfl)) Via.refl e2 Fv_x (g := (mkF m 17 LL1 [(.ref x)])) rfl rfl (B d37_17)
  refine gb m T4 20 LL1 [(.ref tx)] (st4) ?_
  refine sI 21 X4 hx (B d37_20) rfl rfl ?_
  have hy5_0 : xi < xn := by omega
  have hy5_1 : xn ≤ 300 := by omega
  obtain ⟨v5, T5, Lc5, X5, hQ5, st5⟩ := cS LL1 [] X4 hx hZ hown hw e4 hml 317 318 23 319 rfl rfl rfl rfl (by decide) (rm_uca l Z a0 hw [] tx _ xn fx ch xi zc fm hS0 h0 n0 O V_tx hch hR hy5_0 hy5_1) pd11 rfl rfl (B d37_21) rfl
  obtain ⟨rfl, Nq5, e5⟩ := hQ5
  replace N := Fr.app N Nq5
  refine gb m T5 24 LL1 [(.int (nI (ch xi)))] (st5) ?_
  obtain ⟨fs, hr, hrun, hended, hW, hsame⟩ := X5.leave (v := some (.int (nar .char (nI (ch xi))))) (fun h => by rw [Bd.returns] at h; cases h)
  refine ⟨_, _, retN X5 hx (t := .char) Bd.returns (by simp) (B d37_24) hr, hrun, hended, _, _, rfl, ?_, ⟨_, rfl⟩, hW, hsame.mono (by decide) (by decide)⟩
  show Qpure (some (.int (nI (ch xi)))) h0 n0 (some (.int (nar .char (nI (ch xi))))) T5.heap _
  rw [e5]
  exact ⟨congrArg (fun z => some (Value.int z)) (own_narc (hch xi)), N, rfl⟩

theorem rm_caU (l : Launch) (Z : State) (a0 : Array Value) (hw : ∀ d ∈ tables_1, d.before a0 Z = true) (ws : List Jvm.Cond) (x tx : Addr) (kx : ClassId) (xn : Nat) (fx : Nat → Int32) (cd : Int32) (lb : Nat) (ch : Nat → Nat) (xi : Nat) (zc : Int32) (fm : Value) (hS0 : Sf Z zc fm) (h0 : Heap) (n0 : Nat) (O : Old Z n0 h0) (E_x : Exa Z h0 x "java/lang/String") (Fv_x : Fld Z h0 x "java/lang/String" "value" "[B" (.ref tx)) (Fc_x : Fld Z h0 x "java/lang/String" "coder" "B" (.int cd)) (V_tx : Arv Z h0 tx kx .byte (Int32.ofNat lb) (cont lb fx) (.int 0)) (hxn : xn ≤ 300) (hch : ∀ i, ch i < 65536) (hR : Rp cd xn lb fx ch) (hy0 : xi < xn) :
    MetFree l (⟨"java/lang/String", "charAt", "(I)C"⟩ : MethodName) (head1 (Jvm.Cond.code (⟨"java/lang/String", "charAt", "(I)C"⟩ : MethodName) jdk_42_method_56_code 2 (some .char) :: ws) ({ frames := 4, cells := 0, slots := 0, locals := 53 } : Room)) (fun as_ U => as_ = #[.ref x, .int (Int32.ofNat xi)] ∧ Z.Warmed39 U.vm ∧ U.heap = h0) (fun _ _ _ _ _ => True) (fun _ U o U' => ∃ v L, o = .returned v ∧ Qpure (some (.int (Int32.ofNat (ch xi)))) h0 n0 v U'.heap L ∧ FrameEnd U o U' L ({ frames := 4, cells := 0, slots := 0, locals := 53 } : Room).cells ({ frames := 4, cells := 0, slots := 0, locals := 53 } : Room).slots) := by
  rcases hR with ⟨rfl, rfl, hR⟩ | ⟨rfl, rfl, hR⟩
  · exact rm_ca0 l Z a0 hw ws x tx kx xn fx ch xi zc fm hS0 h0 n0 O E_x Fv_x Fc_x V_tx hxn hch hR hy0
  · exact rm_ca1 l Z a0 hw ws x tx kx xn fx ch xi zc fm hS0 h0 n0 O E_x Fv_x Fc_x V_tx hxn hch hR hy0
theorem rm_slU (l : Launch) (Z : State) (a0 : Array Value) (hw : ∀ d ∈ tables_1, d.before a0 Z = true) (ws : List Jvm.Cond) (x tx : Addr) (kx : ClassId) (xn : Nat) (fx : Nat → Int32) (cd : Int32) (lb : Nat) (ch : Nat → Nat)  (zc : Int32) (fm : Value) (hS0 : Sf Z zc fm) (h0 : Heap) (n0 : Nat) (O : Old Z n0 h0) (E_x : Exa Z h0 x "java/lang/String") (Fv_x : Fld Z h0 x "java/lang/String" "value" "[B" (.ref tx)) (Fc_x : Fld Z h0 x "java/lang/String" "coder" "B" (.int cd)) (V_tx : Arv Z h0 tx kx .byte (Int32.ofNat lb) (cont lb fx) (.int 0)) (hxn : xn ≤ 300) (hch : ∀ i, ch i < 65536) (hR : Rp cd xn lb fx ch)  :
    MetFree l (⟨"java/lang/String", "length", "()I"⟩ : MethodName) (head1 (Jvm.Cond.code (⟨"java/lang/String", "length", "()I"⟩ : MethodName) jdk_42_method_54_code 1 (some .int) :: ws) ({ frames := 1, cells := 0, slots := 0, locals := 13 } : Room)) (fun as_ U => as_ = #[.ref x] ∧ Z.Warmed39 U.vm ∧ U.heap = h0) (fun _ _ _ _ _ => True) (fun _ U o U' => ∃ v L, o = .returned v ∧ Qpure (some (.int (Int32.ofNat xn))) h0 n0 v U'.heap L ∧ FrameEnd U o U' L ({ frames := 1, cells := 0, slots := 0, locals := 13 } : Room).cells ({ frames := 1, cells := 0, slots := 0, locals := 13 } : Room).slots) := by
  rcases hR with ⟨rfl, rfl, hR⟩ | ⟨rfl, rfl, hR⟩
  · exact rm_sl0 l Z a0 hw ws x tx kx xn fx   zc fm hS0 h0 n0 O E_x Fv_x Fc_x V_tx hxn  
  · exact rm_sl1 l Z a0 hw ws x tx kx xn fx   zc fm hS0 h0 n0 O E_x Fv_x Fc_x V_tx hxn  
theorem d38_0 : decode c38 0 = .ok (.iload_n 1, 1) := by decide +kernel
theorem d38_1 : decode c38 1 = .ok (.iload_n 2, 1) := by decide +kernel
theorem d38_2 : decode c38 2 = .ok (.invokestatic 343, 3) := by decide +kernel
theorem d38_5 : decode c38 5 = .ok (.iload_n 2, 1) := by decide +kernel
theorem d38_6 : decode c38 6 = .ok (.iload_n 1, 1) := by decide +kernel
theorem d38_7 : decode c38 7 = .ok (.isub, 1) := by decide +kernel
theorem d38_8 : decode c38 8 = .ok (.istore_n 3, 1) := by decide +kernel
theorem d38_9 : decode c38 9 = .ok (.iload_n 3, 1) := by decide +kernel
theorem d38_10 : decode c38 10 = .ok (.newarray .byte, 2) := by decide +kernel
theorem d38_12 : decode c38 12 = .ok (.astore 4, 2) := by decide +kernel
theorem d38_14 : decode c38 14 = .ok (.aload_n 0, 1) := by decide +kernel
theorem d38_15 : decode c38 15 = .ok (.iload_n 1, 1) := by decide +kernel
theorem d38_16 : decode c38 16 = .ok (.aload 4, 2) := by decide +kernel
theorem d38_18 : decode c38 18 = .ok (.iconst 0, 1) := by decide +kernel
theorem d38_19 : decode c38 19 = .ok (.aload_n 0, 1) := by decide +kernel
theorem d38_20 : decode c38 20 = .ok (.arraylength, 1) := by decide +kernel
theorem d38_21 : decode c38 21 = .ok (.iload_n 1, 1) := by decide +kernel
theorem d38_22 : decode c38 22 = .ok (.isub, 1) := by decide +kernel
theorem d38_23 : decode c38 23 = .ok (.iload_n 3, 1) := by decide +kernel
theorem d38_24 : decode c38 24 = .ok (.invokestatic 304, 3) := by decide +kernel
theorem d38_27 : decode c38 27 = .ok (.invokestatic 150, 3) := by decide +kernel
theorem d38_30 : decode c38 30 = .ok (.aload 4, 2) := by decide +kernel
theorem d38_32 : decode c38 32 = .ok (.areturn, 1) := by decide +kernel
theorem pn_corb : plainFor (⟨"java/util/Arrays", "copyOfRangeByte", "([BII)[B"⟩ : MethodName) = true := plainFor_of_name (by first | (simp [plainName, overriddenIn]; done) | decide +kernel)
theorem ef_corb (m : MethodId) (x0 : Addr) (x2 : Int32) : entryFrame m #[(.ref x0), (.int (0 : Int32)), (.int x2)] 5 = mkF m 0 #[.val (.ref x0), .val (.int (0 : Int32)), .val (.int x2), .unset, .unset] [] := by first | (simp [entryFrame, mkF, argsToLocals, Value.category]; done) | rfl
theorem rm_corb (l : Launch) (Z : State) (a0 : Array Value) (hw : ∀ d ∈ tables_1, d.before a0 Z = true) (ws : List Jvm.Cond) (tb : Addr) (kt : ClassId) (Lb : Nat) (ft : Nat → Int32) (cb : Nat) (h0 : Heap) (n0 : Nat) (O : Old Z n0 h0) (V_t : Arv Z h0 tb kt .byte (nI Lb) (cont Lb ft) (.int 0)) (hy0 : cb < Lb) (hy1 : Lb ≤ 1100) (hy2 : cb ≤ 530) :
    MF l Z h0 (⟨"java/util/Arrays", "copyOfRangeByte", "([BII)[B"⟩ : MethodName) c38 5 (some (.array .byte)) ws (rk 1 1 530 18) #[(.ref tb), (.int (0 : Int32)), (.int (nI cb))] (Qnw Z cb (fun f => ∀ i, i < cb → f i = ft i) h0 n0) := by
  refine sg n0 [] pn_corb rfl (fun m => ef_corb m tb (nI cb)) fun p e s m below meth c s₁ Bd hml hZ hh hx B hown hnm X0 e0 N K => ?_
  let LL1 : Array Slot := #[.val (.ref tb), .val (.int (0 : Int32)), .val (.int (nI cb)), .unset, .unset]
  refine sI 1 X0 hx (B d38_0) rfl rfl ?_
  refine sI 2 X0 hx (B d38_1) rfl rfl ?_
  have hy2_0 : 0 ≤ cb := by omega
  have hy2_1 : cb < 1073741824 := by omega
  obtain ⟨v2, T2, Lc2, X2, hQ2, st2⟩ := cS LL1 [] X0 hx hZ hown hw e0 hml 115 116 110 117 rfl rfl rfl rfl (by decide) (rm_chk l Z a0 hw [] 0 cb   h0 n0 O hy2_0 hy2_1) pd5 rfl rfl (B d38_2) rfl
  obtain ⟨rfl, Nq2, e2⟩ := hQ2
  replace N := Fr.app N Nq2
  refine gb m T2 5 LL1 [] (st2) ?_
  refine sI 6 X2 hx (B d38_5) rfl rfl ?_
  refine sI 7 X2 hx (B d38_6) rfl rfl ?_
  refine gb m T2 8 LL1 [(.int ((nI cb) - (0 : Int32)))] (fun _ k => XS.isub X2.here hx rfl (B d38_7) rfl k) ?_
  rw [show ((nI cb) - (0 : Int32)) = (nI cb) from Int32.sub_zero _]
  let LL3 : Array Slot := #[.val (.ref tb), .val (.int (0 : Int32)), .val (.int (nI cb)), .val (.int (nI cb)), .unset]
  refine gb m T2 9 LL3 [] (fun _ k => XS.istoreN X2.here hx rfl (B d38_8) rfl (l' := LL3) rfl k) ?_
  refine sI 10 X2 hx (B d38_9) rfl rfl ?_
  obtain ⟨T4, h4, k4, X4, e4, E4, A4, B4, st4⟩ := newPE X2 hx hZ (wv hw 25 rfl) e2 (g := (mkF m 10 LL3 [(.int (nI cb))])) rfl (B d38_10) (n := (nI cb)) rfl (own_neg (a := cb) (by omega)) (cap := 530) (by rw [own_nat (a := cb) (by omega)]; omega) (by decide) (by decide) (by decide) (ad := "[B") (by decide)
  obtain ⟨b4, g4⟩ : ∃ z, z = h0.size := ⟨_, rfl⟩
  rw [← g4] at A4 B4 st4
  have ne_tb_b4 : tb ≠ b4 := Nat.ne_of_lt (Nat.lt_of_lt_of_le V_t.lt (Nat.le_of_eq g4.symm))
  have g_b4 : n0 ≤ b4 := Nat.le_trans (Old.le O) (Nat.le_of_eq g4.symm)
  have sz_b4 : h0.size ≤ b4 := Nat.le_trans K.1 (Nat.le_of_eq g4.symm)
  replace V_t := V_t.ext E4
  replace O := O.ext E4
  replace K := K.ext E4
  have V_b4 : Arv Z h4 b4 k4 .byte (nI cb) (cont cb (fun _ => 0)) (.int 0) := own_cnew (Arv.new A4 (own_neg (a := cb) (by omega)))
  have E_b4 := B4
  obtain ⟨fz4, hfz4⟩ : ∃ g : Nat → Int32, g = fun _ => 0 := ⟨_, rfl⟩
  rw [← hfz4] at V_b4
  refine gb m T4 12 LL3 [(.ref b4)] (st4) ?_
  let LL5 : Array Slot := #[.val (.ref tb), .val (.int (0 : Int32)), .val (.int (nI cb)), .val (.int (nI cb)), .val (.ref b4)]
  refine gb m T4 14 LL5 [] (fun _ k => XS.astore X4.here hx rfl (B d38_12) rfl rfl (l' := LL5) rfl k) ?_
  refine sA 15 X4 hx (B d38_14) rfl rfl rfl ?_
  refine sI 16 X4 hx (B d38_15) rfl rfl ?_
  refine tA 18 X4 hx (B d38_16) rfl rfl rfl ?_
  refine sC 19 (0 : Int32) X4 hx (B d38_18) rfl rfl ?_
  refine sA 20 X4 hx (B d38_19) rfl rfl rfl ?_
  obtain ⟨cl6, Ar6, q6, S6, N6', H6, G6⟩ := id V_t
  refine gb m T4 21 LL5 [(.int (nI Lb)), (.int (0 : Int32)), (.ref b4), (.int (0 : Int32)), (.ref tb)] (fun t k => X4.arraylength hx (by rw [e4]; exact Ar6.1) (State.isArrayOf_alike hZ.alike Ar6.2.1) (g := (mkF m 20 LL5 [(.ref tb), (.int (0 : Int32)), (.ref b4), (.int (0 : Int32)), (.ref tb)])) rfl rfl (B d38_20) t (by rw [len_of S6 N6']; exact k)) ?_
  refine sI 22 X4 hx (B d38_21) rfl rfl ?_
  refine gb m T4 23 LL5 [(.int ((nI Lb) - (0 : Int32))), (.int (0 : Int32)), (.ref b4), (.int (0 : Int32)), (.ref tb)] (fun _ k => XS.isub X4.here hx rfl (B d38_22) rfl k) ?_
  rw [show ((nI Lb) - (0 : Int32)) = (nI Lb) from Int32.sub_zero _]
  refine sI 24 X4 hx (B d38_23) rfl rfl ?_
  have hy7_0 : Lb < 1073741824 := by omega
  have hy7_1 : cb < 1073741824 := by omega
  obtain ⟨v7, T7, Lc7, X7, hQ7, st7⟩ := cS LL5 [(.int (0 : Int32)), (.ref b4), (.int (0 : Int32)), (.ref tb)] X4 hx hZ hown hw e4 hml 118 119 120 121 rfl rfl rfl rfl (by decide) (rm_min l Z a0 hw [] Lb cb   h4 n0 O hy7_0 hy7_1) pd0 rfl rfl (B d38_24) rfl
  obtain ⟨rfl, Nq7, e7⟩ := hQ7
  replace N := Fr.app N Nq7
  refine gb m T7 27 LL5 [(.int (nI (min Lb cb))), (.int (0 : Int32)), (.ref b4), (.int (0 : Int32)), (.ref tb)] (st7) ?_
  obtain ⟨T8, h8, L8, X8, e8, N8, K8, V8, st8⟩ := cpA X7 hx hZ hown (wv hw 122 rfl) (wv hw 125 rfl) (wv hw 123 rfl) (wv hw 124 rfl) e7 V_t V_b4 (Or.inl ⟨rfl, rfl⟩) (sp := (nI 0)) (dp := (nI 0)) (nn := (nI (min Lb cb))) (own_neg (a := 0) (by omega)) (own_neg (a := 0) (by omega)) (own_neg (a := (min Lb cb)) (by omega)) (by rw [own_nat (a := 0) (by omega), own_nat (a := (min Lb cb)) (by omega), own_nat (a := Lb) (by omega)]; omega) (by rw [own_nat (a := 0) (by omega), own_nat (a := (min Lb cb)) (by omega), own_nat (a := cb) (by omega)]; omega) rfl (by rw [own_nat (a := 0) (by omega), own_nat (a := (min Lb cb)) (by omega), own_clen]; omega) N g_b4 (g := (mkF m 27 LL5 [(.int (nI (min Lb cb))), (.int (0 : Int32)), (.ref b4), (.int (0 : Int32)), (.ref tb)])) rfl (by rw [hml]; rfl) rfl (B d38_27) (by decide) (W := 0) (by show 2 * 0 + _ ≤ _; exact Nat.le_of_eq rfl) (by decide)
  replace N := N8
  rw [own_nat (a := 0) (by omega), own_nat (a := (min Lb cb)) (by omega), own_ccp (by omega) (by omega)] at V8
  replace V_t := V_t.keep K8 (ninS ne_tb_b4 nin0)
  replace E_b4 := E_b4.keep K8
  replace O := O.keep K8 (allS g_b4 all0)
  replace K := K.trans K8 (allS (Or.inr sz_b4) all0)
  obtain ⟨fd8, hfd8⟩ : ∃ g, g = cpy ft 0 fz4 0 (min Lb cb) := ⟨_, rfl⟩
  rw [← hfd8] at V8
  refine gb m T8 30 LL5 [] (st8) ?_
  refine tA 32 X8 hx (B d38_30) rfl rfl rfl ?_
  obtain ⟨fs, hr, hrun, hended, hW, hsame⟩ := X8.leave (v := some (.ref b4)) (fun h => by rw [Bd.returns] at h; cases h)
  refine ⟨_, _, retOut X8 hx Bd.returns rfl (Or.inr (Or.inr (Or.inr (Or.inr ⟨rfl, rfl, rfl⟩)))) (B d38_32) hr, hrun, hended, _, _, rfl, ?_, ⟨_, rfl⟩, hW, hsame.mono (by decide) (by decide)⟩
  show Qnw Z cb (fun f => ∀ i, i < cb → f i = ft i) h0 n0 (some (.ref b4)) T8.heap _
  rw [e8]
  exact ⟨_, _, _, rfl, N, K, sz_b4, V8, E_b4, fun i hi => own_cpy0 hfd8 (by omega)⟩

theorem d39_0 : decode c39 0 = .ok (.iload_n 1, 1) := by decide +kernel
theorem d39_1 : decode c39 1 = .ok (.ifCond .ne 9, 3) := by decide +kernel
theorem d39_4 : decode c39 4 = .ok (.iload_n 2, 1) := by decide +kernel
theorem d39_5 : decode c39 5 = .ok (.aload_n 0, 1) := by decide +kernel
theorem d39_6 : decode c39 6 = .ok (.arraylength, 1) := by decide +kernel
theorem d39_7 : decode c39 7 = .ok (.if_icmp .eq 10, 3) := by decide +kernel
theorem d39_10 : decode c39 10 = .ok (.aload_n 0, 1) := by decide +kernel
theorem d39_11 : decode c39 11 = .ok (.iload_n 1, 1) := by decide +kernel
theorem d39_12 : decode c39 12 = .ok (.iload_n 2, 1) := by decide +kernel
theorem d39_13 : decode c39 13 = .ok (.invokestatic 339, 3) := by decide +kernel
theorem d39_16 : decode c39 16 = .ok (.areturn, 1) := by decide +kernel
theorem pn_cor : plainFor (⟨"java/util/Arrays", "copyOfRange", "([BII)[B"⟩ : MethodName) = true := plainFor_of_name (by first | (simp [plainName, overriddenIn]; done) | decide +kernel)
theorem pd21 : parseMethodDescriptor "([BII)[B" = some ⟨[(.array .byte), .int, .int], some (.array .byte)⟩ := by decide +kernel
theorem ef_cor (m : MethodId) (x0 : Addr) (x2 : Int32) : entryFrame m #[(.ref x0), (.int (0 : Int32)), (.int x2)] 3 = mkF m 0 #[.val (.ref x0), .val (.int (0 : Int32)), .val (.int x2)] [] := by first | (simp [entryFrame, mkF, argsToLocals, Value.category]; done) | rfl
theorem rm_cor (l : Launch) (Z : State) (a0 : Array Value) (hw : ∀ d ∈ tables_1, d.before a0 Z = true) (ws : List Jvm.Cond) (tb : Addr) (kt : ClassId) (Lb : Nat) (ft : Nat → Int32) (cb : Nat) (h0 : Heap) (n0 : Nat) (O : Old Z n0 h0) (V_t : Arv Z h0 tb kt .byte (nI Lb) (cont Lb ft) (.int 0)) (hy0 : cb < Lb) (hy1 : Lb ≤ 1100) (hy2 : cb ≤ 530) :
    MF l Z h0 (⟨"java/util/Arrays", "copyOfRange", "([BII)[B"⟩ : MethodName) c39 3 (some (.array .byte)) ws (rk 2 1 530 34) #[(.ref tb), (.int (0 : Int32)), (.int (nI cb))] (Qnw Z cb (fun f => ∀ i, i < cb → f i = ft i) h0 n0) := by
  refine sg n0 [] pn_cor rfl (fun m => ef_cor m tb (nI cb)) fun p e s m below meth c s₁ Bd hml hZ hh hx B hown hnm X0 e0 N K => ?_
  let LL1 : Array Slot := #[.val (.ref tb), .val (.int (0 : Int32)), .val (.int (nI cb))]
  refine sI 1 X0 hx (B d39_0) rfl rfl ?_
  refine gb m s₁ 4 LL1 [] (fun _ k => XS.ifNo X0.here hx rfl (B d39_1) rfl ((if0 _ _).trans (teq (by decide : (0 : Int32) = (0 : Int32))).2) k) ?_
  refine sI 5 X0 hx (B d39_4) rfl rfl ?_
  refine sA 6 X0 hx (B d39_5) rfl rfl rfl ?_
  obtain ⟨cl3, Ar3, q3, S3, N3', H3, G3⟩ := id V_t
  refine gb m s₁ 7 LL1 [(.int (nI Lb)), (.int (nI cb))] (fun t k => X0.arraylength hx (by rw [e0]; exact Ar3.1) (State.isArrayOf_alike hZ.alike Ar3.2.1) (g := (mkF m 6 LL1 [(.ref tb), (.int (nI cb))])) rfl rfl (B d39_6) t (by rw [len_of S3 N3']; exact k)) ?_
  refine gb m s₁ 10 LL1 [] (fun _ k => XS.icmpNo X0.here hx rfl (B d39_7) rfl (feq (mt (own_neq (a := cb) (b := Lb) (by omega) (by omega)).mp (by omega))).1 k) ?_
  refine sA 11 X0 hx (B d39_10) rfl rfl rfl ?_
  refine sI 12 X0 hx (B d39_11) rfl rfl ?_
  refine sI 13 X0 hx (B d39_12) rfl rfl ?_
  have hy5_0 : cb < Lb := by omega
  have hy5_1 : Lb ≤ 1100 := by omega
  have hy5_2 : cb ≤ 530 := by omega
  obtain ⟨v5, T5, Lc5, X5, hQ5, st5⟩ := cS LL1 [] X0 hx hZ hown hw e0 hml 112 113 110 114 rfl rfl rfl rfl (by decide) (rm_corb l Z a0 hw [] tb _ Lb ft cb h0 n0 O V_t hy5_0 hy5_1 hy5_2) pd21 rfl rfl (B d39_13) rfl
  obtain ⟨r5, k25, fd5, rfl, Nq5, K5, gr5, Vr5, Er5, hP5⟩ := hQ5
  replace N := Fr.app N Nq5
  have sz_r5 : h0.size ≤ r5 := Nat.le_trans K.1 gr5
  replace V_t := V_t.keep K5 nin0
  replace O := O.keep K5 all0
  replace K := K.trans K5 all0
  refine gb m T5 16 LL1 [(.ref r5)] (st5) ?_
  obtain ⟨fs, hr, hrun, hended, hW, hsame⟩ := X5.leave (v := some (.ref r5)) (fun h => by rw [Bd.returns] at h; cases h)
  refine ⟨_, _, retOut X5 hx Bd.returns rfl (Or.inr (Or.inr (Or.inr (Or.inr ⟨rfl, rfl, rfl⟩)))) (B d39_16) hr, hrun, hended, _, _, rfl, ?_, ⟨_, rfl⟩, hW, hsame.mono (by decide) (by decide)⟩
  show Qnw Z cb (fun f => ∀ i, i < cb → f i = ft i) h0 n0 (some (.ref r5)) T5.heap _
  exact ⟨_, _, _, rfl, N, K, sz_r5, Vr5, Er5, hP5⟩

theorem d40_0 : decode c40 0 = .ok (.aload_n 0, 1) := by decide +kernel
theorem d40_1 : decode c40 1 = .ok (.invokespecial 1, 3) := by decide +kernel
theorem d40_4 : decode c40 4 = .ok (.aload_n 0, 1) := by decide +kernel
theorem d40_5 : decode c40 5 = .ok (.aload_n 1, 1) := by decide +kernel
theorem d40_6 : decode c40 6 = .ok (.putfield 9, 3) := by decide +kernel
theorem d40_9 : decode c40 9 = .ok (.aload_n 0, 1) := by decide +kernel
theorem d40_10 : decode c40 10 = .ok (.iload_n 2, 1) := by decide +kernel
theorem d40_11 : decode c40 11 = .ok (.putfield 15, 3) := by decide +kernel
theorem d40_14 : decode c40 14 = .ok (.return_, 1) := by decide +kernel
theorem pn_ibb0 : plainFor (⟨"java/lang/String", "<init>", "([BB)V"⟩ : MethodName) = true := plainFor_of_name (by first | (simp [plainName, overriddenIn]; done) | decide +kernel)
theorem ef_ibb0 (m : MethodId) (x0 : Addr) (x1 : Addr) : entryFrame m #[(.ref x0), (.ref x1), (.int (0 : Int32))] 3 = mkF m 0 #[.val (.ref x0), .val (.ref x1), .val (.int (0 : Int32))] [] := by first | (simp [entryFrame, mkF, argsToLocals, Value.category]; done) | rfl
theorem rm_ibb0 (l : Launch) (Z : State) (a0 : Array Value) (hw : ∀ d ∈ tables_1, d.before a0 Z = true) (ws : List Jvm.Cond) (x r : Addr) (h0 : Heap) (n0 : Nat) (O : Old Z n0 h0) (E_x : Exa Z h0 x "java/lang/String") (Fv_x : Fld Z h0 x "java/lang/String" "value" "[B" .null) (Fc_x : Fld Z h0 x "java/lang/String" "coder" "B" (.int 0)) (g_x : n0 ≤ x) :
    MF l Z h0 (⟨"java/lang/String", "<init>", "([BB)V"⟩ : MethodName) c40 3 none ws (rk 1 0 0 12) #[(.ref x), (.ref r), (.int (0 : Int32))] (Qbb Z x r 0 h0 n0) := by
  refine sg n0 [x] pn_ibb0 rfl (fun m => ef_ibb0 m x r) fun p e s m below meth c s₁ Bd hml hZ hh hx B hown hnm X0 e0 N K => ?_
  let LL1 : Array Slot := #[.val (.ref x), .val (.ref r), .val (.int (0 : Int32))]
  refine sA 1 X0 hx (B d40_0) rfl rfl rfl ?_
  obtain ⟨T2, X2, e2, st2⟩ := initO X0 hx hZ hown (wv hw 17 rfl) (wv hw 18 rfl) (wv hw 19 rfl) e0 (g := (mkF m 1 LL1 [(.ref x)])) rfl (by rw [hml]; rfl) rfl (B d40_1) (by decide) (W := 0) (by show 2 * 0 + _ ≤ _; exact Nat.le_of_eq rfl) (by decide)
  refine gb m T2 4 LL1 [] (st2) ?_
  refine sA 5 X2 hx (B d40_4) rfl rfl rfl ?_
  refine sA 6 X2 hx (B d40_5) rfl rfl rfl ?_
  obtain ⟨T3, h3, X3, e3, W3, st3⟩ := putF X2 hx hZ hown (host := "") (Or.inl (wv hw 34 rfl)) Via.refl e2 Fv_x E_x (Or.inr ⟨(wv hw 35 rfl), rfl, hnm⟩) (wv hw 8 rfl) (ty := (.array .byte)) (by decide) rfl rfl (g := (mkF m 6 LL1 [(.ref r), (.ref x)])) rfl rfl (B d40_6)
  replace E_x := E_x.wr W3
  replace Fc_x := Fc_x.other W3 (Or.inr (slot_ne (Or.inr (wv hw 33 rfl)) (Or.inr (wv hw 35 rfl)) (by decide) (t := .byte) (t' := (.array .byte)) (by decide) (by decide)))
  replace Fv_x := Fv_x.same W3
  replace O := O.wr W3 g_x
  replace K := K.wr W3 (Or.inl (by simp))
  replace N := Fr.snoc X3 N g_x
  refine gb m T3 9 LL1 [] (st3) ?_
  refine sA 10 X3 hx (B d40_9) rfl rfl rfl ?_
  refine sI 11 X3 hx (B d40_10) rfl rfl ?_
  obtain ⟨T4, h4, X4, e4, W4, st4⟩ := putFN X3 hx hZ hown (wv hw 32 rfl) Via.refl e3 Fc_x E_x (Or.inr ⟨(wv hw 33 rfl), rfl, hnm⟩) (wv hw 8 rfl) (ty := .byte) (v' := (.int (0 : Int32))) (by decide) rfl rfl (g := (mkF m 11 LL1 [(.int (0 : Int32)), (.ref x)])) rfl rfl (B d40_11)
  replace E_x := E_x.wr W4
  replace Fv_x := Fv_x.other W4 (Or.inr (slot_ne (Or.inr (wv hw 35 rfl)) (Or.inr (wv hw 33 rfl)) (by decide) (t := (.array .byte)) (t' := .byte) (by decide) (by decide)))
  replace Fc_x := Fc_x.same W4
  replace O := O.wr W4 g_x
  replace K := K.wr W4 (Or.inl (by simp))
  replace N := Fr.snoc X4 N g_x
  refine gb m T4 14 LL1 [] (st4) ?_
  obtain ⟨fs, hr, hrun, hended, hW, hsame⟩ := X4.leave (v := none) (fun _ => rfl)
  refine ⟨_, _, X4.returnOut hx Bd.returns (B d40_14) hr, hrun, hended, _, _, rfl, ?_, ⟨_, rfl⟩, hW, hsame.mono (by decide) (by decide)⟩
  show Qbb Z x r 0 h0 n0 (none) T4.heap _
  rw [e4]
  exact ⟨rfl, N, K, Fv_x, Fc_x⟩

theorem pn_ibb1 : plainFor (⟨"java/lang/String", "<init>", "([BB)V"⟩ : MethodName) = true := plainFor_of_name (by first | (simp [plainName, overriddenIn]; done) | decide +kernel)
theorem ef_ibb1 (m : MethodId) (x0 : Addr) (x1 : Addr) : entryFrame m #[(.ref x0), (.ref x1), (.int (1 : Int32))] 3 = mkF m 0 #[.val (.ref x0), .val (.ref x1), .val (.int (1 : Int32))] [] := by first | (simp [entryFrame, mkF, argsToLocals, Value.category]; done) | rfl
theorem rm_ibb1 (l : Launch) (Z : State) (a0 : Array Value) (hw : ∀ d ∈ tables_1, d.before a0 Z = true) (ws : List Jvm.Cond) (x r : Addr) (h0 : Heap) (n0 : Nat) (O : Old Z n0 h0) (E_x : Exa Z h0 x "java/lang/String") (Fv_x : Fld Z h0 x "java/lang/String" "value" "[B" .null) (Fc_x : Fld Z h0 x "java/lang/String" "coder" "B" (.int 0)) (g_x : n0 ≤ x) :
    MF l Z h0 (⟨"java/lang/String", "<init>", "([BB)V"⟩ : MethodName) c40 3 none ws (rk 1 0 0 12) #[(.ref x), (.ref r), (.int (1 : Int32))] (Qbb Z x r 1 h0 n0) := by
  refine sg n0 [x] pn_ibb1 rfl (fun m => ef_ibb1 m x r) fun p e s m below meth c s₁ Bd hml hZ hh hx B hown hnm X0 e0 N K => ?_
  let LL1 : Array Slot := #[.val (.ref x), .val (.ref r), .val (.int (1 : Int32))]
  refine sA 1 X0 hx (B d40_0) rfl rfl rfl ?_
  obtain ⟨T2, X2, e2, st2⟩ := initO X0 hx hZ hown (wv hw 17 rfl) (wv hw 18 rfl) (wv hw 19 rfl) e0 (g := (mkF m 1 LL1 [(.ref x)])) rfl (by rw [hml]; rfl) rfl (B d40_1) (by decide) (W := 0) (by show 2 * 0 + _ ≤ _; exact Nat.le_of_eq rfl) (by decide)
  refine gb m T2 4 LL1 [] (st2) ?_
  refine sA 5 X2 hx (B d40_4) rfl rfl rfl ?_
  refine sA 6 X2 hx (B d40_5) rfl rfl rfl ?_
  obtain ⟨T3, h3, X3, e3, W3, st3⟩ := putF X2 hx hZ hown (host := "") (Or.inl (wv hw 34 rfl)) Via.refl e2 Fv_x E_x (Or.inr ⟨(wv hw 35 rfl), rfl, hnm⟩) (wv hw 8 rfl) (ty := (.array .byte)) (by decide) rfl rfl (g := (mkF m 6 LL1 [(.ref r), (.ref x)])) rfl rfl (B d40_6)
  replace E_x := E_x.wr W3
  replace Fc_x := Fc_x.other W3 (Or.inr (slot_ne (Or.inr (wv hw 33 rfl)) (Or.inr (wv hw 35 rfl)) (by decide) (t := .byte) (t' := (.array .byte)) (by decide) (by decide)))
  replace Fv_x := Fv_x.same W3
  replace O := O.wr W3 g_x
  replace K := K.wr W3 (Or.inl (by simp))
  replace N := Fr.snoc X3 N g_x
  refine gb m T3 9 LL1 [] (st3) ?_
  refine sA 10 X3 hx (B d40_9) rfl rfl rfl ?_
  refine sI 11 X3 hx (B d40_10) rfl rfl ?_
  obtain ⟨T4, h4, X4, e4, W4, st4⟩ := putFN X3 hx hZ hown (wv hw 32 rfl) Via.refl e3 Fc_x E_x (Or.inr ⟨(wv hw 33 rfl), rfl, hnm⟩) (wv hw 8 rfl) (ty := .byte) (v' := (.int (1 : Int32))) (by decide) rfl rfl (g := (mkF m 11 LL1 [(.int (1 : Int32)), (.ref x)])) rfl rfl (B d40_11)
  replace E_x := E_x.wr W4
  replace Fv_x := Fv_x.other W4 (Or.inr (slot_ne (Or.inr (wv hw 35 rfl)) (Or.inr (wv hw 33 rfl)) (by decide) (t := (.array .byte)) (t' := .byte) (by decide) (by decide)))
  replace Fc_x := Fc_x.same W4
  replace O := O.wr W4 g_x
  replace K := K.wr W4 (Or.inl (by simp))
  replace N := Fr.snoc X4 N g_x
  refine gb m T4 14 LL1 [] (st4) ?_
  obtain ⟨fs, hr, hrun, hended, hW, hsame⟩ := X4.leave (v := none) (fun _ => rfl)
  refine ⟨_, _, X4.returnOut hx Bd.returns (B d40_14) hr, hrun, hended, _, _, rfl, ?_, ⟨_, rfl⟩, hW, hsame.mono (by decide) (by decide)⟩
  show Qbb Z x r 1 h0 n0 (none) T4.heap _
  rw [e4]
  exact ⟨rfl, N, K, Fv_x, Fc_x⟩

theorem d41_0 : decode c41 0 = .ok (.iload_n 2, 1) := by decide +kernel
theorem d41_1 : decode c41 1 = .ok (.ifCond .ne 6, 3) := by decide +kernel
theorem d41_7 : decode c41 7 = .ok (.new 1, 3) := by decide +kernel
theorem d41_10 : decode c41 10 = .ok (.dup, 1) := by decide +kernel
theorem d41_11 : decode c41 11 = .ok (.aload_n 0, 1) := by decide +kernel
theorem d41_12 : decode c41 12 = .ok (.iload_n 1, 1) := by decide +kernel
theorem d41_13 : decode c41 13 = .ok (.iload_n 1, 1) := by decide +kernel
theorem d41_14 : decode c41 14 = .ok (.iload_n 2, 1) := by decide +kernel
theorem d41_15 : decode c41 15 = .ok (.iadd, 1) := by decide +kernel
theorem d41_16 : decode c41 16 = .ok (.invokestatic 232, 3) := by decide +kernel
theorem d41_19 : decode c41 19 = .ok (.iconst 0, 1) := by decide +kernel
theorem d41_20 : decode c41 20 = .ok (.invokespecial 112, 3) := by decide +kernel
theorem d41_23 : decode c41 23 = .ok (.areturn, 1) := by decide +kernel
theorem pn_lns : plainFor (⟨"java/lang/StringLatin1", "newString", "([BII)Ljava/lang/String;"⟩ : MethodName) = true := plainFor_of_name (by first | (simp [plainName, overriddenIn]; done) | decide +kernel)
theorem pd22 : parseMethodDescriptor "([BB)V" = some ⟨[(.array .byte), .byte], none⟩ := by decide +kernel
theorem ef_lns (m : MethodId) (x0 : Addr) (x2 : Int32) : entryFrame m #[(.ref x0), (.int (0 : Int32)), (.int x2)] 3 = mkF m 0 #[.val (.ref x0), .val (.int (0 : Int32)), .val (.int x2)] [] := by first | (simp [entryFrame, mkF, argsToLocals, Value.category]; done) | rfl
theorem rm_lns (l : Launch) (Z : State) (a0 : Array Value) (hw : ∀ d ∈ tables_1, d.before a0 Z = true) (ws : List Jvm.Cond) (tb : Addr) (kt : ClassId) (xn : Nat) (ft : Nat → Int32) (ch : Nat → Nat) (xm : Nat) (zc : Int32) (fm : Value) (hS0 : Sf Z zc fm) (h0 : Heap) (n0 : Nat) (O : Old Z n0 h0) (V_t : Arv Z h0 tb kt .byte (nI xn) (cont xn ft) (.int 0)) (hch : ∀ i, ch i < 65536) (hR : Lat xn ft ch) (hy0 : xm < xn) (hy1 : xn ≤ 260) (hy2 : 0 < xm) :
    MF l Z h0 (⟨"java/lang/StringLatin1", "newString", "([BII)Ljava/lang/String;"⟩ : MethodName) c41 3 (some (.object "java/lang/String")) ws (rk 3 2 534 50) #[(.ref tb), (.int (0 : Int32)), (.int (nI xm))] (Qst Z xm ch h0 n0) := by
  refine sg n0 [] pn_lns rfl (fun m => ef_lns m tb (nI xm)) fun p e s m below meth c s₁ Bd hml hZ hh hx B hown hnm X0 e0 N K => ?_
  let LL1 : Array Slot := #[.val (.ref tb), .val (.int (0 : Int32)), .val (.int (nI xm))]
  refine sI 1 X0 hx (B d41_0) rfl rfl ?_
  refine gb m s₁ 7 LL1 [] (fun _ k => XS.ifYes X0.here hx rfl (pc0 := 1) (pc' := 7) rfl (B d41_1) rfl ((if0 _ _).trans (feq (mt (own_neq (a := xm) (b := 0) (by omega) (by omega)).mp (by omega))).2) (by decide) (by decide) k) ?_
  obtain ⟨T3, h3, X3, e3, E3, A3, D3, -, st3⟩ := newO X0 hx hZ hown (wv hw 107 rfl) (wv hw 8 rfl) (wv hw 9 rfl) e0 (g := (mkF m 7 LL1 [])) rfl (B d41_7) (by decide) (by decide)
  obtain ⟨b3, g3⟩ : ∃ z, z = h0.size := ⟨_, rfl⟩
  rw [← g3] at A3 D3 st3
  have ne_tb_b3 : tb ≠ b3 := Nat.ne_of_lt (Nat.lt_of_lt_of_le V_t.lt (Nat.le_of_eq g3.symm))
  have g_b3 : n0 ≤ b3 := Nat.le_trans (Old.le O) (Nat.le_of_eq g3.symm)
  have sz_b3 : h0.size ≤ b3 := Nat.le_trans K.1 (Nat.le_of_eq g3.symm)
  replace V_t := V_t.ext E3
  replace O := O.ext E3
  replace K := K.ext E3
  have E_b3 := A3
  have F_coder_b3 : Fld Z h3 b3 "java/lang/String" "coder" "B" (.int (0 : Int32)) := D3 (Or.inr (wv hw 33 rfl)) (ty := .byte) (by decide)
  have F_value_b3 : Fld Z h3 b3 "java/lang/String" "value" "[B" .null := D3 (Or.inr (wv hw 35 rfl)) (ty := (.array .byte)) (by decide)
  refine gb m T3 10 LL1 [(.ref b3)] (st3) ?_
  refine gb m T3 11 LL1 [(.ref b3), (.ref b3)] (fun _ k => XS.dup X3.here hx rfl (B d41_10) rfl rfl k) ?_
  refine sA 12 X3 hx (B d41_11) rfl rfl rfl ?_
  refine sI 13 X3 hx (B d41_12) rfl rfl ?_
  refine sI 14 X3 hx (B d41_13) rfl rfl ?_
  refine sI 15 X3 hx (B d41_14) rfl rfl ?_
  refine gb m T3 16 LL1 [(.int ((0 : Int32) + (nI xm))), (.int (0 : Int32)), (.ref tb), (.ref b3), (.ref b3)] (fun _ k => XS.iadd X3.here hx rfl (B d41_15) rfl k) ?_
  rw [show ((0 : Int32) + (nI xm)) = (nI xm) from Int32.zero_add _]
  have hy4_0 : xm < xn := by omega
  have hy4_1 : xn ≤ 1100 := by omega
  have hy4_2 : xm ≤ 530 := by omega
  obtain ⟨v4, T4, Lc4, X4, hQ4, st4⟩ := cS LL1 [(.ref b3), (.ref b3)] X3 hx hZ hown hw e3 hml 108 109 110 111 rfl rfl rfl rfl (by decide) (rm_cor l Z a0 hw [] tb _ xn ft xm h3 n0 O V_t hy4_0 hy4_1 hy4_2) pd21 rfl rfl (B d41_16) rfl
  obtain ⟨r4, k24, fd4, rfl, Nq4, K4, gr4, Vr4, Er4, hP4⟩ := hQ4
  replace N := Fr.app N Nq4
  have ne_b3_r4 : b3 ≠ r4 := Nat.ne_of_lt (Nat.lt_of_lt_of_le E_b3.lt gr4)
  have sz_r4 : h0.size ≤ r4 := Nat.le_trans K.1 gr4
  replace V_t := V_t.keep K4 nin0
  replace E_b3 := E_b3.keep K4
  replace F_coder_b3 := F_coder_b3.keep K4 nin0
  replace F_value_b3 := F_value_b3.keep K4 nin0
  replace O := O.keep K4 all0
  replace K := K.trans K4 all0
  refine gb m T4 19 LL1 [(.ref r4), (.ref b3), (.ref b3)] (st4) ?_
  refine sC 20 (0 : Int32) X4 hx (B d41_19) rfl rfl ?_
  obtain ⟨v5, _, ⟨T5, L5, k5, n5⟩, -, X5, ⟨Lc5, hQ5, l5, y5, z5⟩, st5⟩ := X4.specialBack hx (y := (⟨"java/lang/String", "<init>", "([BB)V"⟩ : MethodName)) rfl hown (mvT hZ (wv hw 126 rfl)) (mvT hZ (wv hw 127 rfl)) (mvT hZ (wv hw 128 rfl)) (by decide) (backOf (W := 1) (rm_ibb0 l Z a0 hw [] b3 r4 T4.heap n0 O E_b3 F_value_b3 F_coder_b3 g_b3) hZ (wv hw 128 rfl) (wv hw 9 rfl) (by decide) (by decide)) (g := (mkF m 20 LL1 [(.int (0 : Int32)), (.ref r4), (.ref b3), (.ref b3)])) rfl (by rw [hml]; rfl) (Steps.refl _) (a := b3) (argsL := [(.ref r4), (.int (0 : Int32))]) (rest := [(.ref b3)]) (lenOf pd22 rfl) rfl (by show 2 * 0 + _ ≤ _; exact Nat.le_of_eq rfl) (B d41_20) (fun _ _ => ⟨rfl, rfl, (by decide : 2 + 0 ≤ _), (by decide : 534 + 0 ≤ _)⟩)
  dsimp only [Pt.U, Pt.locs, Pt.cells, Pt.slots] at X5 l5 y5 z5 st5 hQ5
  rw [l5, y5, z5] at X5; clear l5 y5 z5
  obtain ⟨rfl, Nq5, K5, Gv5, Gc5⟩ := hQ5
  replace N := Fr.app N Nq5
  replace V_t := V_t.keep K5 (ninS ne_tb_b3 nin0)
  replace E_b3 := E_b3.keep K5
  replace Vr4 := Vr4.keep K5 (ninS (Ne.symm ne_b3_r4) nin0)
  replace Er4 := Er4.keep K5
  replace O := O.keep K5 (allS g_b3 all0)
  replace K := K.trans K5 (allS (Or.inr sz_b3) all0)
  refine gb m T5 23 LL1 [(.ref b3)] (fun _ k => st5.trans k) ?_
  obtain ⟨fs, hr, hrun, hended, hW, hsame⟩ := X5.leave (v := some (.ref b3)) (fun h => by rw [Bd.returns] at h; cases h)
  refine ⟨_, _, retOut X5 hx Bd.returns rfl (Or.inr (Or.inr (Or.inr (Or.inr ⟨rfl, rfl, rfl⟩)))) (B d41_23) hr, hrun, hended, _, _, rfl, ?_, ⟨_, rfl⟩, hW, hsame.mono (by decide) (by decide)⟩
  show Qst Z xm ch h0 n0 (some (.ref b3)) T5.heap _
  exact ⟨_, _, _, _, _, _, rfl, N, K, sz_b3, sz_r4, E_b3, Gv5, Gc5, Vr4, Er4, Or.inl ⟨rfl, rfl, own_L0m hP4 (by omega) hR⟩⟩

theorem d42_0 : decode c42 0 = .ok (.iload_n 1, 1) := by decide +kernel
theorem d42_1 : decode c42 1 = .ok (.iload 4, 2) := by decide +kernel
theorem d42_3 : decode c42 3 = .ok (.aload_n 0, 1) := by decide +kernel
theorem d42_4 : decode c42 4 = .ok (.invokestatic 173, 3) := by decide +kernel
theorem d42_7 : decode c42 7 = .ok (.iconst 0, 1) := by decide +kernel
theorem d42_8 : decode c42 8 = .ok (.istore 5, 2) := by decide +kernel
theorem d42_10 : decode c42 10 = .ok (.iload 5, 2) := by decide +kernel
theorem d42_12 : decode c42 12 = .ok (.iload 4, 2) := by decide +kernel
theorem d42_14 : decode c42 14 = .ok (.if_icmp .ge 39, 3) := by decide +kernel
theorem d42_17 : decode c42 17 = .ok (.aload_n 0, 1) := by decide +kernel
theorem d42_18 : decode c42 18 = .ok (.iload_n 1, 1) := by decide +kernel
theorem d42_19 : decode c42 19 = .ok (.invokestatic 71, 3) := by decide +kernel
theorem d42_22 : decode c42 22 = .ok (.istore 6, 2) := by decide +kernel
theorem d42_24 : decode c42 24 = .ok (.iload 6, 2) := by decide +kernel
theorem d42_26 : decode c42 26 = .ok (.sipush 255, 3) := by decide +kernel
theorem d42_29 : decode c42 29 = .ok (.if_icmp .le 6, 3) := by decide +kernel
theorem d42_32 : decode c42 32 = .ok (.iload 5, 2) := by decide +kernel
theorem d42_34 : decode c42 34 = .ok (.ireturn, 1) := by decide +kernel
theorem d42_35 : decode c42 35 = .ok (.aload_n 2, 1) := by decide +kernel
theorem d42_36 : decode c42 36 = .ok (.iload_n 3, 1) := by decide +kernel
theorem d42_37 : decode c42 37 = .ok (.iload 6, 2) := by decide +kernel
theorem d42_39 : decode c42 39 = .ok (.i2b, 1) := by decide +kernel
theorem d42_40 : decode c42 40 = .ok (.bastore, 1) := by decide +kernel
theorem d42_41 : decode c42 41 = .ok (.iinc 1 1, 3) := by decide +kernel
theorem d42_44 : decode c42 44 = .ok (.iinc 3 1, 3) := by decide +kernel
theorem d42_47 : decode c42 47 = .ok (.iinc 5 1, 3) := by decide +kernel
theorem d42_50 : decode c42 50 = .ok (.goto (-40), 3) := by decide +kernel
theorem d42_53 : decode c42 53 = .ok (.iload 4, 2) := by decide +kernel
theorem d42_55 : decode c42 55 = .ok (.ireturn, 1) := by decide +kernel
theorem pn_cmb : plainFor (⟨"java/lang/StringUTF16", "compress", "([BI[BII)I"⟩ : MethodName) = true := plainFor_of_name (by first | (simp [plainName, overriddenIn]; done) | decide +kernel)
theorem pd23 : parseMethodDescriptor "(II[B)V" = some ⟨[.int, .int, (.array .byte)], none⟩ := by decide +kernel
theorem ef_cmb (m : MethodId) (x0 : Addr) (x2 : Addr) (x4 : Int32) : entryFrame m #[(.ref x0), (.int (0 : Int32)), (.ref x2), (.int (0 : Int32)), (.int x4)] 7 = mkF m 0 #[.val (.ref x0), .val (.int (0 : Int32)), .val (.ref x2), .val (.int (0 : Int32)), .val (.int x4), .unset, .unset] [] := by first | (simp [entryFrame, mkF, argsToLocals, Value.category]; done) | rfl
theorem rm_cmb (l : Launch) (Z : State) (a0 : Array Value) (hw : ∀ d ∈ tables_1, d.before a0 Z = true) (ws : List Jvm.Cond) (tb : Addr) (kt : ClassId) (xn : Nat) (ft : Nat → Int32) (ch : Nat → Nat) (xm : Nat) (zc : Int32) (fm : Value) (hS0 : Sf Z zc fm) (da : Addr) (kd : ClassId) (fs : Nat → Int32) (h0 : Heap) (n0 : Nat) (O : Old Z n0 h0) (V_t : Arv Z h0 tb kt .byte (nI (2 * xn)) (cont (2 * xn) ft) (.int 0)) (hch : ∀ i, ch i < 65536) (hR : Utf xn ft ch) (hy0 : xm < xn) (hy1 : xn ≤ 260) (hy2 : 0 < xm) (V_d : Arv Z h0 da kd .byte (nI xm) (cont xm fs) (.int 0)) (g_da : n0 ≤ da) (hne : tb ≠ da) :
    MF l Z h0 (⟨"java/lang/StringUTF16", "compress", "([BI[BII)I"⟩ : MethodName) c42 7 (some .int) ws (rk 3 0 0 43) #[(.ref tb), (.int (0 : Int32)), (.ref da), (.int (0 : Int32)), (.int (nI xm))] (Qcp Z da xm ch h0 n0) := by
  refine sg n0 [da] pn_cmb rfl (fun m => ef_cmb m tb da (nI xm)) fun p e s m below meth c s₁ Bd hml hZ hh hx B hown hnm X0 e0 N K => ?_
  let LL1 : Array Slot := #[.val (.ref tb), .val (.int (0 : Int32)), .val (.ref da), .val (.int (0 : Int32)), .val (.int (nI xm)), .unset, .unset]
  refine sI 1 X0 hx (B d42_0) rfl rfl ?_
  refine tI 3 X0 hx (B d42_1) rfl rfl ?_
  refine sA 4 X0 hx (B d42_3) rfl rfl rfl ?_
  have hy2_0 : xn < 100000 := by omega
  have hy2_1 : 0 + xm ≤ xn := by omega
  obtain ⟨v2, T2, Lc2, X2, hQ2, st2⟩ := cS LL1 [] X0 hx hZ hown hw e0 hml 281 282 23 283 rfl rfl rfl rfl (by decide) (rm_ubo l Z a0 hw [] tb _ xn ft 0 xm zc fm hS0 h0 n0 O V_t hy2_0 hy2_1) pd23 rfl rfl (B d42_4) rfl
  obtain ⟨rfl, Nq2, e2⟩ := hQ2
  replace N := Fr.app N Nq2
  refine gb m T2 7 LL1 [] (st2) ?_
  refine sC 8 (0 : Int32) X2 hx (B d42_7) rfl rfl ?_
  let LL3 : Array Slot := #[.val (.ref tb), .val (.int (0 : Int32)), .val (.ref da), .val (.int (0 : Int32)), .val (.int (nI xm)), .val (.int (0 : Int32)), .unset]
  refine gb m T2 10 LL3 [] (fun _ k => XS.istore X2.here hx rfl (B d42_8) rfl (l' := LL3) rfl k) ?_
  have LP4 : ∀ (fu4 : Nat) (i0 : Nat) (f0 : Nat → Int32) (s6 : Slot) (Tq4 : State) (hq4 : Heap) (Lq4 : List Loc), (fu4 + i0 = xm) → (Lat i0 f0 ch) → (s6 = .unset ∨ ∃ z, s6 = .val (.int z)) → (Stand p l e (rk 3 0 0 43) s m #[(.ref tb), (.int (0 : Int32)), (.ref da), (.int (0 : Int32)), (.int (nI xm))] below meth c Tq4 Lq4 0 0) → (Tq4.heap = hq4) → (Old Z n0 hq4) → (Keep h0 hq4 [da]) → (Fr n0 Lq4) → (Arv Z hq4 tb kt .byte (nI (2 * xn)) (cont (2 * xn) ft) (.int 0)) → (Arv Z hq4 da kd .byte (nI xm) (cont xm f0) (.int 0)) → Go p e below (fun o U' => ∃ v L, o = .returned v ∧ Qcp Z da xm ch h0 n0 v U'.heap L ∧ FrameEnd s o U' L (rk 3 0 0 43).cells (rk 3 0 0 43).slots) Tq4 (mkF m 10 #[.val (.ref tb), .val (.int (nI i0)), .val (.ref da), .val (.int (nI i0)), .val (.int (nI xm)), .val (.int (nI i0)), s6] []) := by
   intro fu4
   induction fu4 with
   | zero =>
    intro i0 f0 s6 Tq4 hq4 Lq4 hfu4 hL0 hs6 Xq4 eq4 O K N V_t V_d
    refine tI 12 Xq4 hx (B d42_10) rfl rfl ?_
    refine tI 14 Xq4 hx (B d42_12) rfl rfl ?_
    refine gb m Tq4 53 #[.val (.ref tb), .val (.int (nI i0)), .val (.ref da), .val (.int (nI i0)), .val (.int (nI xm)), .val (.int (nI i0)), s6] [] (fun _ k => XS.icmpYes Xq4.here hx rfl (pc0 := 14) (pc' := 53) rfl (B d42_14) rfl (flt (mt (own_nlt (a := i0) (b := xm) (by omega) (by omega)).mp (by omega))).2.1 (by decide) (by decide) k) ?_
    refine tI 55 Xq4 hx (B d42_53) rfl rfl ?_
    obtain ⟨fs, hr, hrun, hended, hW, hsame⟩ := Xq4.leave (v := some (.int (nI xm))) (fun h => by rw [Bd.returns] at h; cases h)
    refine ⟨_, _, retOut Xq4 hx Bd.returns rfl (Or.inl ⟨rfl, Or.inl rfl, _, rfl⟩) (B d42_55) hr, hrun, hended, _, _, rfl, ?_, ⟨_, rfl⟩, hW, hsame.mono (by decide) (by decide)⟩
    show Qcp Z da xm ch h0 n0 (some (.int (nI xm))) Tq4.heap _
    rw [eq4]
    exact ⟨xm, _, _, rfl, N, K, V_d, by omega, (by rw [show xm = i0 by omega]; exact hL0), fun _ => by omega⟩
   | succ fu4 ih =>
    intro i0 f0 s6 Tq4 hq4 Lq4 hfu4 hL0 hs6 Xq4 eq4 O K N V_t V_d
    refine tI 12 Xq4 hx (B d42_10) rfl rfl ?_
    refine tI 14 Xq4 hx (B d42_12) rfl rfl ?_
    refine gb m Tq4 17 #[.val (.ref tb), .val (.int (nI i0)), .val (.ref da), .val (.int (nI i0)), .val (.int (nI xm)), .val (.int (nI i0)), s6] [] (fun _ k => XS.icmpNo Xq4.here hx rfl (B d42_14) rfl (tlt ((own_nlt (a := i0) (b := xm) (by omega) (by omega)).mpr (by omega))).2.1 k) ?_
    have hci := hch i0
    refine sA 18 Xq4 hx (B d42_17) rfl rfl rfl ?_
    refine sI 19 Xq4 hx (B d42_18) rfl rfl ?_
    have hy7_0 : xn < 100000 := by omega
    have hy7_1 : i0 < xn := by omega
    have hy7_2 : (ch i0) < 65536 := by omega
    obtain ⟨v7, T7, Lc7, X7, hQ7, st7⟩ := cS #[.val (.ref tb), .val (.int (nI i0)), .val (.ref da), .val (.int (nI i0)), .val (.int (nI xm)), .val (.int (nI i0)), s6] [] Xq4 hx hZ hown hw eq4 hml 249 250 23 251 rfl rfl rfl rfl (by decide) (rm_gc l Z a0 hw [] tb _ xn ft i0 (ch i0) zc fm hS0 hq4 n0 O V_t hy7_0 hy7_1 hy7_2 (hR i0 (by omega))) pd11 rfl rfl (B d42_19) rfl
    obtain ⟨rfl, Nq7, e7⟩ := hQ7
    replace N := Fr.app N Nq7
    refine gb m T7 22 #[.val (.ref tb), .val (.int (nI i0)), .val (.ref da), .val (.int (nI i0)), .val (.int (nI xm)), .val (.int (nI i0)), s6] [(.int (nI (ch i0)))] (st7) ?_
    refine gb m T7 24 #[.val (.ref tb), .val (.int (nI i0)), .val (.ref da), .val (.int (nI i0)), .val (.int (nI xm)), .val (.int (nI i0)), .val (.int (nI (ch i0)))] [] (fun _ k => XS.istore X7.here hx rfl (B d42_22) rfl (l' := #[.val (.ref tb), .val (.int (nI i0)), .val (.ref da), .val (.int (nI i0)), .val (.int (nI xm)), .val (.int (nI i0)), .val (.int (nI (ch i0)))]) (by rcases hs6 with rfl | ⟨z6, rfl⟩ <;> rfl) k) ?_
    refine tI 26 X7 hx (B d42_24) rfl rfl ?_
    refine sS 29 (255 : Int32) X7 hx (B d42_26) rfl rfl ?_
    by_cases hc29_8 : 255 < (ch i0)
    ·
     refine gb m T7 32 #[.val (.ref tb), .val (.int (nI i0)), .val (.ref da), .val (.int (nI i0)), .val (.int (nI xm)), .val (.int (nI i0)), .val (.int (nI (ch i0)))] [] (fun _ k => XS.icmpNo X7.here hx rfl (B d42_29) rfl (tlt ((own_nlt (a := 255) (b := (ch i0)) (by omega) (by omega)).mpr hc29_8)).2.2.2 k) ?_
     refine tI 34 X7 hx (B d42_32) rfl rfl ?_
     obtain ⟨fs, hr, hrun, hended, hW, hsame⟩ := X7.leave (v := some (.int (nI i0))) (fun h => by rw [Bd.returns] at h; cases h)
     refine ⟨_, _, retOut X7 hx Bd.returns rfl (Or.inl ⟨rfl, Or.inl rfl, _, rfl⟩) (B d42_34) hr, hrun, hended, _, _, rfl, ?_, ⟨_, rfl⟩, hW, hsame.mono (by decide) (by decide)⟩
     show Qcp Z da xm ch h0 n0 (some (.int (nI i0))) T7.heap _
     rw [e7]
     exact ⟨i0, _, _, rfl, N, K, V_d, by omega, hL0, fun _ => by omega⟩
    ·
     refine gb m T7 35 #[.val (.ref tb), .val (.int (nI i0)), .val (.ref da), .val (.int (nI i0)), .val (.int (nI xm)), .val (.int (nI i0)), .val (.int (nI (ch i0)))] [] (fun _ k => XS.icmpYes X7.here hx rfl (pc0 := 29) (pc' := 35) rfl (B d42_29) rfl (flt (mt (own_nlt (a := 255) (b := (ch i0)) (by omega) (by omega)).mp hc29_8)).2.2.2 (by decide) (by decide) k) ?_
     refine sA 36 X7 hx (B d42_35) rfl rfl rfl ?_
     refine sI 37 X7 hx (B d42_36) rfl rfl ?_
     refine tI 39 X7 hx (B d42_37) rfl rfl ?_
     refine gb m T7 40 #[.val (.ref tb), .val (.int (nI i0)), .val (.ref da), .val (.int (nI i0)), .val (.int (nI xm)), .val (.int (nI i0)), .val (.int (nI (ch i0)))] [(.int ((nI (ch i0)).toInt8.toInt32)), (.int (nI i0)), (.ref da)] (fun _ k => XS.i2b X7.here hx rfl (B d42_39) rfl k) ?_
     obtain ⟨cl9, Ar9, q9, S9, N9', H9, G9⟩ := id V_d
     obtain ⟨T9, h9, X9, e9, W9, st9⟩ := stB X7 hx hZ e7 Ar9 (j := (nI i0)) (inb_of S9 ⟨own_neg (a := i0) (by omega), (own_nlt (a := i0) (b := xm) (by omega) (by omega)).mpr (by omega)⟩) (g := (mkF m 40 #[.val (.ref tb), .val (.int (nI i0)), .val (.ref da), .val (.int (nI i0)), .val (.int (nI xm)), .val (.int (nI i0)), .val (.int (nI (ch i0)))] [(.int ((nI (ch i0)).toInt8.toInt32)), (.int (nI i0)), (.ref da)])) rfl rfl (B d42_40)
     replace V_t := V_t.other W9 hne
     replace V_d := (show Arv Z h9 da _ .byte (nI xm) ((cont xm f0).set i0 (.int (nar .byte ((nI (ch i0)).toInt8.toInt32)))) (.int 0) from Arv.set Ar9 q9 S9 N9' H9 G9 (fits_nar_byte _) W9 i0 (own_nat (a := i0) (by omega)) (by rw [own_clen]; omega))
     rw [own_cset (by omega)] at V_d
     obtain ⟨fd9, hfd9⟩ : ∃ g, g = upd f0 i0 (nar .byte ((nI (ch i0)).toInt8.toInt32)) := ⟨_, rfl⟩
     rw [← hfd9] at V_d
     replace O := O.wr W9 g_da
     replace K := K.wr W9 (Or.inl (by simp))
     replace N := Fr.snoc X9 N g_da
     refine gb m T9 41 #[.val (.ref tb), .val (.int (nI i0)), .val (.ref da), .val (.int (nI i0)), .val (.int (nI xm)), .val (.int (nI i0)), .val (.int (nI (ch i0)))] [] (st9) ?_
     refine gb m T9 44 #[.val (.ref tb), .val (.int ((nI i0) + (1 : Int32))), .val (.ref da), .val (.int (nI i0)), .val (.int (nI xm)), .val (.int (nI i0)), .val (.int (nI (ch i0)))] [] (fun _ k => XS.iinc X9.here hx rfl (B d42_41) rfl (l' := #[.val (.ref tb), .val (.int ((nI i0) + (1 : Int32))), .val (.ref da), .val (.int (nI i0)), .val (.int (nI xm)), .val (.int (nI i0)), .val (.int (nI (ch i0)))]) rfl k) ?_
     rw [show ((nI i0) + (1 : Int32)) = (nI (i0 + 1)) from own_add _ _]
     refine gb m T9 47 #[.val (.ref tb), .val (.int (nI (i0 + 1))), .val (.ref da), .val (.int ((nI i0) + (1 : Int32))), .val (.int (nI xm)), .val (.int (nI i0)), .val (.int (nI (ch i0)))] [] (fun _ k => XS.iinc X9.here hx rfl (B d42_44) rfl (l' := #[.val (.ref tb), .val (.int (nI (i0 + 1))), .val (.ref da), .val (.int ((nI i0) + (1 : Int32))), .val (.int (nI xm)), .val (.int (nI i0)), .val (.int (nI (ch i0)))]) rfl k) ?_
     rw [show ((nI i0) + (1 : Int32)) = (nI (i0 + 1)) from own_add _ _]
     refine gb m T9 50 #[.val (.ref tb), .val (.int (nI (i0 + 1))), .val (.ref da), .val (.int (nI (i0 + 1))), .val (.int (nI xm)), .val (.int ((nI i0) + (1 : Int32))), .val (.int (nI (ch i0)))] [] (fun _ k => XS.iinc X9.here hx rfl (B d42_47) rfl (l' := #[.val (.ref tb), .val (.int (nI (i0 + 1))), .val (.ref da), .val (.int (nI (i0 + 1))), .val (.int (nI xm)), .val (.int ((nI i0) + (1 : Int32))), .val (.int (nI (ch i0)))]) rfl k) ?_
     rw [show ((nI i0) + (1 : Int32)) = (nI (i0 + 1)) from own_add _ _]
     refine gb m T9 10 #[.val (.ref tb), .val (.int (nI (i0 + 1))), .val (.ref da), .val (.int (nI (i0 + 1))), .val (.int (nI xm)), .val (.int (nI (i0 + 1))), .val (.int (nI (ch i0)))] [] (fun _ k => XS.goto X9.here hx rfl (pc0 := 50) (pc' := 10) rfl (B d42_50) (by decide) (by decide) k) ?_
     have hL9 := own_L0s hL0 (by omega) hfd9
     exact ih (i0 + 1) fd9 (.val (.int (nI (ch i0)))) T9 h9 _ (by omega) hL9 (Or.inr ⟨_, rfl⟩) X9 e9 O K N V_t V_d
  exact LP4 xm 0 fs (.unset) T2 h0 _ (by omega) (fun j hj => absurd hj (Nat.not_lt_zero j)) (Or.inl rfl) X2 e2 O K N V_t V_d

theorem d43_0 : decode c43 0 = .ok (.iload_n 2, 1) := by decide +kernel
theorem d43_1 : decode c43 1 = .ok (.newarray .byte, 2) := by decide +kernel
theorem d43_3 : decode c43 3 = .ok (.astore_n 3, 1) := by decide +kernel
theorem d43_4 : decode c43 4 = .ok (.aload_n 0, 1) := by decide +kernel
theorem d43_5 : decode c43 5 = .ok (.iload_n 1, 1) := by decide +kernel
theorem d43_6 : decode c43 6 = .ok (.aload_n 3, 1) := by decide +kernel
theorem d43_7 : decode c43 7 = .ok (.iconst 0, 1) := by decide +kernel
theorem d43_8 : decode c43 8 = .ok (.iload_n 2, 1) := by decide +kernel
theorem d43_9 : decode c43 9 = .ok (.invokestatic 123, 3) := by decide +kernel
theorem d43_12 : decode c43 12 = .ok (.istore 4, 2) := by decide +kernel
theorem d43_14 : decode c43 14 = .ok (.iload 4, 2) := by decide +kernel
theorem d43_16 : decode c43 16 = .ok (.iload_n 2, 1) := by decide +kernel
theorem d43_17 : decode c43 17 = .ok (.if_icmp .eq 47, 3) := by decide +kernel
theorem d43_20 : decode c43 20 = .ok (.aload_n 0, 1) := by decide +kernel
theorem d43_21 : decode c43 21 = .ok (.iload_n 1, 1) := by decide +kernel
theorem d43_22 : decode c43 22 = .ok (.iconst 1, 1) := by decide +kernel
theorem d43_23 : decode c43 23 = .ok (.ishl, 1) := by decide +kernel
theorem d43_24 : decode c43 24 = .ok (.iload_n 1, 1) := by decide +kernel
theorem d43_25 : decode c43 25 = .ok (.iload_n 2, 1) := by decide +kernel
theorem d43_26 : decode c43 26 = .ok (.iadd, 1) := by decide +kernel
theorem d43_27 : decode c43 27 = .ok (.invokestatic 11, 3) := by decide +kernel
theorem d43_30 : decode c43 30 = .ok (.invokestatic 126, 3) := by decide +kernel
theorem d43_33 : decode c43 33 = .ok (.astore 5, 2) := by decide +kernel
theorem d43_35 : decode c43 35 = .ok (.aload 5, 2) := by decide +kernel
theorem d43_37 : decode c43 37 = .ok (.iload 4, 2) := by decide +kernel
theorem d43_39 : decode c43 39 = .ok (.invokestatic 71, 3) := by decide +kernel
theorem d43_42 : decode c43 42 = .ok (.sipush 255, 3) := by decide +kernel
theorem d43_45 : decode c43 45 = .ok (.if_icmp .gt 16, 3) := by decide +kernel
theorem d43_61 : decode c43 61 = .ok (.aload 5, 2) := by decide +kernel
theorem d43_63 : decode c43 63 = .ok (.areturn, 1) := by decide +kernel
theorem d43_64 : decode c43 64 = .ok (.aload_n 3, 1) := by decide +kernel
theorem d43_65 : decode c43 65 = .ok (.areturn, 1) := by decide +kernel
theorem pn_cm2 : plainFor (⟨"java/lang/StringUTF16", "compress", "([BII)[B"⟩ : MethodName) = true := plainFor_of_name (by first | (simp [plainName, overriddenIn]; done) | decide +kernel)
theorem pd24 : parseMethodDescriptor "([BI[BII)I" = some ⟨[(.array .byte), .int, (.array .byte), .int, .int], some .int⟩ := by decide +kernel
theorem ef_cm2 (m : MethodId) (x0 : Addr) (x2 : Int32) : entryFrame m #[(.ref x0), (.int (0 : Int32)), (.int x2)] 6 = mkF m 0 #[.val (.ref x0), .val (.int (0 : Int32)), .val (.int x2), .unset, .unset, .unset] [] := by first | (simp [entryFrame, mkF, argsToLocals, Value.category]; done) | rfl
theorem rm_cm2 (l : Launch) (Z : State) (a0 : Array Value) (hw : ∀ d ∈ tables_1, d.before a0 Z = true) (ws : List Jvm.Cond) (tb : Addr) (kt : ClassId) (xn : Nat) (ft : Nat → Int32) (ch : Nat → Nat) (xm : Nat) (zc : Int32) (fm : Value) (hS0 : Sf Z zc fm) (h0 : Heap) (n0 : Nat) (O : Old Z n0 h0) (V_t : Arv Z h0 tb kt .byte (nI (2 * xn)) (cont (2 * xn) ft) (.int 0)) (hch : ∀ i, ch i < 65536) (hR : Utf xn ft ch) (hy0 : xm < xn) (hy1 : xn ≤ 260) (hy2 : 0 < xm) :
    MF l Z h0 (⟨"java/lang/StringUTF16", "compress", "([BII)[B"⟩ : MethodName) c43 6 (some (.array .byte)) ws (rk 4 2 790 61) #[(.ref tb), (.int (0 : Int32)), (.int (nI xm))] (Qcm Z xm ch h0 n0) := by
  refine sg n0 [] pn_cm2 rfl (fun m => ef_cm2 m tb (nI xm)) fun p e s m below meth c s₁ Bd hml hZ hh hx B hown hnm X0 e0 N K => ?_
  let LL1 : Array Slot := #[.val (.ref tb), .val (.int (0 : Int32)), .val (.int (nI xm)), .unset, .unset, .unset]
  refine sI 1 X0 hx (B d43_0) rfl rfl ?_
  obtain ⟨T2, h2, k2, X2, e2, E2, A2, B2, st2⟩ := newPE X0 hx hZ (wv hw 25 rfl) e0 (g := (mkF m 1 LL1 [(.int (nI xm))])) rfl (B d43_1) (n := (nI xm)) rfl (own_neg (a := xm) (by omega)) (cap := 260) (by rw [own_nat (a := xm) (by omega)]; omega) (by decide) (by decide) (by decide) (ad := "[B") (by decide)
  obtain ⟨b2, g2⟩ : ∃ z, z = h0.size := ⟨_, rfl⟩
  rw [← g2] at A2 B2 st2
  have ne_tb_b2 : tb ≠ b2 := Nat.ne_of_lt (Nat.lt_of_lt_of_le V_t.lt (Nat.le_of_eq g2.symm))
  have g_b2 : n0 ≤ b2 := Nat.le_trans (Old.le O) (Nat.le_of_eq g2.symm)
  have sz_b2 : h0.size ≤ b2 := Nat.le_trans K.1 (Nat.le_of_eq g2.symm)
  replace V_t := V_t.ext E2
  replace O := O.ext E2
  replace K := K.ext E2
  have V_b2 : Arv Z h2 b2 k2 .byte (nI xm) (cont xm (fun _ => 0)) (.int 0) := own_cnew (Arv.new A2 (own_neg (a := xm) (by omega)))
  have E_b2 := B2
  obtain ⟨fz2, hfz2⟩ : ∃ g : Nat → Int32, g = fun _ => 0 := ⟨_, rfl⟩
  rw [← hfz2] at V_b2
  refine gb m T2 3 LL1 [(.ref b2)] (st2) ?_
  let LL3 : Array Slot := #[.val (.ref tb), .val (.int (0 : Int32)), .val (.int (nI xm)), .val (.ref b2), .unset, .unset]
  refine gb m T2 4 LL3 [] (fun _ k => XS.astoreN X2.here hx rfl (B d43_3) rfl rfl (l' := LL3) rfl k) ?_
  refine sA 5 X2 hx (B d43_4) rfl rfl rfl ?_
  refine sI 6 X2 hx (B d43_5) rfl rfl ?_
  refine sA 7 X2 hx (B d43_6) rfl rfl rfl ?_
  refine sC 8 (0 : Int32) X2 hx (B d43_7) rfl rfl ?_
  refine sI 9 X2 hx (B d43_8) rfl rfl ?_
  have hy4_0 : xm < xn := by omega
  have hy4_1 : xn ≤ 260 := by omega
  have hy4_2 : 0 < xm := by omega
  obtain ⟨v4, T4, Lc4, X4, hQ4, st4⟩ := cS LL3 [] X2 hx hZ hown hw e2 hml 278 279 23 280 rfl rfl rfl rfl (by decide) (rm_cmb l Z a0 hw [] tb _ xn ft ch xm zc fm hS0 b2 _ fz2 h2 n0 O V_t hch hR hy4_0 hy4_1 hy4_2 V_b2 g_b2 ne_tb_b2) pd24 rfl rfl (B d43_9) rfl
  obtain ⟨kn4, k24, fd4, rfl, Nq4, K4, Vt4, hkn4, hL4, hw4⟩ := hQ4
  replace N := Fr.app N Nq4
  replace V_t := V_t.keep K4 (ninS ne_tb_b2 nin0)
  replace E_b2 := E_b2.keep K4
  replace O := O.keep K4 (allS g_b2 all0)
  replace K := K.trans K4 (allS (Or.inr sz_b2) all0)
  refine gb m T4 12 LL3 [(.int (nI kn4))] (st4) ?_
  let LL5 : Array Slot := #[.val (.ref tb), .val (.int (0 : Int32)), .val (.int (nI xm)), .val (.ref b2), .val (.int (nI kn4)), .unset]
  refine gb m T4 14 LL5 [] (fun _ k => XS.istore X4.here hx rfl (B d43_12) rfl (l' := LL5) rfl k) ?_
  refine tI 16 X4 hx (B d43_14) rfl rfl ?_
  refine sI 17 X4 hx (B d43_16) rfl rfl ?_
  by_cases hc17_6 : kn4 = xm
  ·
   refine gb m T4 64 LL5 [] (fun _ k => XS.icmpYes X4.here hx rfl (pc0 := 17) (pc' := 64) rfl (B d43_17) rfl (teq ((own_neq (a := kn4) (b := xm) (by omega) (by omega)).mpr hc17_6)).1 (by decide) (by decide) k) ?_
   refine sA 65 X4 hx (B d43_64) rfl rfl rfl ?_
   obtain ⟨fs, hr, hrun, hended, hW, hsame⟩ := X4.leave (v := some (.ref b2)) (fun h => by rw [Bd.returns] at h; cases h)
   refine ⟨_, _, retOut X4 hx Bd.returns rfl (Or.inr (Or.inr (Or.inr (Or.inr ⟨rfl, rfl, rfl⟩)))) (B d43_65) hr, hrun, hended, _, _, rfl, ?_, ⟨_, rfl⟩, hW, hsame.mono (by decide) (by decide)⟩
   show Qcm Z xm ch h0 n0 (some (.ref b2)) T4.heap _
   exact ⟨_, _, 0, _, _, rfl, N, K, sz_b2, Vt4, E_b2, Or.inl ⟨rfl, rfl, by rw [show xm = kn4 by omega]; exact hL4⟩⟩
  ·
   refine gb m T4 20 LL5 [] (fun _ k => XS.icmpNo X4.here hx rfl (B d43_17) rfl (feq (mt (own_neq (a := kn4) (b := xm) (by omega) (by omega)).mp hc17_6)).1 k) ?_
   have hci := hch kn4
   have hwc := hw4 (by omega)
   refine sA 21 X4 hx (B d43_20) rfl rfl rfl ?_
   refine sI 22 X4 hx (B d43_21) rfl rfl ?_
   refine sC 23 (1 : Int32) X4 hx (B d43_22) rfl rfl ?_
   refine gb m T4 24 LL5 [(.int ((0 : Int32) <<< ((1 : Int32) &&& 31))), (.ref tb)] (fun _ k => XS.ishl X4.here hx rfl (B d43_23) rfl k) ?_
   rw [show ((0 : Int32) <<< ((1 : Int32) &&& 31)) = (0 : Int32) from by decide]
   refine sI 25 X4 hx (B d43_24) rfl rfl ?_
   refine sI 26 X4 hx (B d43_25) rfl rfl ?_
   refine gb m T4 27 LL5 [(.int ((0 : Int32) + (nI xm))), (.int (0 : Int32)), (.ref tb)] (fun _ k => XS.iadd X4.here hx rfl (B d43_26) rfl k) ?_
   rw [show ((0 : Int32) + (nI xm)) = (nI xm) from Int32.zero_add _]
   have hy7_0 : xm < 100000 := by omega
   obtain ⟨v7, T7, Lc7, X7, hQ7, st7⟩ := cS LL5 [(.int (0 : Int32)), (.ref tb)] X4 hx hZ hown hw rfl hml 239 240 23 241 rfl rfl rfl rfl (by decide) (rm_nbl l Z a0 hw [] xm   T4.heap n0 O hy7_0) pd6 rfl rfl (B d43_27) rfl
   obtain ⟨rfl, Nq7, e7⟩ := hQ7
   replace N := Fr.app N Nq7
   refine gb m T7 30 LL5 [(.int (nI (2 * xm))), (.int (0 : Int32)), (.ref tb)] (st7) ?_
   have hy8_0 : (2 * xm) < (2 * xn) := by omega
   have hy8_1 : (2 * xn) ≤ 1100 := by omega
   have hy8_2 : (2 * xm) ≤ 530 := by omega
   obtain ⟨v8, T8, Lc8, X8, hQ8, st8⟩ := cS LL5 [] X7 hx hZ hown hw e7 hml 293 109 110 111 rfl rfl rfl rfl (by decide) (rm_cor l Z a0 hw [] tb _ (2 * xn) ft (2 * xm) T4.heap n0 O V_t hy8_0 hy8_1 hy8_2) pd21 rfl rfl (B d43_30) rfl
   obtain ⟨r8, k28, fd8, rfl, Nq8, K8, gr8, Vr8, Er8, hP8⟩ := hQ8
   replace N := Fr.app N Nq8
   have sz_r8 : h0.size ≤ r8 := Nat.le_trans K.1 gr8
   replace V_t := V_t.keep K8 nin0
   replace E_b2 := E_b2.keep K8
   replace Vt4 := Vt4.keep K8 nin0
   replace O := O.keep K8 all0
   replace K := K.trans K8 all0
   refine gb m T8 33 LL5 [(.ref r8)] (st8) ?_
   let LL9 : Array Slot := #[.val (.ref tb), .val (.int (0 : Int32)), .val (.int (nI xm)), .val (.ref b2), .val (.int (nI kn4)), .val (.ref r8)]
   refine gb m T8 35 LL9 [] (fun _ k => XS.astore X8.here hx rfl (B d43_33) rfl rfl (l' := LL9) rfl k) ?_
   have hLm := own_L1m hP8 (by omega) hR
   refine tA 37 X8 hx (B d43_35) rfl rfl rfl ?_
   refine tI 39 X8 hx (B d43_37) rfl rfl ?_
   have hy10_0 : xm < 100000 := by omega
   have hy10_1 : kn4 < xm := by omega
   have hy10_2 : (ch kn4) < 65536 := by omega
   obtain ⟨v10, T10, Lc10, X10, hQ10, st10⟩ := cS LL9 [] X8 hx hZ hown hw rfl hml 249 250 23 251 rfl rfl rfl rfl (by decide) (rm_gc l Z a0 hw [] r8 _ xm fd8 kn4 (ch kn4) zc fm hS0 T8.heap n0 O Vr8 hy10_0 hy10_1 hy10_2 (hLm kn4 (by omega))) pd11 rfl rfl (B d43_39) rfl
   obtain ⟨rfl, Nq10, e10⟩ := hQ10
   replace N := Fr.app N Nq10
   refine gb m T10 42 LL9 [(.int (nI (ch kn4)))] (st10) ?_
   refine sS 45 (255 : Int32) X10 hx (B d43_42) rfl rfl ?_
   refine gb m T10 61 LL9 [] (fun _ k => XS.icmpYes X10.here hx rfl (pc0 := 45) (pc' := 61) rfl (B d43_45) rfl (tlt ((own_nlt (a := 255) (b := (ch kn4)) (by omega) (by omega)).mpr (by omega))).2.2.1 (by decide) (by decide) k) ?_
   refine tA 63 X10 hx (B d43_61) rfl rfl rfl ?_
   obtain ⟨fs, hr, hrun, hended, hW, hsame⟩ := X10.leave (v := some (.ref r8)) (fun h => by rw [Bd.returns] at h; cases h)
   refine ⟨_, _, retOut X10 hx Bd.returns rfl (Or.inr (Or.inr (Or.inr (Or.inr ⟨rfl, rfl, rfl⟩)))) (B d43_63) hr, hrun, hended, _, _, rfl, ?_, ⟨_, rfl⟩, hW, hsame.mono (by decide) (by decide)⟩
   show Qcm Z xm ch h0 n0 (some (.ref r8)) T10.heap _
   rw [e10]
   exact ⟨_, _, 1, _, _, rfl, N, K, sz_r8, Vr8, Er8, Or.inr ⟨rfl, rfl, hLm⟩⟩

theorem d44_0 : decode c44 0 = .ok (.iload_n 2, 1) := by decide +kernel
theorem d44_1 : decode c44 1 = .ok (.ifCond .ne 7, 3) := by decide +kernel
theorem d44_8 : decode c44 8 = .ok (.getstatic 251, 3) := by decide +kernel
theorem d44_11 : decode c44 11 = .ok (.ifCond .eq 28, 3) := by decide +kernel
theorem d44_14 : decode c44 14 = .ok (.aload_n 0, 1) := by decide +kernel
theorem d44_15 : decode c44 15 = .ok (.iload_n 1, 1) := by decide +kernel
theorem d44_16 : decode c44 16 = .ok (.iload_n 2, 1) := by decide +kernel
theorem d44_17 : decode c44 17 = .ok (.invokestatic 257, 3) := by decide +kernel
theorem d44_20 : decode c44 20 = .ok (.astore_n 3, 1) := by decide +kernel
theorem d44_21 : decode c44 21 = .ok (.aload_n 3, 1) := by decide +kernel
theorem d44_22 : decode c44 22 = .ok (.iload_n 2, 1) := by decide +kernel
theorem d44_23 : decode c44 23 = .ok (.invokestatic 259, 3) := by decide +kernel
theorem d44_26 : decode c44 26 = .ok (.istore 4, 2) := by decide +kernel
theorem d44_28 : decode c44 28 = .ok (.new 3, 3) := by decide +kernel
theorem d44_31 : decode c44 31 = .ok (.dup, 1) := by decide +kernel
theorem d44_32 : decode c44 32 = .ok (.aload_n 3, 1) := by decide +kernel
theorem d44_33 : decode c44 33 = .ok (.iload 4, 2) := by decide +kernel
theorem d44_35 : decode c44 35 = .ok (.invokespecial 263, 3) := by decide +kernel
theorem d44_38 : decode c44 38 = .ok (.areturn, 1) := by decide +kernel
theorem pn_uns : plainFor (⟨"java/lang/StringUTF16", "newString", "([BII)Ljava/lang/String;"⟩ : MethodName) = true := plainFor_of_name (by first | (simp [plainName, overriddenIn]; done) | decide +kernel)
theorem ef_uns (m : MethodId) (x0 : Addr) (x2 : Int32) : entryFrame m #[(.ref x0), (.int (0 : Int32)), (.int x2)] 5 = mkF m 0 #[.val (.ref x0), .val (.int (0 : Int32)), .val (.int x2), .unset, .unset] [] := by first | (simp [entryFrame, mkF, argsToLocals, Value.category]; done) | rfl
theorem rm_uns (l : Launch) (Z : State) (a0 : Array Value) (hw : ∀ d ∈ tables_1, d.before a0 Z = true) (ws : List Jvm.Cond) (tb : Addr) (kt : ClassId) (xn : Nat) (ft : Nat → Int32) (ch : Nat → Nat) (xm : Nat) (zc : Int32) (fm : Value) (hS0 : Sf Z zc fm) (h0 : Heap) (n0 : Nat) (O : Old Z n0 h0) (V_t : Arv Z h0 tb kt .byte (nI (2 * xn)) (cont (2 * xn) ft) (.int 0)) (hch : ∀ i, ch i < 65536) (hR : Utf xn ft ch) (hy0 : xm < xn) (hy1 : xn ≤ 260) (hy2 : 0 < xm) :
    MF l Z h0 (⟨"java/lang/StringUTF16", "newString", "([BII)Ljava/lang/String;"⟩ : MethodName) c44 5 (some (.object "java/lang/String")) ws (rk 5 3 794 78) #[(.ref tb), (.int (0 : Int32)), (.int (nI xm))] (Qst Z xm ch h0 n0) := by
  refine sg n0 [] pn_uns rfl (fun m => ef_uns m tb (nI xm)) fun p e s m below meth c s₁ Bd hml hZ hh hx B hown hnm X0 e0 N K => ?_
  let LL1 : Array Slot := #[.val (.ref tb), .val (.int (0 : Int32)), .val (.int (nI xm)), .unset, .unset]
  refine sI 1 X0 hx (B d44_0) rfl rfl ?_
  refine gb m s₁ 8 LL1 [] (fun _ k => XS.ifYes X0.here hx rfl (pc0 := 1) (pc' := 8) rfl (B d44_1) rfl ((if0 _ _).trans (feq (mt (own_neq (a := xm) (b := 0) (by omega) (by omega)).mp (by omega))).2) (by decide) (by decide) k) ?_
  obtain ⟨T3, X3, e3, st3⟩ := getS2 X0 hx hZ hown (host := "") (Or.inl (wv hw 274 rfl)) Via.refl e0 (Sta.ext O.2 hS0.1) (g := (mkF m 8 LL1 [])) rfl (B d44_8)
  refine gb m T3 11 LL1 [(.int zc)] (st3) ?_
  refine gb m T3 14 LL1 [] (fun _ k => XS.ifNo X3.here hx rfl (B d44_11) rfl ((if0 _ _).trans (feq hS0.2.1).1) k) ?_
  refine sA 15 X3 hx (B d44_14) rfl rfl rfl ?_
  refine sI 16 X3 hx (B d44_15) rfl rfl ?_
  refine sI 17 X3 hx (B d44_16) rfl rfl ?_
  have hy5_0 : xm < xn := by omega
  have hy5_1 : xn ≤ 260 := by omega
  have hy5_2 : 0 < xm := by omega
  obtain ⟨v5, T5, Lc5, X5, hQ5, st5⟩ := cS LL1 [] X3 hx hZ hown hw e3 hml 275 276 23 277 rfl rfl rfl rfl (by decide) (rm_cm2 l Z a0 hw [] tb _ xn ft ch xm zc fm hS0 h0 n0 O V_t hch hR hy5_0 hy5_1 hy5_2) pd21 rfl rfl (B d44_17) rfl
  obtain ⟨r5, k25, cd5, lb5, fd5, rfl, Nq5, K5, gr5, Vr5, Er5, hR5⟩ := hQ5
  replace N := Fr.app N Nq5
  have sz_r5 : h0.size ≤ r5 := Nat.le_trans K.1 gr5
  replace V_t := V_t.keep K5 nin0
  replace O := O.keep K5 all0
  replace K := K.trans K5 all0
  rcases hR5 with ⟨rfl, rfl, hR5⟩ | ⟨rfl, rfl, hR5⟩
  ·
   refine gb m T5 20 LL1 [(.ref r5)] (st5) ?_
   let LL6 : Array Slot := #[.val (.ref tb), .val (.int (0 : Int32)), .val (.int (nI xm)), .val (.ref r5), .unset]
   refine gb m T5 21 LL6 [] (fun _ k => XS.astoreN X5.here hx rfl (B d44_20) rfl rfl (l' := LL6) rfl k) ?_
   refine sA 22 X5 hx (B d44_21) rfl rfl rfl ?_
   refine sI 23 X5 hx (B d44_22) rfl rfl ?_
   have hy7_0 : xm ≤ 260 := by omega
   have hy7_1 : 0 < xm := by omega
   obtain ⟨v7, T7, Lc7, X7, hQ7, st7⟩ := cS LL6 [] X5 hx hZ hown hw rfl hml 294 30 23 31 rfl rfl rfl rfl (by decide) (rm_cfa0 l Z a0 hw [] r5 _ xm fd5 T5.heap n0 O Vr5 hy7_0 hy7_1) pd12 rfl rfl (B d44_23) rfl
   obtain ⟨rfl, Nq7, e7⟩ := hQ7
   replace N := Fr.app N Nq7
   refine gb m T7 26 LL6 [(.int (0 : Int32))] (st7) ?_
   let LL8 : Array Slot := #[.val (.ref tb), .val (.int (0 : Int32)), .val (.int (nI xm)), .val (.ref r5), .val (.int (0 : Int32))]
   refine gb m T7 28 LL8 [] (fun _ k => XS.istore X7.here hx rfl (B d44_26) rfl (l' := LL8) rfl k) ?_
   obtain ⟨T9, h9, X9, e9, E9, A9, D9, -, st9⟩ := newO X7 hx hZ hown (wv hw 295 rfl) (wv hw 8 rfl) (wv hw 9 rfl) e7 (g := (mkF m 28 LL8 [])) rfl (B d44_28) (by decide) (by decide)
   obtain ⟨b9, g9⟩ : ∃ z, z = T5.heap.size := ⟨_, rfl⟩
   rw [← g9] at A9 D9 st9
   have ne_tb_b9 : tb ≠ b9 := Nat.ne_of_lt (Nat.lt_of_lt_of_le V_t.lt (Nat.le_of_eq g9.symm))
   have ne_r5_b9 : r5 ≠ b9 := Nat.ne_of_lt (Nat.lt_of_lt_of_le Vr5.lt (Nat.le_of_eq g9.symm))
   have g_b9 : n0 ≤ b9 := Nat.le_trans (Old.le O) (Nat.le_of_eq g9.symm)
   have sz_b9 : h0.size ≤ b9 := Nat.le_trans K.1 (Nat.le_of_eq g9.symm)
   replace V_t := V_t.ext E9
   replace Vr5 := Vr5.ext E9
   replace Er5 := Er5.ext E9
   replace O := O.ext E9
   replace K := K.ext E9
   have E_b9 := A9
   have F_coder_b9 : Fld Z h9 b9 "java/lang/String" "coder" "B" (.int (0 : Int32)) := D9 (Or.inr (wv hw 33 rfl)) (ty := .byte) (by decide)
   have F_value_b9 : Fld Z h9 b9 "java/lang/String" "value" "[B" .null := D9 (Or.inr (wv hw 35 rfl)) (ty := (.array .byte)) (by decide)
   refine gb m T9 31 LL8 [(.ref b9)] (st9) ?_
   refine gb m T9 32 LL8 [(.ref b9), (.ref b9)] (fun _ k => XS.dup X9.here hx rfl (B d44_31) rfl rfl k) ?_
   refine sA 33 X9 hx (B d44_32) rfl rfl rfl ?_
   refine tI 35 X9 hx (B d44_33) rfl rfl ?_
   obtain ⟨v10, _, ⟨T10, L10, k10, n10⟩, -, X10, ⟨Lc10, hQ10, l10, y10, z10⟩, st10⟩ := X9.specialBack hx (y := (⟨"java/lang/String", "<init>", "([BB)V"⟩ : MethodName)) rfl hown (mvT hZ (wv hw 296 rfl)) (mvT hZ (wv hw 127 rfl)) (mvT hZ (wv hw 128 rfl)) (by decide) (backOf (W := 1) (rm_ibb0 l Z a0 hw [] b9 r5 h9 n0 O E_b9 F_value_b9 F_coder_b9 g_b9) hZ (wv hw 128 rfl) (wv hw 9 rfl) (by decide) (by decide)) (g := (mkF m 35 LL8 [(.int (0 : Int32)), (.ref r5), (.ref b9), (.ref b9)])) rfl (by rw [hml]; rfl) (Steps.refl _) (a := b9) (argsL := [(.ref r5), (.int (0 : Int32))]) (rest := [(.ref b9)]) (lenOf pd22 rfl) rfl (by show 2 * 0 + _ ≤ _; exact Nat.le_of_eq rfl) (B d44_35) (fun _ _ => ⟨rfl, e9, (by decide : 3 + 0 ≤ _), (by decide : 794 + 0 ≤ _)⟩)
   dsimp only [Pt.U, Pt.locs, Pt.cells, Pt.slots] at X10 l10 y10 z10 st10 hQ10
   rw [l10, y10, z10] at X10; clear l10 y10 z10
   obtain ⟨rfl, Nq10, K10, Gv10, Gc10⟩ := hQ10
   replace N := Fr.app N Nq10
   replace V_t := V_t.keep K10 (ninS ne_tb_b9 nin0)
   replace Vr5 := Vr5.keep K10 (ninS ne_r5_b9 nin0)
   replace Er5 := Er5.keep K10
   replace E_b9 := E_b9.keep K10
   replace O := O.keep K10 (allS g_b9 all0)
   replace K := K.trans K10 (allS (Or.inr sz_b9) all0)
   refine gb m T10 38 LL8 [(.ref b9)] (fun _ k => st10.trans k) ?_
   obtain ⟨fs, hr, hrun, hended, hW, hsame⟩ := X10.leave (v := some (.ref b9)) (fun h => by rw [Bd.returns] at h; cases h)
   refine ⟨_, _, retOut X10 hx Bd.returns rfl (Or.inr (Or.inr (Or.inr (Or.inr ⟨rfl, rfl, rfl⟩)))) (B d44_38) hr, hrun, hended, _, _, rfl, ?_, ⟨_, rfl⟩, hW, hsame.mono (by decide) (by decide)⟩
   show Qst Z xm ch h0 n0 (some (.ref b9)) T10.heap _
   exact ⟨_, _, _, _, _, _, rfl, N, K, sz_b9, sz_r5, E_b9, Gv10, Gc10, Vr5, Er5, Or.inl ⟨rfl, rfl, hR5⟩⟩
  ·
   refine gb m T5 20 LL1 [(.ref r5)] (st5) ?_
   let LL11 : Array Slot := #[.val (.ref tb), .val (.int (0 : Int32)), .val (.int (nI xm)), .val (.ref r5), .unset]
   refine gb m T5 21 LL11 [] (fun _ k => XS.astoreN X5.here hx rfl (B d44_20) rfl rfl (l' := LL11) rfl k) ?_
   refine sA 22 X5 hx (B d44_21) rfl rfl rfl ?_
   refine sI 23 X5 hx (B d44_22) rfl rfl ?_
   have hy12_0 : xm ≤ 260 := by omega
   have hy12_1 : 0 < xm := by omega
   obtain ⟨v12, T12, Lc12, X12, hQ12, st12⟩ := cS LL11 [] X5 hx hZ hown hw rfl hml 294 30 23 31 rfl rfl rfl rfl (by decide) (rm_cfa1 l Z a0 hw [] r5 _ xm fd5 T5.heap n0 O Vr5 hy12_0 hy12_1) pd12 rfl rfl (B d44_23) rfl
   obtain ⟨rfl, Nq12, e12⟩ := hQ12
   replace N := Fr.app N Nq12
   refine gb m T12 26 LL11 [(.int (1 : Int32))] (st12) ?_
   let LL13 : Array Slot := #[.val (.ref tb), .val (.int (0 : Int32)), .val (.int (nI xm)), .val (.ref r5), .val (.int (1 : Int32))]
   refine gb m T12 28 LL13 [] (fun _ k => XS.istore X12.here hx rfl (B d44_26) rfl (l' := LL13) rfl k) ?_
   obtain ⟨T14, h14, X14, e14, E14, A14, D14, -, st14⟩ := newO X12 hx hZ hown (wv hw 295 rfl) (wv hw 8 rfl) (wv hw 9 rfl) e12 (g := (mkF m 28 LL13 [])) rfl (B d44_28) (by decide) (by decide)
   obtain ⟨b14, g14⟩ : ∃ z, z = T5.heap.size := ⟨_, rfl⟩
   rw [← g14] at A14 D14 st14
   have ne_tb_b14 : tb ≠ b14 := Nat.ne_of_lt (Nat.lt_of_lt_of_le V_t.lt (Nat.le_of_eq g14.symm))
   have ne_r5_b14 : r5 ≠ b14 := Nat.ne_of_lt (Nat.lt_of_lt_of_le Vr5.lt (Nat.le_of_eq g14.symm))
   have g_b14 : n0 ≤ b14 := Nat.le_trans (Old.le O) (Nat.le_of_eq g14.symm)
   have sz_b14 : h0.size ≤ b14 := Nat.le_trans K.1 (Nat.le_of_eq g14.symm)
   replace V_t := V_t.ext E14
   replace Vr5 := Vr5.ext E14
   replace Er5 := Er5.ext E14
   replace O := O.ext E14
   replace K := K.ext E14
   have E_b14 := A14
   have F_coder_b14 : Fld Z h14 b14 "java/lang/String" "coder" "B" (.int (0 : Int32)) := D14 (Or.inr (wv hw 33 rfl)) (ty := .byte) (by decide)
   have F_value_b14 : Fld Z h14 b14 "java/lang/String" "value" "[B" .null := D14 (Or.inr (wv hw 35 rfl)) (ty := (.array .byte)) (by decide)
   refine gb m T14 31 LL13 [(.ref b14)] (st14) ?_
   refine gb m T14 32 LL13 [(.ref b14), (.ref b14)] (fun _ k => XS.dup X14.here hx rfl (B d44_31) rfl rfl k) ?_
   refine sA 33 X14 hx (B d44_32) rfl rfl rfl ?_
   refine tI 35 X14 hx (B d44_33) rfl rfl ?_
   obtain ⟨v15, _, ⟨T15, L15, k15, n15⟩, -, X15, ⟨Lc15, hQ15, l15, y15, z15⟩, st15⟩ := X14.specialBack hx (y := (⟨"java/lang/String", "<init>", "([BB)V"⟩ : MethodName)) rfl hown (mvT hZ (wv hw 296 rfl)) (mvT hZ (wv hw 127 rfl)) (mvT hZ (wv hw 128 rfl)) (by decide) (backOf (W := 1) (rm_ibb1 l Z a0 hw [] b14 r5 h14 n0 O E_b14 F_value_b14 F_coder_b14 g_b14) hZ (wv hw 128 rfl) (wv hw 9 rfl) (by decide) (by decide)) (g := (mkF m 35 LL13 [(.int (1 : Int32)), (.ref r5), (.ref b14), (.ref b14)])) rfl (by rw [hml]; rfl) (Steps.refl _) (a := b14) (argsL := [(.ref r5), (.int (1 : Int32))]) (rest := [(.ref b14)]) (lenOf pd22 rfl) rfl (by show 2 * 0 + _ ≤ _; exact Nat.le_of_eq rfl) (B d44_35) (fun _ _ => ⟨rfl, e14, (by decide : 3 + 0 ≤ _), (by decide : 794 + 0 ≤ _)⟩)
   dsimp only [Pt.U, Pt.locs, Pt.cells, Pt.slots] at X15 l15 y15 z15 st15 hQ15
   rw [l15, y15, z15] at X15; clear l15 y15 z15
   obtain ⟨rfl, Nq15, K15, Gv15, Gc15⟩ := hQ15
   replace N := Fr.app N Nq15
   replace V_t := V_t.keep K15 (ninS ne_tb_b14 nin0)
   replace Vr5 := Vr5.keep K15 (ninS ne_r5_b14 nin0)
   replace Er5 := Er5.keep K15
   replace E_b14 := E_b14.keep K15
   replace O := O.keep K15 (allS g_b14 all0)
   replace K := K.trans K15 (allS (Or.inr sz_b14) all0)
   refine gb m T15 38 LL13 [(.ref b14)] (fun _ k => st15.trans k) ?_
   obtain ⟨fs, hr, hrun, hended, hW, hsame⟩ := X15.leave (v := some (.ref b14)) (fun h => by rw [Bd.returns] at h; cases h)
   refine ⟨_, _, retOut X15 hx Bd.returns rfl (Or.inr (Or.inr (Or.inr (Or.inr ⟨rfl, rfl, rfl⟩)))) (B d44_38) hr, hrun, hended, _, _, rfl, ?_, ⟨_, rfl⟩, hW, hsame.mono (by decide) (by decide)⟩
   show Qst Z xm ch h0 n0 (some (.ref b14)) T15.heap _
   exact ⟨_, _, _, _, _, _, rfl, N, K, sz_b14, sz_r5, E_b14, Gv15, Gc15, Vr5, Er5, Or.inr ⟨rfl, rfl, hR5⟩⟩

theorem d45_0 : decode c45 0 = .ok (.aload_n 0, 1) := by decide +kernel
theorem d45_1 : decode c45 1 = .ok (.invokevirtual 505, 3) := by decide +kernel
theorem d45_4 : decode c45 4 = .ok (.istore_n 3, 1) := by decide +kernel
theorem d45_5 : decode c45 5 = .ok (.iload_n 1, 1) := by decide +kernel
theorem d45_6 : decode c45 6 = .ok (.iload_n 2, 1) := by decide +kernel
theorem d45_7 : decode c45 7 = .ok (.iload_n 3, 1) := by decide +kernel
theorem d45_8 : decode c45 8 = .ok (.invokestatic 521, 3) := by decide +kernel
theorem d45_11 : decode c45 11 = .ok (.iload_n 1, 1) := by decide +kernel
theorem d45_12 : decode c45 12 = .ok (.ifCond .ne 10, 3) := by decide +kernel
theorem d45_15 : decode c45 15 = .ok (.iload_n 2, 1) := by decide +kernel
theorem d45_16 : decode c45 16 = .ok (.iload_n 3, 1) := by decide +kernel
theorem d45_17 : decode c45 17 = .ok (.if_icmp .ne 5, 3) := by decide +kernel
theorem d45_22 : decode c45 22 = .ok (.iload_n 2, 1) := by decide +kernel
theorem d45_23 : decode c45 23 = .ok (.iload_n 1, 1) := by decide +kernel
theorem d45_24 : decode c45 24 = .ok (.isub, 1) := by decide +kernel
theorem d45_25 : decode c45 25 = .ok (.istore 4, 2) := by decide +kernel
theorem d45_27 : decode c45 27 = .ok (.aload_n 0, 1) := by decide +kernel
theorem d45_28 : decode c45 28 = .ok (.invokevirtual 492, 3) := by decide +kernel
theorem d45_31 : decode c45 31 = .ok (.ifCond .eq 16, 3) := by decide +kernel
theorem d45_34 : decode c45 34 = .ok (.aload_n 0, 1) := by decide +kernel
theorem d45_35 : decode c45 35 = .ok (.getfield 9, 3) := by decide +kernel
theorem d45_38 : decode c45 38 = .ok (.iload_n 1, 1) := by decide +kernel
theorem d45_39 : decode c45 39 = .ok (.iload 4, 2) := by decide +kernel
theorem d45_41 : decode c45 41 = .ok (.invokestatic 685, 3) := by decide +kernel
theorem d45_44 : decode c45 44 = .ok (.goto 13, 3) := by decide +kernel
theorem d45_57 : decode c45 57 = .ok (.areturn, 1) := by decide +kernel
theorem pn_sub0 : plainFor (⟨"java/lang/String", "substring", "(II)Ljava/lang/String;"⟩ : MethodName) = true := plainFor_of_name (by first | (simp [plainName, overriddenIn]; done) | decide +kernel)
theorem pd25 : parseMethodDescriptor "()I" = some ⟨[], some .int⟩ := by decide +kernel
theorem pd26 : parseMethodDescriptor "(III)V" = some ⟨[.int, .int, .int], none⟩ := by decide +kernel
theorem pd27 : parseMethodDescriptor "([BII)Ljava/lang/String;" = some ⟨[(.array .byte), .int, .int], some (.object "java/lang/String")⟩ := by decide +kernel
theorem ef_sub0 (m : MethodId) (x0 : Addr) (x2 : Int32) : entryFrame m #[(.ref x0), (.int (0 : Int32)), (.int x2)] 5 = mkF m 0 #[.val (.ref x0), .val (.int (0 : Int32)), .val (.int x2), .unset, .unset] [] := by first | (simp [entryFrame, mkF, argsToLocals, Value.category]; done) | rfl
theorem rm_sub0 (l : Launch) (Z : State) (a0 : Array Value) (hw : ∀ d ∈ tables_1, d.before a0 Z = true) (ws : List Jvm.Cond) (x tx : Addr) (kx : ClassId) (xn : Nat) (fx : Nat → Int32) (ch : Nat → Nat) (xm : Nat) (zc : Int32) (fm : Value) (hS0 : Sf Z zc fm) (h0 : Heap) (n0 : Nat) (O : Old Z n0 h0) (E_x : Exa Z h0 x "java/lang/String") (Fv_x : Fld Z h0 x "java/lang/String" "value" "[B" (.ref tx)) (Fc_x : Fld Z h0 x "java/lang/String" "coder" "B" (.int 0)) (V_tx : Arv Z h0 tx kx .byte (nI xn) (cont xn fx) (.int 0)) (hxn : xn ≤ 300) (hch : ∀ i, ch i < 65536) (hR : Lat xn fx ch) (hy0 : xm < xn) (hy1 : xn ≤ 260) (hy2 : 0 < xm) :
    MF l Z h0 (⟨"java/lang/String", "substring", "(II)Ljava/lang/String;"⟩ : MethodName) c45 5 (some (.object "java/lang/String")) ws (rk 6 3 794 94) #[(.ref x), (.int (0 : Int32)), (.int (nI xm))] (Qst Z xm ch h0 n0) := by
  refine sg n0 [] pn_sub0 rfl (fun m => ef_sub0 m x (nI xm)) fun p e s m below meth c s₁ Bd hml hZ hh hx B hown hnm X0 e0 N K => ?_
  let LL1 : Array Slot := #[.val (.ref x), .val (.int (0 : Int32)), .val (.int (nI xm)), .unset, .unset]
  refine sA 1 X0 hx (B d45_0) rfl rfl rfl ?_
  have hs2_x : xn ≤ 300 := by omega
  obtain ⟨v2, T2, Lc2, X2, hQ2, st2⟩ := cV LL1 [] X0 hx hZ hown hw e0 hml E_x 96 41 43 42 9 44 rfl rfl rfl rfl rfl rfl (by decide) (rm_sl0 l Z a0 hw [] x tx _ xn fx   zc fm hS0 h0 n0 O E_x Fv_x Fc_x V_tx hs2_x  ) pd25 rfl rfl (B d45_1) rfl
  obtain ⟨rfl, Nq2, e2⟩ := hQ2
  replace N := Fr.app N Nq2
  refine gb m T2 4 LL1 [(.int (nI xn))] (st2) ?_
  let LL3 : Array Slot := #[.val (.ref x), .val (.int (0 : Int32)), .val (.int (nI xm)), .val (.int (nI xn)), .unset]
  refine gb m T2 5 LL3 [] (fun _ k => XS.istoreN X2.here hx rfl (B d45_4) rfl (l' := LL3) rfl k) ?_
  refine sI 6 X2 hx (B d45_5) rfl rfl ?_
  refine sI 7 X2 hx (B d45_6) rfl rfl ?_
  refine sI 8 X2 hx (B d45_7) rfl rfl ?_
  have hy4_0 : 0 ≤ xm := by omega
  have hy4_1 : xm ≤ xn := by omega
  have hy4_2 : xn < 1073741824 := by omega
  obtain ⟨v4, T4, Lc4, X4, hQ4, st4⟩ := cS LL3 [] X2 hx hZ hown hw e2 hml 97 98 9 99 rfl rfl rfl rfl (by decide) (rm_cbe l Z a0 hw [] 0 xm xn zc fm hS0  h0 n0 O hy4_0 hy4_1 hy4_2) pd26 rfl rfl (B d45_8) rfl
  obtain ⟨rfl, Nq4, e4⟩ := hQ4
  replace N := Fr.app N Nq4
  refine gb m T4 11 LL3 [] (st4) ?_
  refine sI 12 X4 hx (B d45_11) rfl rfl ?_
  refine gb m T4 15 LL3 [] (fun _ k => XS.ifNo X4.here hx rfl (B d45_12) rfl ((if0 _ _).trans (teq (by decide : (0 : Int32) = (0 : Int32))).2) k) ?_
  refine sI 16 X4 hx (B d45_15) rfl rfl ?_
  refine sI 17 X4 hx (B d45_16) rfl rfl ?_
  refine gb m T4 22 LL3 [] (fun _ k => XS.icmpYes X4.here hx rfl (pc0 := 17) (pc' := 22) rfl (B d45_17) rfl (feq (mt (own_neq (a := xm) (b := xn) (by omega) (by omega)).mp (by omega))).2 (by decide) (by decide) k) ?_
  refine sI 23 X4 hx (B d45_22) rfl rfl ?_
  refine sI 24 X4 hx (B d45_23) rfl rfl ?_
  refine gb m T4 25 LL3 [(.int ((nI xm) - (0 : Int32)))] (fun _ k => XS.isub X4.here hx rfl (B d45_24) rfl k) ?_
  rw [show ((nI xm) - (0 : Int32)) = (nI xm) from Int32.sub_zero _]
  let LL7 : Array Slot := #[.val (.ref x), .val (.int (0 : Int32)), .val (.int (nI xm)), .val (.int (nI xn)), .val (.int (nI xm))]
  refine gb m T4 27 LL7 [] (fun _ k => XS.istore X4.here hx rfl (B d45_25) rfl (l' := LL7) rfl k) ?_
  refine sA 28 X4 hx (B d45_27) rfl rfl rfl ?_
  have hs8_x : xn ≤ 300 := by omega
  obtain ⟨v8, T8, Lc8, X8, hQ8, st8⟩ := cV LL7 [] X4 hx hZ hown hw e4 hml E_x 55 56 58 57 9 59 rfl rfl rfl rfl rfl rfl (by decide) (rm_isl0 l Z a0 hw [] x tx _ xn fx   zc fm hS0 h0 n0 O E_x Fv_x Fc_x V_tx hs8_x  ) pd18 rfl rfl (B d45_28) rfl
  obtain ⟨rfl, Nq8, e8⟩ := hQ8
  replace N := Fr.app N Nq8
  refine gb m T8 31 LL7 [(.int (1 : Int32))] (st8) ?_
  refine gb m T8 34 LL7 [] (fun _ k => XS.ifNo X8.here hx rfl (B d45_31) rfl ((if0 _ _).trans (feq (by decide : ¬ ((1 : Int32) = (0 : Int32)))).1) k) ?_
  refine sA 35 X8 hx (B d45_34) rfl rfl rfl ?_
  obtain ⟨T10, X10, e10, st10⟩ := getF X8 hx hZ hown (host := "") (Or.inl (wv hw 34 rfl)) Via.refl e8 Fv_x (g := (mkF m 35 LL7 [(.ref x)])) rfl rfl (B d45_35)
  refine gb m T10 38 LL7 [(.ref tx)] (st10) ?_
  refine sI 39 X10 hx (B d45_38) rfl rfl ?_
  refine tI 41 X10 hx (B d45_39) rfl rfl ?_
  have hy11_0 : xm < xn := by omega
  have hy11_1 : xn ≤ 260 := by omega
  have hy11_2 : 0 < xm := by omega
  obtain ⟨v11, T11, Lc11, X11, hQ11, st11⟩ := cS LL7 [] X10 hx hZ hown hw e10 hml 103 104 105 106 rfl rfl rfl rfl (by decide) (rm_lns l Z a0 hw [] tx _ xn fx ch xm zc fm hS0 h0 n0 O V_tx hch hR hy11_0 hy11_1 hy11_2) pd27 rfl rfl (B d45_41) rfl
  obtain ⟨x11, r11, k211, cd11, lb11, fd11, rfl, Nq11, K11, gx11, gr11, Ex11, Gv11, Gc11, Vr11, Er11, hR11⟩ := hQ11
  replace N := Fr.app N Nq11
  have sz_x11 : h0.size ≤ x11 := Nat.le_trans K.1 gx11
  have sz_r11 : h0.size ≤ r11 := Nat.le_trans K.1 gr11
  replace E_x := E_x.keep K11
  replace Fv_x := Fv_x.keep K11 nin0
  replace Fc_x := Fc_x.keep K11 nin0
  replace V_tx := V_tx.keep K11 nin0
  replace O := O.keep K11 all0
  replace K := K.trans K11 all0
  refine gb m T11 44 LL7 [(.ref x11)] (st11) ?_
  refine gb m T11 57 LL7 [(.ref x11)] (fun _ k => XS.goto X11.here hx rfl (pc0 := 44) (pc' := 57) rfl (B d45_44) (by decide) (by decide) k) ?_
  obtain ⟨fs, hr, hrun, hended, hW, hsame⟩ := X11.leave (v := some (.ref x11)) (fun h => by rw [Bd.returns] at h; cases h)
  refine ⟨_, _, retOut X11 hx Bd.returns rfl (Or.inr (Or.inr (Or.inr (Or.inr ⟨rfl, rfl, rfl⟩)))) (B d45_57) hr, hrun, hended, _, _, rfl, ?_, ⟨_, rfl⟩, hW, hsame.mono (by decide) (by decide)⟩
  show Qst Z xm ch h0 n0 (some (.ref x11)) T11.heap _
  exact ⟨_, _, _, _, _, _, rfl, N, K, sz_x11, sz_r11, Ex11, Gv11, Gc11, Vr11, Er11, hR11⟩

theorem d45_47 : decode c45 47 = .ok (.aload_n 0, 1) := by decide +kernel
theorem d45_48 : decode c45 48 = .ok (.getfield 9, 3) := by decide +kernel
theorem d45_51 : decode c45 51 = .ok (.iload_n 1, 1) := by decide +kernel
theorem d45_52 : decode c45 52 = .ok (.iload 4, 2) := by decide +kernel
theorem d45_54 : decode c45 54 = .ok (.invokestatic 689, 3) := by decide +kernel
theorem pn_sub1 : plainFor (⟨"java/lang/String", "substring", "(II)Ljava/lang/String;"⟩ : MethodName) = true := plainFor_of_name (by first | (simp [plainName, overriddenIn]; done) | decide +kernel)
theorem ef_sub1 (m : MethodId) (x0 : Addr) (x2 : Int32) : entryFrame m #[(.ref x0), (.int (0 : Int32)), (.int x2)] 5 = mkF m 0 #[.val (.ref x0), .val (.int (0 : Int32)), .val (.int x2), .unset, .unset] [] := by first | (simp [entryFrame, mkF, argsToLocals, Value.category]; done) | rfl
theorem rm_sub1 (l : Launch) (Z : State) (a0 : Array Value) (hw : ∀ d ∈ tables_1, d.before a0 Z = true) (ws : List Jvm.Cond) (x tx : Addr) (kx : ClassId) (xn : Nat) (fx : Nat → Int32) (ch : Nat → Nat) (xm : Nat) (zc : Int32) (fm : Value) (hS0 : Sf Z zc fm) (h0 : Heap) (n0 : Nat) (O : Old Z n0 h0) (E_x : Exa Z h0 x "java/lang/String") (Fv_x : Fld Z h0 x "java/lang/String" "value" "[B" (.ref tx)) (Fc_x : Fld Z h0 x "java/lang/String" "coder" "B" (.int 1)) (V_tx : Arv Z h0 tx kx .byte (nI (2 * xn)) (cont (2 * xn) fx) (.int 0)) (hxn : xn ≤ 300) (hch : ∀ i, ch i < 65536) (hR : Utf xn fx ch) (hy0 : xm < xn) (hy1 : xn ≤ 260) (hy2 : 0 < xm) :
    MF l Z h0 (⟨"java/lang/String", "substring", "(II)Ljava/lang/String;"⟩ : MethodName) c45 5 (some (.object "java/lang/String")) ws (rk 6 3 794 94) #[(.ref x), (.int (0 : Int32)), (.int (nI xm))] (Qst Z xm ch h0 n0) := by
  refine sg n0 [] pn_sub1 rfl (fun m => ef_sub1 m x (nI xm)) fun p e s m below meth c s₁ Bd hml hZ hh hx B hown hnm X0 e0 N K => ?_
  let LL1 : Array Slot := #[.val (.ref x), .val (.int (0 : Int32)), .val (.int (nI xm)), .unset, .unset]
  refine sA 1 X0 hx (B d45_0) rfl rfl rfl ?_
  have hs2_x : xn ≤ 300 := by omega
  obtain ⟨v2, T2, Lc2, X2, hQ2, st2⟩ := cV LL1 [] X0 hx hZ hown hw e0 hml E_x 96 41 43 42 9 44 rfl rfl rfl rfl rfl rfl (by decide) (rm_sl1 l Z a0 hw [] x tx _ xn fx   zc fm hS0 h0 n0 O E_x Fv_x Fc_x V_tx hs2_x  ) pd25 rfl rfl (B d45_1) rfl
  obtain ⟨rfl, Nq2, e2⟩ := hQ2
  replace N := Fr.app N Nq2
  refine gb m T2 4 LL1 [(.int (nI xn))] (st2) ?_
  let LL3 : Array Slot := #[.val (.ref x), .val (.int (0 : Int32)), .val (.int (nI xm)), .val (.int (nI xn)), .unset]
  refine gb m T2 5 LL3 [] (fun _ k => XS.istoreN X2.here hx rfl (B d45_4) rfl (l' := LL3) rfl k) ?_
  refine sI 6 X2 hx (B d45_5) rfl rfl ?_
  refine sI 7 X2 hx (B d45_6) rfl rfl ?_
  refine sI 8 X2 hx (B d45_7) rfl rfl ?_
  have hy4_0 : 0 ≤ xm := by omega
  have hy4_1 : xm ≤ xn := by omega
  have hy4_2 : xn < 1073741824 := by omega
  obtain ⟨v4, T4, Lc4, X4, hQ4, st4⟩ := cS LL3 [] X2 hx hZ hown hw e2 hml 97 98 9 99 rfl rfl rfl rfl (by decide) (rm_cbe l Z a0 hw [] 0 xm xn zc fm hS0  h0 n0 O hy4_0 hy4_1 hy4_2) pd26 rfl rfl (B d45_8) rfl
  obtain ⟨rfl, Nq4, e4⟩ := hQ4
  replace N := Fr.app N Nq4
  refine gb m T4 11 LL3 [] (st4) ?_
  refine sI 12 X4 hx (B d45_11) rfl rfl ?_
  refine gb m T4 15 LL3 [] (fun _ k => XS.ifNo X4.here hx rfl (B d45_12) rfl ((if0 _ _).trans (teq (by decide : (0 : Int32) = (0 : Int32))).2) k) ?_
  refine sI 16 X4 hx (B d45_15) rfl rfl ?_
  refine sI 17 X4 hx (B d45_16) rfl rfl ?_
  refine gb m T4 22 LL3 [] (fun _ k => XS.icmpYes X4.here hx rfl (pc0 := 17) (pc' := 22) rfl (B d45_17) rfl (feq (mt (own_neq (a := xm) (b := xn) (by omega) (by omega)).mp (by omega))).2 (by decide) (by decide) k) ?_
  refine sI 23 X4 hx (B d45_22) rfl rfl ?_
  refine sI 24 X4 hx (B d45_23) rfl rfl ?_
  refine gb m T4 25 LL3 [(.int ((nI xm) - (0 : Int32)))] (fun _ k => XS.isub X4.here hx rfl (B d45_24) rfl k) ?_
  rw [show ((nI xm) - (0 : Int32)) = (nI xm) from Int32.sub_zero _]
  let LL7 : Array Slot := #[.val (.ref x), .val (.int (0 : Int32)), .val (.int (nI xm)), .val (.int (nI xn)), .val (.int (nI xm))]
  refine gb m T4 27 LL7 [] (fun _ k => XS.istore X4.here hx rfl (B d45_25) rfl (l' := LL7) rfl k) ?_
  refine sA 28 X4 hx (B d45_27) rfl rfl rfl ?_
  have hs8_x : xn ≤ 300 := by omega
  obtain ⟨v8, T8, Lc8, X8, hQ8, st8⟩ := cV LL7 [] X4 hx hZ hown hw e4 hml E_x 55 56 58 57 9 59 rfl rfl rfl rfl rfl rfl (by decide) (rm_isl1 l Z a0 hw [] x tx _ xn fx   zc fm hS0 h0 n0 O E_x Fv_x Fc_x V_tx hs8_x  ) pd18 rfl rfl (B d45_28) rfl
  obtain ⟨rfl, Nq8, e8⟩ := hQ8
  replace N := Fr.app N Nq8
  refine gb m T8 31 LL7 [(.int (0 : Int32))] (st8) ?_
  refine gb m T8 47 LL7 [] (fun _ k => XS.ifYes X8.here hx rfl (pc0 := 31) (pc' := 47) rfl (B d45_31) rfl ((if0 _ _).trans (teq (by decide : (0 : Int32) = (0 : Int32))).1) (by decide) (by decide) k) ?_
  refine sA 48 X8 hx (B d45_47) rfl rfl rfl ?_
  obtain ⟨T10, X10, e10, st10⟩ := getF X8 hx hZ hown (host := "") (Or.inl (wv hw 34 rfl)) Via.refl e8 Fv_x (g := (mkF m 48 LL7 [(.ref x)])) rfl rfl (B d45_48)
  refine gb m T10 51 LL7 [(.ref tx)] (st10) ?_
  refine sI 52 X10 hx (B d45_51) rfl rfl ?_
  refine tI 54 X10 hx (B d45_52) rfl rfl ?_
  have hy11_0 : xm < xn := by omega
  have hy11_1 : xn ≤ 260 := by omega
  have hy11_2 : 0 < xm := by omega
  obtain ⟨v11, T11, Lc11, X11, hQ11, st11⟩ := cS LL7 [] X10 hx hZ hown hw e10 hml 271 272 23 273 rfl rfl rfl rfl (by decide) (rm_uns l Z a0 hw [] tx _ xn fx ch xm zc fm hS0 h0 n0 O V_tx hch hR hy11_0 hy11_1 hy11_2) pd27 rfl rfl (B d45_54) rfl
  obtain ⟨x11, r11, k211, cd11, lb11, fd11, rfl, Nq11, K11, gx11, gr11, Ex11, Gv11, Gc11, Vr11, Er11, hR11⟩ := hQ11
  replace N := Fr.app N Nq11
  have sz_x11 : h0.size ≤ x11 := Nat.le_trans K.1 gx11
  have sz_r11 : h0.size ≤ r11 := Nat.le_trans K.1 gr11
  replace E_x := E_x.keep K11
  replace Fv_x := Fv_x.keep K11 nin0
  replace Fc_x := Fc_x.keep K11 nin0
  replace V_tx := V_tx.keep K11 nin0
  replace O := O.keep K11 all0
  replace K := K.trans K11 all0
  refine gb m T11 57 LL7 [(.ref x11)] (st11) ?_
  obtain ⟨fs, hr, hrun, hended, hW, hsame⟩ := X11.leave (v := some (.ref x11)) (fun h => by rw [Bd.returns] at h; cases h)
  refine ⟨_, _, retOut X11 hx Bd.returns rfl (Or.inr (Or.inr (Or.inr (Or.inr ⟨rfl, rfl, rfl⟩)))) (B d45_57) hr, hrun, hended, _, _, rfl, ?_, ⟨_, rfl⟩, hW, hsame.mono (by decide) (by decide)⟩
  show Qst Z xm ch h0 n0 (some (.ref x11)) T11.heap _
  exact ⟨_, _, _, _, _, _, rfl, N, K, sz_x11, sz_r11, Ex11, Gv11, Gc11, Vr11, Er11, hR11⟩

theorem rm_cpaU (l : Launch) (Z : State) (a0 : Array Value) (hw : ∀ d ∈ tables_1, d.before a0 Z = true) (ws : List Jvm.Cond) (x tx : Addr) (kx : ClassId) (xn : Nat) (fx : Nat → Int32) (cd : Int32) (lb : Nat) (ch : Nat → Nat) (xi : Nat) (zc : Int32) (fm : Value) (hS0 : Sf Z zc fm) (h0 : Heap) (n0 : Nat) (O : Old Z n0 h0) (E_x : Exa Z h0 x "java/lang/String") (Fv_x : Fld Z h0 x "java/lang/String" "value" "[B" (.ref tx)) (Fc_x : Fld Z h0 x "java/lang/String" "coder" "B" (.int cd)) (V_tx : Arv Z h0 tx kx .byte (Int32.ofNat lb) (cont lb fx) (.int 0)) (hxn : xn ≤ 300) (hch : ∀ i, ch i < 65536) (hR : Rp cd xn lb fx ch) (hy0 : xi < xn) :
    MetFree l (⟨"java/lang/String", "codePointAt", "(I)I"⟩ : MethodName) (head1 (Jvm.Cond.code (⟨"java/lang/String", "codePointAt", "(I)I"⟩ : MethodName) jdk_42_method_57_code 3 (some .int) :: ws) ({ frames := 3, cells := 0, slots := 0, locals := 44 } : Room)) (fun as_ U => as_ = #[.ref x, .int (Int32.ofNat xi)] ∧ Z.Warmed39 U.vm ∧ U.heap = h0) (fun _ _ _ _ _ => True) (fun _ U o U' => ∃ v L, o = .returned v ∧ Qcpa ch xn xi h0 n0 v U'.heap L ∧ FrameEnd U o U' L ({ frames := 3, cells := 0, slots := 0, locals := 44 } : Room).cells ({ frames := 3, cells := 0, slots := 0, locals := 44 } : Room).slots) := by
  rcases hR with ⟨rfl, rfl, hR⟩ | ⟨rfl, rfl, hR⟩
  · exact rm_cpa0 l Z a0 hw ws x tx kx xn fx ch xi zc fm hS0 h0 n0 O E_x Fv_x Fc_x V_tx hxn hch hR hy0
  · exact rm_cpa1 l Z a0 hw ws x tx kx xn fx ch xi zc fm hS0 h0 n0 O E_x Fv_x Fc_x V_tx hxn hch hR hy0
theorem rm_subU (l : Launch) (Z : State) (a0 : Array Value) (hw : ∀ d ∈ tables_1, d.before a0 Z = true) (ws : List Jvm.Cond) (x tx : Addr) (kx : ClassId) (xn : Nat) (fx : Nat → Int32) (cd : Int32) (lb : Nat) (ch : Nat → Nat) (xm : Nat) (zc : Int32) (fm : Value) (hS0 : Sf Z zc fm) (h0 : Heap) (n0 : Nat) (O : Old Z n0 h0) (E_x : Exa Z h0 x "java/lang/String") (Fv_x : Fld Z h0 x "java/lang/String" "value" "[B" (.ref tx)) (Fc_x : Fld Z h0 x "java/lang/String" "coder" "B" (.int cd)) (V_tx : Arv Z h0 tx kx .byte (Int32.ofNat lb) (cont lb fx) (.int 0)) (hxn : xn ≤ 300) (hch : ∀ i, ch i < 65536) (hR : Rp cd xn lb fx ch) (hy0 : xm < xn) (hy1 : xn ≤ 260) (hy2 : 0 < xm) :
    MetFree l (⟨"java/lang/String", "substring", "(II)Ljava/lang/String;"⟩ : MethodName) (head1 (Jvm.Cond.code (⟨"java/lang/String", "substring", "(II)Ljava/lang/String;"⟩ : MethodName) jdk_42_method_92_code 5 (some (.object "java/lang/String")) :: ws) ({ frames := 6, cells := 3, slots := 794, locals := 94 } : Room)) (fun as_ U => as_ = #[.ref x, .int (0 : Int32), .int (Int32.ofNat xm)] ∧ Z.Warmed39 U.vm ∧ U.heap = h0) (fun _ _ _ _ _ => True) (fun _ U o U' => ∃ v L, o = .returned v ∧ Qst Z xm ch h0 n0 v U'.heap L ∧ FrameEnd U o U' L ({ frames := 6, cells := 3, slots := 794, locals := 94 } : Room).cells ({ frames := 6, cells := 3, slots := 794, locals := 94 } : Room).slots) := by
  rcases hR with ⟨rfl, rfl, hR⟩ | ⟨rfl, rfl, hR⟩
  · exact rm_sub0 l Z a0 hw ws x tx kx xn fx ch xm zc fm hS0 h0 n0 O E_x Fv_x Fc_x V_tx hxn hch hR hy0 hy1 hy2
  · exact rm_sub1 l Z a0 hw ws x tx kx xn fx ch xm zc fm hS0 h0 n0 O E_x Fv_x Fc_x V_tx hxn hch hR hy0 hy1 hy2
def Qbd (Z : State) (b : Addr) (rv : Option Value) (cd : Int32) (cn L : Nat) (P : (Nat → Int32) → Prop) (h0 : Heap) (n0 : Nat) (v : Option Value) (h : Heap) (Lc : List Loc) : Prop := v = rv ∧ Fr n0 Lc ∧ Keep h0 h [b] ∧ ∃ (t : Addr) (k' : ClassId) (f : Nat → Int32), h0.size ≤ t ∧ Fld Z h b "java/lang/AbstractStringBuilder" "value" "[B" (.ref t) ∧ Fld Z h b "java/lang/AbstractStringBuilder" "coder" "B" (.int cd) ∧ Fld Z h b "java/lang/AbstractStringBuilder" "count" "I" (.int (Int32.ofNat cn)) ∧ Fld Z h b "java/lang/AbstractStringBuilder" "maybeLatin1" "Z" (.int 0) ∧ Arv Z h t k' .byte (Int32.ofNat L) (cont L f) (.int 0) ∧ Exa Z h t "[B" ∧ P f
theorem own_inf3 {xe : Nat} {g0 g1 g2 g3 : Nat → Int32} {dc : Nat → Nat} (e1 : dec (g1 (2 * xe)) (g1 (2 * xe + 1)) = Int32.ofNat (dc 0) ∧ ∀ j, j ≠ 2 * xe → j ≠ 2 * xe + 1 → g1 j = g0 j)
    (e2 : dec (g2 (2 * (xe + 1))) (g2 (2 * (xe + 1) + 1)) = Int32.ofNat (dc 1) ∧ ∀ j, j ≠ 2 * (xe + 1) → j ≠ 2 * (xe + 1) + 1 → g2 j = g1 j) (e3 : dec (g3 (2 * (xe + 1 + 1))) (g3 (2 * (xe + 1 + 1) + 1)) = Int32.ofNat (dc 2) ∧ ∀ j, j ≠ 2 * (xe + 1 + 1) → j ≠ 2 * (xe + 1 + 1) + 1 → g3 j = g2 j) :
    (∀ i, i < 3 → dec (g3 (2 * (xe + i))) (g3 (2 * (xe + i) + 1)) = Int32.ofNat (dc i)) ∧ ∀ j, j < 2 * xe → g3 j = g0 j := by
  refine ⟨fun i hi => ?_, fun j hj => by rw [e3.2 _ (by omega) (by omega), e2.2 _ (by omega) (by omega), e1.2 _ (by omega) (by omega)]⟩
  have q : i = 0 ∨ i = 1 ∨ i = 2 := by omega
  rcases q with rfl | rfl | rfl
  · rw [e3.2 _ (by omega) (by omega), e3.2 _ (by omega) (by omega), e2.2 _ (by omega) (by omega), e2.2 _ (by omega) (by omega)]; exact e1.1
  · rw [e3.2 _ (by omega) (by omega), e3.2 _ (by omega) (by omega)]; exact e2.1
  · exact e3.1
theorem own_cpyA {f g z : Nat → Int32} {k d : Nat} (e : g = cpy f 0 z d k) : (∀ i, i < k → g (d + i) = f i) ∧ ∀ j, j < d → g j = z j := by
  subst e; unfold cpy
  refine ⟨fun i hi => ?_, fun j hj => by rw [if_neg (by omega)]⟩
  rw [if_pos ⟨by omega, by omega⟩]; congr 1; omega
def chq (ch : Nat → Nat) (n : Nat) : Nat → Nat := fun i => if i < n then ch i else 46
theorem own_chq {ch : Nat → Nat} (h : ∀ i, ch i < 65536) (n : Nat) : ∀ i, chq ch n i < 65536 := fun i => by unfold chq; split; exact h i; omega
theorem own_app0 {f g z : Nat → Int32} {ch : Nat → Nat} {n : Nat} (h1 : ∀ i, i < n → g i = f i) (h2 : ∀ i, i < 3 → g (n + i) = z i) (A : Lat n f ch) (B : Lat 3 z (fun _ => 46)) : Lat (n + 3) g (chq ch n) := fun i hi => by
  unfold chq
  by_cases q : i < n
  · rw [if_pos q, h1 i q]; exact A i q
  · rw [if_neg q, show i = n + (i - n) by omega, h2 _ (by omega)]; exact B _ (by omega)
theorem own_app1 {f g : Nat → Int32} {ch : Nat → Nat} {n : Nat} (h1 : ∀ i, i < 2 * n → g i = f i) (h2 : ∀ i, i < 3 → dec (g (2 * (n + i))) (g (2 * (n + i) + 1)) = Int32.ofNat 46) (A : Utf n f ch) : Utf (n + 3) g (chq ch n) := fun i hi => by
  unfold chq
  by_cases q : i < n
  · rw [if_pos q, h1 _ (by omega), h1 _ (by omega)]; exact A i q
  · rw [if_neg q, show i = n + (i - n) by omega]; exact h2 _ (by omega)

theorem d46_0 : decode c46 0 = .ok (.aload_n 0, 1) := by decide +kernel
theorem d46_1 : decode c46 1 = .ok (.invokespecial 3, 3) := by decide +kernel
theorem d46_4 : decode c46 4 = .ok (.getstatic 18, 3) := by decide +kernel
theorem d46_7 : decode c46 7 = .ok (.ifCond .eq 18, 3) := by decide +kernel
theorem d46_10 : decode c46 10 = .ok (.aload_n 0, 1) := by decide +kernel
theorem d46_11 : decode c46 11 = .ok (.iload_n 1, 1) := by decide +kernel
theorem d46_12 : decode c46 12 = .ok (.newarray .byte, 2) := by decide +kernel
theorem d46_14 : decode c46 14 = .ok (.putfield 15, 3) := by decide +kernel
theorem d46_17 : decode c46 17 = .ok (.aload_n 0, 1) := by decide +kernel
theorem d46_18 : decode c46 18 = .ok (.iconst 0, 1) := by decide +kernel
theorem d46_19 : decode c46 19 = .ok (.putfield 22, 3) := by decide +kernel
theorem d46_22 : decode c46 22 = .ok (.goto 16, 3) := by decide +kernel
theorem d46_38 : decode c46 38 = .ok (.return_, 1) := by decide +kernel
theorem pn_asbi : plainFor (⟨"java/lang/AbstractStringBuilder", "<init>", "(I)V"⟩ : MethodName) = true := plainFor_of_name (by first | (simp [plainName, overriddenIn]; done) | decide +kernel)
theorem ef_asbi (m : MethodId) (x0 : Addr) : entryFrame m #[(.ref x0), (.int (16 : Int32))] 2 = mkF m 0 #[.val (.ref x0), .val (.int (16 : Int32))] [] := by first | (simp [entryFrame, mkF, argsToLocals, Value.category]; done) | rfl
theorem rm_asbi (l : Launch) (Z : State) (a0 : Array Value) (hw : ∀ d ∈ tables_1, d.before a0 Z = true) (ws : List Jvm.Cond) (bb : Addr) (zc : Int32) (fm : Value) (hS0 : Sf Z zc fm) (h0 : Heap) (n0 : Nat) (O : Old Z n0 h0) (E_b : Exa Z h0 bb "java/lang/StringBuilder") (Fv_b : Fld Z h0 bb "java/lang/AbstractStringBuilder" "value" "[B" .null) (Fc_b : Fld Z h0 bb "java/lang/AbstractStringBuilder" "coder" "B" (.int 0)) (Fn_b : Fld Z h0 bb "java/lang/AbstractStringBuilder" "count" "I" (.int 0)) (Fm_b : Fld Z h0 bb "java/lang/AbstractStringBuilder" "maybeLatin1" "Z" (.int 0)) (g_bb : n0 ≤ bb) :
    MF l Z h0 (⟨"java/lang/AbstractStringBuilder", "<init>", "(I)V"⟩ : MethodName) c46 2 none ws (rk 1 1 16 12) #[(.ref bb), (.int (16 : Int32))] (Qbd Z bb none 0 0 16 (fun _ => True) h0 n0) := by
  refine sg n0 [bb] pn_asbi rfl (fun m => ef_asbi m bb) fun p e s m below meth c s₁ Bd hml hZ hh hx B hown hnm X0 e0 N K => ?_
  let LL1 : Array Slot := #[.val (.ref bb), .val (.int (16 : Int32))]
  refine sA 1 X0 hx (B d46_0) rfl rfl rfl ?_
  obtain ⟨T2, X2, e2, st2⟩ := initO X0 hx hZ hown (wv hw 85 rfl) (wv hw 18 rfl) (wv hw 19 rfl) e0 (g := (mkF m 1 LL1 [(.ref bb)])) rfl (by rw [hml]; rfl) rfl (B d46_1) (by decide) (W := 0) (by show 2 * 0 + _ ≤ _; exact Nat.le_of_eq rfl) (by decide)
  refine gb m T2 4 LL1 [] (st2) ?_
  obtain ⟨T3, X3, e3, st3⟩ := getS2 X2 hx hZ hown (host := "") (Or.inl (wv hw 86 rfl)) Via.refl e2 (Sta.ext O.2 hS0.1) (g := (mkF m 4 LL1 [])) rfl (B d46_4)
  refine gb m T3 7 LL1 [(.int zc)] (st3) ?_
  refine gb m T3 10 LL1 [] (fun _ k => XS.ifNo X3.here hx rfl (B d46_7) rfl ((if0 _ _).trans (feq hS0.2.1).1) k) ?_
  refine sA 11 X3 hx (B d46_10) rfl rfl rfl ?_
  refine sI 12 X3 hx (B d46_11) rfl rfl ?_
  obtain ⟨T5, h5, k5, X5, e5, E5, A5, B5, st5⟩ := newPE X3 hx hZ (wv hw 25 rfl) e3 (g := (mkF m 12 LL1 [(.int (16 : Int32)), (.ref bb)])) rfl (B d46_12) (n := (nI 16)) rfl (own_neg (a := 16) (by omega)) (cap := 16) (by rw [own_nat (a := 16) (by omega)]; omega) (by decide) (by decide) (by decide) (ad := "[B") (by decide)
  obtain ⟨b5, g5⟩ : ∃ z, z = h0.size := ⟨_, rfl⟩
  rw [← g5] at A5 B5 st5
  have ne_bb_b5 : bb ≠ b5 := Nat.ne_of_lt (Nat.lt_of_lt_of_le E_b.lt (Nat.le_of_eq g5.symm))
  have sz_b5 : h0.size ≤ b5 := Nat.le_trans K.1 (Nat.le_of_eq g5.symm)
  replace E_b := E_b.ext E5
  replace Fv_b := Fv_b.ext E5
  replace Fc_b := Fc_b.ext E5
  replace Fn_b := Fn_b.ext E5
  replace Fm_b := Fm_b.ext E5
  replace O := O.ext E5
  replace K := K.ext E5
  have V_b5 : Arv Z h5 b5 k5 .byte (nI 16) (cont 16 (fun _ => 0)) (.int 0) := own_cnew (Arv.new A5 (own_neg (a := 16) (by omega)))
  have E_b5 := B5
  obtain ⟨fz5, hfz5⟩ : ∃ g : Nat → Int32, g = fun _ => 0 := ⟨_, rfl⟩
  rw [← hfz5] at V_b5
  refine gb m T5 14 LL1 [(.ref b5), (.ref bb)] (st5) ?_
  obtain ⟨T6, h6, X6, e6, W6, st6⟩ := putF X5 hx hZ hown (host := "") (Or.inl (wv hw 87 rfl)) Via.refl e5 Fv_b E_b (Or.inl (wv hw 88 rfl)) (wv hw 74 rfl) (ty := (.array .byte)) (by decide) rfl rfl (g := (mkF m 14 LL1 [(.ref b5), (.ref bb)])) rfl rfl (B d46_14)
  replace E_b := E_b.wr W6
  replace Fc_b := Fc_b.other W6 (Or.inr (slot_ne (Or.inl (wv hw 90 rfl)) (Or.inl (wv hw 88 rfl)) (by decide) (t := .byte) (t' := (.array .byte)) (by decide) (by decide)))
  replace Fn_b := Fn_b.other W6 (Or.inr (slot_ne (Or.inl (wv hw 141 rfl)) (Or.inl (wv hw 88 rfl)) (by decide) (t := .int) (t' := (.array .byte)) (by decide) (by decide)))
  replace Fm_b := Fm_b.other W6 (Or.inr (slot_ne (Or.inl (wv hw 312 rfl)) (Or.inl (wv hw 88 rfl)) (by decide) (t := .boolean) (t' := (.array .byte)) (by decide) (by decide)))
  replace V_b5 := V_b5.other W6 (Ne.symm ne_bb_b5)
  replace E_b5 := E_b5.wr W6
  replace Fv_b := Fv_b.same W6
  replace O := O.wr W6 g_bb
  replace K := K.wr W6 (Or.inl (by simp))
  replace N := Fr.snoc X6 N g_bb
  refine gb m T6 17 LL1 [] (st6) ?_
  refine sA 18 X6 hx (B d46_17) rfl rfl rfl ?_
  refine sC 19 (0 : Int32) X6 hx (B d46_18) rfl rfl ?_
  obtain ⟨T7, h7, X7, e7, W7, st7⟩ := putFN X6 hx hZ hown (wv hw 89 rfl) Via.refl e6 Fc_b E_b (Or.inl (wv hw 90 rfl)) (wv hw 74 rfl) (ty := .byte) (v' := (.int (0 : Int32))) (by decide) rfl rfl (g := (mkF m 19 LL1 [(.int (0 : Int32)), (.ref bb)])) rfl rfl (B d46_19)
  replace E_b := E_b.wr W7
  replace Fv_b := Fv_b.other W7 (Or.inr (slot_ne (Or.inl (wv hw 88 rfl)) (Or.inl (wv hw 90 rfl)) (by decide) (t := (.array .byte)) (t' := .byte) (by decide) (by decide)))
  replace Fn_b := Fn_b.other W7 (Or.inr (slot_ne (Or.inl (wv hw 141 rfl)) (Or.inl (wv hw 90 rfl)) (by decide) (t := .int) (t' := .byte) (by decide) (by decide)))
  replace Fm_b := Fm_b.other W7 (Or.inr (slot_ne (Or.inl (wv hw 312 rfl)) (Or.inl (wv hw 90 rfl)) (by decide) (t := .boolean) (t' := .byte) (by decide) (by decide)))
  replace V_b5 := V_b5.other W7 (Ne.symm ne_bb_b5)
  replace E_b5 := E_b5.wr W7
  replace Fc_b := Fc_b.same W7
  replace O := O.wr W7 g_bb
  replace K := K.wr W7 (Or.inl (by simp))
  replace N := Fr.snoc X7 N g_bb
  refine gb m T7 22 LL1 [] (st7) ?_
  refine gb m T7 38 LL1 [] (fun _ k => XS.goto X7.here hx rfl (pc0 := 22) (pc' := 38) rfl (B d46_22) (by decide) (by decide) k) ?_
  obtain ⟨fs, hr, hrun, hended, hW, hsame⟩ := X7.leave (v := none) (fun _ => rfl)
  refine ⟨_, _, X7.returnOut hx Bd.returns (B d46_38) hr, hrun, hended, _, _, rfl, ?_, ⟨_, rfl⟩, hW, hsame.mono (by decide) (by decide)⟩
  show Qbd Z bb none 0 0 16 (fun _ => True) h0 n0 (none) T7.heap _
  rw [e7]
  exact ⟨rfl, N, K, b5, _, _, sz_b5, Fv_b, Fc_b, Fn_b, Fm_b, V_b5, E_b5, trivial⟩

theorem d47_0 : decode c47 0 = .ok (.aload_n 0, 1) := by decide +kernel
theorem d47_1 : decode c47 1 = .ok (.bipush 16, 2) := by decide +kernel
theorem d47_3 : decode c47 3 = .ok (.invokespecial 1, 3) := by decide +kernel
theorem d47_6 : decode c47 6 = .ok (.return_, 1) := by decide +kernel
theorem pn_sbi : plainFor (⟨"java/lang/StringBuilder", "<init>", "()V"⟩ : MethodName) = true := plainFor_of_name (by first | (simp [plainName, overriddenIn]; done) | decide +kernel)
theorem pd28 : parseMethodDescriptor "(I)V" = some ⟨[.int], none⟩ := by decide +kernel
theorem ef_sbi (m : MethodId) (x0 : Addr) : entryFrame m #[(.ref x0)] 1 = mkF m 0 #[.val (.ref x0)] [] := by first | (simp [entryFrame, mkF, argsToLocals, Value.category]; done) | rfl
theorem rm_sbi (l : Launch) (Z : State) (a0 : Array Value) (hw : ∀ d ∈ tables_1, d.before a0 Z = true) (ws : List Jvm.Cond) (bb : Addr) (zc : Int32) (fm : Value) (hS0 : Sf Z zc fm) (h0 : Heap) (n0 : Nat) (O : Old Z n0 h0) (E_b : Exa Z h0 bb "java/lang/StringBuilder") (Fv_b : Fld Z h0 bb "java/lang/AbstractStringBuilder" "value" "[B" .null) (Fc_b : Fld Z h0 bb "java/lang/AbstractStringBuilder" "coder" "B" (.int 0)) (Fn_b : Fld Z h0 bb "java/lang/AbstractStringBuilder" "count" "I" (.int 0)) (Fm_b : Fld Z h0 bb "java/lang/AbstractStringBuilder" "maybeLatin1" "Z" (.int 0)) (g_bb : n0 ≤ bb) :
    MF l Z h0 (⟨"java/lang/StringBuilder", "<init>", "()V"⟩ : MethodName) c47 1 none ws (rk 2 1 16 25) #[(.ref bb)] (Qbd Z bb none 0 0 16 (fun _ => True) h0 n0) := by
  refine sg n0 [bb] pn_sbi rfl (fun m => ef_sbi m bb) fun p e s m below meth c s₁ Bd hml hZ hh hx B hown hnm X0 e0 N K => ?_
  let LL1 : Array Slot := #[.val (.ref bb)]
  refine sA 1 X0 hx (B d47_0) rfl rfl rfl ?_
  refine sB 3 (16 : Int32) X0 hx (B d47_1) rfl rfl ?_
  obtain ⟨v2, _, ⟨T2, L2, k2, n2⟩, -, X2, ⟨Lc2, hQ2, l2, y2, z2⟩, st2⟩ := X0.specialBack hx (y := (⟨"java/lang/AbstractStringBuilder", "<init>", "(I)V"⟩ : MethodName)) rfl hown (mvT hZ (wv hw 79 rfl)) (mvT hZ (wv hw 80 rfl)) (mvT hZ (wv hw 84 rfl)) (by decide) (backOf (W := 0) (rm_asbi l Z a0 hw [] bb zc fm hS0 h0 n0 O E_b Fv_b Fc_b Fn_b Fm_b g_bb) hZ (wv hw 84 rfl) (wv hw 83 rfl) (by decide) (by decide)) (g := (mkF m 3 LL1 [(.int (16 : Int32)), (.ref bb)])) rfl (by rw [hml]; rfl) (Steps.refl _) (a := bb) (argsL := [(.int (16 : Int32))]) (rest := []) (lenOf pd28 rfl) rfl (by show 2 * 0 + _ ≤ _; exact Nat.le_of_eq rfl) (B d47_3) (fun _ _ => ⟨rfl, e0, (by decide : 0 + 1 ≤ _), (by decide : 0 + 16 ≤ _)⟩)
  dsimp only [Pt.U, Pt.locs, Pt.cells, Pt.slots] at X2 l2 y2 z2 st2 hQ2
  rw [l2, y2, z2] at X2; clear l2 y2 z2
  obtain ⟨rfl, Nq2, K2, t2, k22, fd2, gt2, Gv2, Gc2, Gn2, Gm2, Vt2, Et2, hP2⟩ := hQ2
  replace N := Fr.app N Nq2
  have sz_t2 : h0.size ≤ t2 := Nat.le_trans K.1 gt2
  replace E_b := E_b.keep K2
  replace O := O.keep K2 (allS g_bb all0)
  replace K := K.trans K2 (allS (Or.inl (by simp)) all0)
  refine gb m T2 6 LL1 [] (fun _ k => st2.trans k) ?_
  obtain ⟨fs, hr, hrun, hended, hW, hsame⟩ := X2.leave (v := none) (fun _ => rfl)
  refine ⟨_, _, X2.returnOut hx Bd.returns (B d47_6) hr, hrun, hended, _, _, rfl, ?_, ⟨_, rfl⟩, hW, hsame.mono (by decide) (by decide)⟩
  show Qbd Z bb none 0 0 16 (fun _ => True) h0 n0 (none) T2.heap _
  exact ⟨rfl, N, K, t2, _, _, sz_t2, Gv2, Gc2, Gn2, Gm2, Vt2, Et2, trivial⟩

theorem d48_0 : decode c48 0 = .ok (.aload_n 0, 1) := by decide +kernel
theorem d48_1 : decode c48 1 = .ok (.getfield 15, 3) := by decide +kernel
theorem d48_4 : decode c48 4 = .ok (.arraylength, 1) := by decide +kernel
theorem d48_5 : decode c48 5 = .ok (.istore_n 2, 1) := by decide +kernel
theorem d48_6 : decode c48 6 = .ok (.iload_n 1, 1) := by decide +kernel
theorem d48_7 : decode c48 7 = .ok (.aload_n 0, 1) := by decide +kernel
theorem d48_8 : decode c48 8 = .ok (.getfield 22, 3) := by decide +kernel
theorem d48_11 : decode c48 11 = .ok (.ishl, 1) := by decide +kernel
theorem d48_12 : decode c48 12 = .ok (.istore_n 3, 1) := by decide +kernel
theorem d48_13 : decode c48 13 = .ok (.iload_n 3, 1) := by decide +kernel
theorem d48_14 : decode c48 14 = .ok (.iload_n 2, 1) := by decide +kernel
theorem d48_15 : decode c48 15 = .ok (.isub, 1) := by decide +kernel
theorem d48_16 : decode c48 16 = .ok (.istore 4, 2) := by decide +kernel
theorem d48_18 : decode c48 18 = .ok (.iload_n 2, 1) := by decide +kernel
theorem d48_19 : decode c48 19 = .ok (.iload 4, 2) := by decide +kernel
theorem d48_21 : decode c48 21 = .ok (.iload_n 2, 1) := by decide +kernel
theorem d48_22 : decode c48 22 = .ok (.iconst 2, 1) := by decide +kernel
theorem d48_23 : decode c48 23 = .ok (.aload_n 0, 1) := by decide +kernel
theorem d48_24 : decode c48 24 = .ok (.getfield 22, 3) := by decide +kernel
theorem d48_27 : decode c48 27 = .ok (.ishl, 1) := by decide +kernel
theorem d48_28 : decode c48 28 = .ok (.iadd, 1) := by decide +kernel
theorem d48_29 : decode c48 29 = .ok (.invokestatic 114, 3) := by decide +kernel
theorem d48_32 : decode c48 32 = .ok (.istore 5, 2) := by decide +kernel
theorem d48_34 : decode c48 34 = .ok (.iload 5, 2) := by decide +kernel
theorem d48_36 : decode c48 36 = .ok (.ldc 39, 2) := by decide +kernel
theorem d48_38 : decode c48 38 = .ok (.if_icmp .ne 13, 3) := by decide +kernel
theorem d48_51 : decode c48 51 = .ok (.iload 5, 2) := by decide +kernel
theorem d48_53 : decode c48 53 = .ok (.aload_n 0, 1) := by decide +kernel
theorem d48_54 : decode c48 54 = .ok (.getfield 22, 3) := by decide +kernel
theorem d48_57 : decode c48 57 = .ok (.ishr, 1) := by decide +kernel
theorem d48_58 : decode c48 58 = .ok (.ireturn, 1) := by decide +kernel
theorem pn_nc0 : plainFor (⟨"java/lang/AbstractStringBuilder", "newCapacity", "(I)I"⟩ : MethodName) = true := plainFor_of_name (by first | (simp [plainName, overriddenIn]; done) | decide +kernel)
theorem ef_nc0 (m : MethodId) (x0 : Addr) (x1 : Int32) : entryFrame m #[(.ref x0), (.int x1)] 6 = mkF m 0 #[.val (.ref x0), .val (.int x1), .unset, .unset, .unset, .unset] [] := by first | (simp [entryFrame, mkF, argsToLocals, Value.category]; done) | rfl
theorem rm_nc0 (l : Launch) (Z : State) (a0 : Array Value) (hw : ∀ d ∈ tables_1, d.before a0 Z = true) (ws : List Jvm.Cond) (bb tb : Addr) (kt : ClassId) (Lb cb : Nat) (ft : Nat → Int32) (M : Nat) (h0 : Heap) (n0 : Nat) (O : Old Z n0 h0) (E_b : Exa Z h0 bb "java/lang/StringBuilder") (Fv_b : Fld Z h0 bb "java/lang/AbstractStringBuilder" "value" "[B" (.ref tb)) (Fc_b : Fld Z h0 bb "java/lang/AbstractStringBuilder" "coder" "B" (.int 0)) (Fn_b : Fld Z h0 bb "java/lang/AbstractStringBuilder" "count" "I" (.int (nI cb))) (Fm_b : Fld Z h0 bb "java/lang/AbstractStringBuilder" "maybeLatin1" "Z" (.int 0)) (V_t : Arv Z h0 tb kt .byte (nI Lb) (cont Lb ft) (.int 0)) (E_t : Exa Z h0 tb "[B") (g_bb : n0 ≤ bb) (g_tb : n0 ≤ tb) (hy0 : Lb < M) (hy1 : M ≤ 300) :
    MF l Z h0 (⟨"java/lang/AbstractStringBuilder", "newCapacity", "(I)I"⟩ : MethodName) c48 6 (some .int) ws (rk 2 0 0 29) #[(.ref bb), (.int (nI M))] (Qpure (some (.int (nI (Lb + max (M - Lb) (Lb + 2))))) h0 n0) := by
  refine sg n0 [] pn_nc0 rfl (fun m => ef_nc0 m bb (nI M)) fun p e s m below meth c s₁ Bd hml hZ hh hx B hown hnm X0 e0 N K => ?_
  have n_bt : bb ≠ tb := (own_nev E_b (wv hw 74 rfl) V_t)
  let LL1 : Array Slot := #[.val (.ref bb), .val (.int (nI M)), .unset, .unset, .unset, .unset]
  refine sA 1 X0 hx (B d48_0) rfl rfl rfl ?_
  obtain ⟨T2, X2, e2, st2⟩ := getF X0 hx hZ hown (host := "") (Or.inl (wv hw 87 rfl)) Via.refl e0 Fv_b (g := (mkF m 1 LL1 [(.ref bb)])) rfl rfl (B d48_1)
  refine gb m T2 4 LL1 [(.ref tb)] (st2) ?_
  obtain ⟨cl3, Ar3, q3, S3, N3', H3, G3⟩ := id V_t
  refine gb m T2 5 LL1 [(.int (nI Lb))] (fun t k => X2.arraylength hx (by rw [e2]; exact Ar3.1) (State.isArrayOf_alike hZ.alike Ar3.2.1) (g := (mkF m 4 LL1 [(.ref tb)])) rfl rfl (B d48_4) t (by rw [len_of S3 N3']; exact k)) ?_
  let LL4 : Array Slot := #[.val (.ref bb), .val (.int (nI M)), .val (.int (nI Lb)), .unset, .unset, .unset]
  refine gb m T2 6 LL4 [] (fun _ k => XS.istoreN X2.here hx rfl (B d48_5) rfl (l' := LL4) rfl k) ?_
  refine sI 7 X2 hx (B d48_6) rfl rfl ?_
  refine sA 8 X2 hx (B d48_7) rfl rfl rfl ?_
  obtain ⟨T5, X5, e5, st5⟩ := getF X2 hx hZ hown (host := "") (Or.inl (wv hw 89 rfl)) Via.refl e2 Fc_b (g := (mkF m 8 LL4 [(.ref bb), (.int (nI M))])) rfl rfl (B d48_8)
  refine gb m T5 11 LL4 [(.int (0 : Int32)), (.int (nI M))] (st5) ?_
  refine gb m T5 12 LL4 [(.int ((nI M) <<< ((0 : Int32) &&& 31)))] (fun _ k => XS.ishl X5.here hx rfl (B d48_11) rfl k) ?_
  rw [show ((nI M) <<< ((0 : Int32) &&& 31)) = (nI M) from own_shl0 _]
  let LL6 : Array Slot := #[.val (.ref bb), .val (.int (nI M)), .val (.int (nI Lb)), .val (.int (nI M)), .unset, .unset]
  refine gb m T5 13 LL6 [] (fun _ k => XS.istoreN X5.here hx rfl (B d48_12) rfl (l' := LL6) rfl k) ?_
  refine sI 14 X5 hx (B d48_13) rfl rfl ?_
  refine sI 15 X5 hx (B d48_14) rfl rfl ?_
  refine gb m T5 16 LL6 [(.int ((nI M) - (nI Lb)))] (fun _ k => XS.isub X5.here hx rfl (B d48_15) rfl k) ?_
  rw [show ((nI M) - (nI Lb)) = (nI (M - Lb)) from own_sub (by omega)]
  let LL7 : Array Slot := #[.val (.ref bb), .val (.int (nI M)), .val (.int (nI Lb)), .val (.int (nI M)), .val (.int (nI (M - Lb))), .unset]
  refine gb m T5 18 LL7 [] (fun _ k => XS.istore X5.here hx rfl (B d48_16) rfl (l' := LL7) rfl k) ?_
  refine sI 19 X5 hx (B d48_18) rfl rfl ?_
  refine tI 21 X5 hx (B d48_19) rfl rfl ?_
  refine sI 22 X5 hx (B d48_21) rfl rfl ?_
  refine sC 23 (2 : Int32) X5 hx (B d48_22) rfl rfl ?_
  refine sA 24 X5 hx (B d48_23) rfl rfl rfl ?_
  obtain ⟨T8, X8, e8, st8⟩ := getF X5 hx hZ hown (host := "") (Or.inl (wv hw 89 rfl)) Via.refl e5 Fc_b (g := (mkF m 24 LL7 [(.ref bb), (.int (2 : Int32)), (.int (nI Lb)), (.int (nI (M - Lb))), (.int (nI Lb))])) rfl rfl (B d48_24)
  refine gb m T8 27 LL7 [(.int (0 : Int32)), (.int (2 : Int32)), (.int (nI Lb)), (.int (nI (M - Lb))), (.int (nI Lb))] (st8) ?_
  refine gb m T8 28 LL7 [(.int ((2 : Int32) <<< ((0 : Int32) &&& 31))), (.int (nI Lb)), (.int (nI (M - Lb))), (.int (nI Lb))] (fun _ k => XS.ishl X8.here hx rfl (B d48_27) rfl k) ?_
  rw [show ((2 : Int32) <<< ((0 : Int32) &&& 31)) = (2 : Int32) from own_shl0 _]
  refine gb m T8 29 LL7 [(.int ((nI Lb) + (2 : Int32))), (.int (nI (M - Lb))), (.int (nI Lb))] (fun _ k => XS.iadd X8.here hx rfl (B d48_28) rfl k) ?_
  rw [show ((nI Lb) + (2 : Int32)) = (nI (Lb + 2)) from own_add _ _]
  have hy9_0 : Lb < 500000000 := by omega
  have hy9_1 : (M - Lb) < 500000000 := by omega
  have hy9_2 : (Lb + 2) < 500000000 := by omega
  have hy9_3 : 0 < (Lb + 2) := by omega
  obtain ⟨v9, T9, Lc9, X9, hQ9, st9⟩ := cS LL7 [] X8 hx hZ hown hw e8 hml 152 153 154 155 rfl rfl rfl rfl (by decide) (rm_newlen l Z a0 hw [] Lb (M - Lb) (Lb + 2)   h0 n0 O hy9_0 hy9_1 hy9_2 hy9_3) pd4 rfl rfl (B d48_29) rfl
  obtain ⟨rfl, Nq9, e9⟩ := hQ9
  replace N := Fr.app N Nq9
  refine gb m T9 32 LL7 [(.int (nI (Lb + max (M - Lb) (Lb + 2))))] (st9) ?_
  let LL10 : Array Slot := #[.val (.ref bb), .val (.int (nI M)), .val (.int (nI Lb)), .val (.int (nI M)), .val (.int (nI (M - Lb))), .val (.int (nI (Lb + max (M - Lb) (Lb + 2))))]
  refine gb m T9 34 LL10 [] (fun _ k => XS.istore X9.here hx rfl (B d48_32) rfl (l' := LL10) rfl k) ?_
  refine tI 36 X9 hx (B d48_34) rfl rfl ?_
  refine gb m T9 38 LL10 [(.int (2147483647 : Int32)), (.int (nI (Lb + max (M - Lb) (Lb + 2))))] (X9.ldcInt hx hown (mvT hZ (wv hw 160 rfl)) (g := (mkF m 36 LL10 [(.int (nI (Lb + max (M - Lb) (Lb + 2))))])) rfl (B d48_36)) ?_
  refine gb m T9 51 LL10 [] (fun _ k => XS.icmpYes X9.here hx rfl (pc0 := 38) (pc' := 51) rfl (B d48_38) rfl (feq (mt (own_neq (a := (Lb + max (M - Lb) (Lb + 2))) (b := 2147483647) (by omega) (by omega)).mp (by omega))).2 (by decide) (by decide) k) ?_
  refine tI 53 X9 hx (B d48_51) rfl rfl ?_
  refine sA 54 X9 hx (B d48_53) rfl rfl rfl ?_
  obtain ⟨T12, X12, e12, st12⟩ := getF X9 hx hZ hown (host := "") (Or.inl (wv hw 89 rfl)) Via.refl e9 Fc_b (g := (mkF m 54 LL10 [(.ref bb), (.int (nI (Lb + max (M - Lb) (Lb + 2))))])) rfl rfl (B d48_54)
  refine gb m T12 57 LL10 [(.int (0 : Int32)), (.int (nI (Lb + max (M - Lb) (Lb + 2))))] (st12) ?_
  refine gb m T12 58 LL10 [(.int ((nI (Lb + max (M - Lb) (Lb + 2))) >>> ((0 : Int32) &&& 31)))] (fun _ k => XS.ishr X12.here hx rfl (B d48_57) rfl k) ?_
  rw [show ((nI (Lb + max (M - Lb) (Lb + 2))) >>> ((0 : Int32) &&& 31)) = (nI (Lb + max (M - Lb) (Lb + 2))) from own_shr0 _]
  obtain ⟨fs, hr, hrun, hended, hW, hsame⟩ := X12.leave (v := some (.int (nI (Lb + max (M - Lb) (Lb + 2))))) (fun h => by rw [Bd.returns] at h; cases h)
  refine ⟨_, _, retOut X12 hx Bd.returns rfl (Or.inl ⟨rfl, Or.inl rfl, _, rfl⟩) (B d48_58) hr, hrun, hended, _, _, rfl, ?_, ⟨_, rfl⟩, hW, hsame.mono (by decide) (by decide)⟩
  show Qpure (some (.int (nI (Lb + max (M - Lb) (Lb + 2))))) h0 n0 (some (.int (nI (Lb + max (M - Lb) (Lb + 2))))) T12.heap _
  rw [e12]
  exact ⟨rfl, N, rfl⟩

theorem pn_nc1 : plainFor (⟨"java/lang/AbstractStringBuilder", "newCapacity", "(I)I"⟩ : MethodName) = true := plainFor_of_name (by first | (simp [plainName, overriddenIn]; done) | decide +kernel)
theorem ef_nc1 (m : MethodId) (x0 : Addr) (x1 : Int32) : entryFrame m #[(.ref x0), (.int x1)] 6 = mkF m 0 #[.val (.ref x0), .val (.int x1), .unset, .unset, .unset, .unset] [] := by first | (simp [entryFrame, mkF, argsToLocals, Value.category]; done) | rfl
theorem rm_nc1 (l : Launch) (Z : State) (a0 : Array Value) (hw : ∀ d ∈ tables_1, d.before a0 Z = true) (ws : List Jvm.Cond) (bb tb : Addr) (kt : ClassId) (qb cb : Nat) (ft : Nat → Int32) (h0 : Heap) (n0 : Nat) (O : Old Z n0 h0) (E_b : Exa Z h0 bb "java/lang/StringBuilder") (Fv_b : Fld Z h0 bb "java/lang/AbstractStringBuilder" "value" "[B" (.ref tb)) (Fc_b : Fld Z h0 bb "java/lang/AbstractStringBuilder" "coder" "B" (.int 1)) (Fn_b : Fld Z h0 bb "java/lang/AbstractStringBuilder" "count" "I" (.int (nI cb))) (Fm_b : Fld Z h0 bb "java/lang/AbstractStringBuilder" "maybeLatin1" "Z" (.int 0)) (V_t : Arv Z h0 tb kt .byte (nI (2 * qb)) (cont (2 * qb) ft) (.int 0)) (E_t : Exa Z h0 tb "[B") (g_bb : n0 ≤ bb) (g_tb : n0 ≤ tb) (hy0 : qb ≤ 300) (hy1 : 3 ≤ qb) :
    MF l Z h0 (⟨"java/lang/AbstractStringBuilder", "newCapacity", "(I)I"⟩ : MethodName) c48 6 (some .int) ws (rk 2 0 0 29) #[(.ref bb), (.int (nI (qb + 3)))] (Qpure (some (.int (nI (2 * qb + 2)))) h0 n0) := by
  refine sg n0 [] pn_nc1 rfl (fun m => ef_nc1 m bb (nI (qb + 3))) fun p e s m below meth c s₁ Bd hml hZ hh hx B hown hnm X0 e0 N K => ?_
  have n_bt : bb ≠ tb := (own_nev E_b (wv hw 74 rfl) V_t)
  let LL1 : Array Slot := #[.val (.ref bb), .val (.int (nI (qb + 3))), .unset, .unset, .unset, .unset]
  refine sA 1 X0 hx (B d48_0) rfl rfl rfl ?_
  obtain ⟨T2, X2, e2, st2⟩ := getF X0 hx hZ hown (host := "") (Or.inl (wv hw 87 rfl)) Via.refl e0 Fv_b (g := (mkF m 1 LL1 [(.ref bb)])) rfl rfl (B d48_1)
  refine gb m T2 4 LL1 [(.ref tb)] (st2) ?_
  obtain ⟨cl3, Ar3, q3, S3, N3', H3, G3⟩ := id V_t
  refine gb m T2 5 LL1 [(.int (nI (2 * qb)))] (fun t k => X2.arraylength hx (by rw [e2]; exact Ar3.1) (State.isArrayOf_alike hZ.alike Ar3.2.1) (g := (mkF m 4 LL1 [(.ref tb)])) rfl rfl (B d48_4) t (by rw [len_of S3 N3']; exact k)) ?_
  let LL4 : Array Slot := #[.val (.ref bb), .val (.int (nI (qb + 3))), .val (.int (nI (2 * qb))), .unset, .unset, .unset]
  refine gb m T2 6 LL4 [] (fun _ k => XS.istoreN X2.here hx rfl (B d48_5) rfl (l' := LL4) rfl k) ?_
  refine sI 7 X2 hx (B d48_6) rfl rfl ?_
  refine sA 8 X2 hx (B d48_7) rfl rfl rfl ?_
  obtain ⟨T5, X5, e5, st5⟩ := getF X2 hx hZ hown (host := "") (Or.inl (wv hw 89 rfl)) Via.refl e2 Fc_b (g := (mkF m 8 LL4 [(.ref bb), (.int (nI (qb + 3)))])) rfl rfl (B d48_8)
  refine gb m T5 11 LL4 [(.int (1 : Int32)), (.int (nI (qb + 3)))] (st5) ?_
  refine gb m T5 12 LL4 [(.int ((nI (qb + 3)) <<< ((1 : Int32) &&& 31)))] (fun _ k => XS.ishl X5.here hx rfl (B d48_11) rfl k) ?_
  rw [show ((nI (qb + 3)) <<< ((1 : Int32) &&& 31)) = (nI (2 * (qb + 3))) from own_shl1 (a := (qb + 3)) (by omega)]
  let LL6 : Array Slot := #[.val (.ref bb), .val (.int (nI (qb + 3))), .val (.int (nI (2 * qb))), .val (.int (nI (2 * (qb + 3)))), .unset, .unset]
  refine gb m T5 13 LL6 [] (fun _ k => XS.istoreN X5.here hx rfl (B d48_12) rfl (l' := LL6) rfl k) ?_
  refine sI 14 X5 hx (B d48_13) rfl rfl ?_
  refine sI 15 X5 hx (B d48_14) rfl rfl ?_
  refine gb m T5 16 LL6 [(.int ((nI (2 * (qb + 3))) - (nI (2 * qb))))] (fun _ k => XS.isub X5.here hx rfl (B d48_15) rfl k) ?_
  rw [show ((nI (2 * (qb + 3))) - (nI (2 * qb))) = (nI ((2 * (qb + 3)) - (2 * qb))) from own_sub (by omega)]
  let LL7 : Array Slot := #[.val (.ref bb), .val (.int (nI (qb + 3))), .val (.int (nI (2 * qb))), .val (.int (nI (2 * (qb + 3)))), .val (.int (nI ((2 * (qb + 3)) - (2 * qb)))), .unset]
  refine gb m T5 18 LL7 [] (fun _ k => XS.istore X5.here hx rfl (B d48_16) rfl (l' := LL7) rfl k) ?_
  refine sI 19 X5 hx (B d48_18) rfl rfl ?_
  refine tI 21 X5 hx (B d48_19) rfl rfl ?_
  refine sI 22 X5 hx (B d48_21) rfl rfl ?_
  refine sC 23 (2 : Int32) X5 hx (B d48_22) rfl rfl ?_
  refine sA 24 X5 hx (B d48_23) rfl rfl rfl ?_
  obtain ⟨T8, X8, e8, st8⟩ := getF X5 hx hZ hown (host := "") (Or.inl (wv hw 89 rfl)) Via.refl e5 Fc_b (g := (mkF m 24 LL7 [(.ref bb), (.int (2 : Int32)), (.int (nI (2 * qb))), (.int (nI ((2 * (qb + 3)) - (2 * qb)))), (.int (nI (2 * qb)))])) rfl rfl (B d48_24)
  refine gb m T8 27 LL7 [(.int (1 : Int32)), (.int (2 : Int32)), (.int (nI (2 * qb))), (.int (nI ((2 * (qb + 3)) - (2 * qb)))), (.int (nI (2 * qb)))] (st8) ?_
  refine gb m T8 28 LL7 [(.int ((2 : Int32) <<< ((1 : Int32) &&& 31))), (.int (nI (2 * qb))), (.int (nI ((2 * (qb + 3)) - (2 * qb)))), (.int (nI (2 * qb)))] (fun _ k => XS.ishl X8.here hx rfl (B d48_27) rfl k) ?_
  rw [show ((2 : Int32) <<< ((1 : Int32) &&& 31)) = (nI (2 * 2)) from own_shl1 (a := 2) (by omega)]
  refine gb m T8 29 LL7 [(.int ((nI (2 * qb)) + (nI (2 * 2)))), (.int (nI ((2 * (qb + 3)) - (2 * qb)))), (.int (nI (2 * qb)))] (fun _ k => XS.iadd X8.here hx rfl (B d48_28) rfl k) ?_
  rw [show ((nI (2 * qb)) + (nI (2 * 2))) = (nI ((2 * qb) + (2 * 2))) from own_add _ _]
  have hy9_0 : (2 * qb) < 500000000 := by omega
  have hy9_1 : ((2 * (qb + 3)) - (2 * qb)) < 500000000 := by omega
  have hy9_2 : ((2 * qb) + (2 * 2)) < 500000000 := by omega
  have hy9_3 : 0 < ((2 * qb) + (2 * 2)) := by omega
  obtain ⟨v9, T9, Lc9, X9, hQ9, st9⟩ := cS LL7 [] X8 hx hZ hown hw e8 hml 152 153 154 155 rfl rfl rfl rfl (by decide) (rm_newlen l Z a0 hw [] (2 * qb) ((2 * (qb + 3)) - (2 * qb)) ((2 * qb) + (2 * 2))   h0 n0 O hy9_0 hy9_1 hy9_2 hy9_3) pd4 rfl rfl (B d48_29) rfl
  obtain ⟨rfl, Nq9, e9⟩ := hQ9
  replace N := Fr.app N Nq9
  refine gb m T9 32 LL7 [(.int (nI ((2 * qb) + max ((2 * (qb + 3)) - (2 * qb)) ((2 * qb) + (2 * 2)))))] (st9) ?_
  let LL10 : Array Slot := #[.val (.ref bb), .val (.int (nI (qb + 3))), .val (.int (nI (2 * qb))), .val (.int (nI (2 * (qb + 3)))), .val (.int (nI ((2 * (qb + 3)) - (2 * qb)))), .val (.int (nI ((2 * qb) + max ((2 * (qb + 3)) - (2 * qb)) ((2 * qb) + (2 * 2)))))]
  refine gb m T9 34 LL10 [] (fun _ k => XS.istore X9.here hx rfl (B d48_32) rfl (l' := LL10) rfl k) ?_
  refine tI 36 X9 hx (B d48_34) rfl rfl ?_
  refine gb m T9 38 LL10 [(.int (2147483647 : Int32)), (.int (nI ((2 * qb) + max ((2 * (qb + 3)) - (2 * qb)) ((2 * qb) + (2 * 2)))))] (X9.ldcInt hx hown (mvT hZ (wv hw 160 rfl)) (g := (mkF m 36 LL10 [(.int (nI ((2 * qb) + max ((2 * (qb + 3)) - (2 * qb)) ((2 * qb) + (2 * 2)))))])) rfl (B d48_36)) ?_
  refine gb m T9 51 LL10 [] (fun _ k => XS.icmpYes X9.here hx rfl (pc0 := 38) (pc' := 51) rfl (B d48_38) rfl (feq (mt (own_neq (a := ((2 * qb) + max ((2 * (qb + 3)) - (2 * qb)) ((2 * qb) + (2 * 2)))) (b := 2147483647) (by omega) (by omega)).mp (by omega))).2 (by decide) (by decide) k) ?_
  refine tI 53 X9 hx (B d48_51) rfl rfl ?_
  refine sA 54 X9 hx (B d48_53) rfl rfl rfl ?_
  obtain ⟨T12, X12, e12, st12⟩ := getF X9 hx hZ hown (host := "") (Or.inl (wv hw 89 rfl)) Via.refl e9 Fc_b (g := (mkF m 54 LL10 [(.ref bb), (.int (nI ((2 * qb) + max ((2 * (qb + 3)) - (2 * qb)) ((2 * qb) + (2 * 2)))))])) rfl rfl (B d48_54)
  refine gb m T12 57 LL10 [(.int (1 : Int32)), (.int (nI ((2 * qb) + max ((2 * (qb + 3)) - (2 * qb)) ((2 * qb) + (2 * 2)))))] (st12) ?_
  refine gb m T12 58 LL10 [(.int ((nI ((2 * qb) + max ((2 * (qb + 3)) - (2 * qb)) ((2 * qb) + (2 * 2)))) >>> ((1 : Int32) &&& 31)))] (fun _ k => XS.ishr X12.here hx rfl (B d48_57) rfl k) ?_
  rw [show ((nI ((2 * qb) + max ((2 * (qb + 3)) - (2 * qb)) ((2 * qb) + (2 * 2)))) >>> ((1 : Int32) &&& 31)) = (nI (((2 * qb) + max ((2 * (qb + 3)) - (2 * qb)) ((2 * qb) + (2 * 2))) / 2)) from own_shrg (a := ((2 * qb) + max ((2 * (qb + 3)) - (2 * qb)) ((2 * qb) + (2 * 2)))) (by omega)]
  obtain ⟨fs, hr, hrun, hended, hW, hsame⟩ := X12.leave (v := some (.int (nI (((2 * qb) + max ((2 * (qb + 3)) - (2 * qb)) ((2 * qb) + (2 * 2))) / 2)))) (fun h => by rw [Bd.returns] at h; cases h)
  refine ⟨_, _, retOut X12 hx Bd.returns rfl (Or.inl ⟨rfl, Or.inl rfl, _, rfl⟩) (B d48_58) hr, hrun, hended, _, _, rfl, ?_, ⟨_, rfl⟩, hW, hsame.mono (by decide) (by decide)⟩
  show Qpure (some (.int (nI (2 * qb + 2)))) h0 n0 (some (.int (nI (((2 * qb) + max ((2 * (qb + 3)) - (2 * qb)) ((2 * qb) + (2 * 2))) / 2)))) T12.heap _
  rw [e12]
  exact ⟨by rw [show 2 * qb + 2 = (((2 * qb) + max ((2 * (qb + 3)) - (2 * qb)) ((2 * qb) + (2 * 2))) / 2) by omega], N, rfl⟩

theorem d49_0 : decode c49 0 = .ok (.iload_n 1, 1) := by decide +kernel
theorem d49_1 : decode c49 1 = .ok (.aload_n 0, 1) := by decide +kernel
theorem d49_2 : decode c49 2 = .ok (.arraylength, 1) := by decide +kernel
theorem d49_3 : decode c49 3 = .ok (.if_icmp .ne 11, 3) := by decide +kernel
theorem d49_14 : decode c49 14 = .ok (.iload_n 1, 1) := by decide +kernel
theorem d49_15 : decode c49 15 = .ok (.newarray .byte, 2) := by decide +kernel
theorem d49_17 : decode c49 17 = .ok (.astore_n 2, 1) := by decide +kernel
theorem d49_18 : decode c49 18 = .ok (.aload_n 0, 1) := by decide +kernel
theorem d49_19 : decode c49 19 = .ok (.iconst 0, 1) := by decide +kernel
theorem d49_20 : decode c49 20 = .ok (.aload_n 2, 1) := by decide +kernel
theorem d49_21 : decode c49 21 = .ok (.iconst 0, 1) := by decide +kernel
theorem d49_22 : decode c49 22 = .ok (.aload_n 0, 1) := by decide +kernel
theorem d49_23 : decode c49 23 = .ok (.arraylength, 1) := by decide +kernel
theorem d49_24 : decode c49 24 = .ok (.iload_n 1, 1) := by decide +kernel
theorem d49_25 : decode c49 25 = .ok (.invokestatic 304, 3) := by decide +kernel
theorem d49_28 : decode c49 28 = .ok (.invokestatic 150, 3) := by decide +kernel
theorem d49_31 : decode c49 31 = .ok (.aload_n 2, 1) := by decide +kernel
theorem d49_32 : decode c49 32 = .ok (.areturn, 1) := by decide +kernel
theorem pn_copyof : plainFor (⟨"java/util/Arrays", "copyOf", "([BI)[B"⟩ : MethodName) = true := plainFor_of_name (by first | (simp [plainName, overriddenIn]; done) | decide +kernel)
theorem ef_copyof (m : MethodId) (x0 : Addr) (x1 : Int32) : entryFrame m #[(.ref x0), (.int x1)] 3 = mkF m 0 #[.val (.ref x0), .val (.int x1), .unset] [] := by first | (simp [entryFrame, mkF, argsToLocals, Value.category]; done) | rfl
theorem rm_copyof (l : Launch) (Z : State) (a0 : Array Value) (hw : ∀ d ∈ tables_1, d.before a0 Z = true) (ws : List Jvm.Cond) (tb : Addr) (kt : ClassId) (Lb : Nat) (ft : Nat → Int32) (Nn : Nat) (h0 : Heap) (n0 : Nat) (O : Old Z n0 h0) (V_t : Arv Z h0 tb kt .byte (nI Lb) (cont Lb ft) (.int 0)) (hy0 : Lb < Nn) (hy1 : Nn ≤ 1100) :
    MF l Z h0 (⟨"java/util/Arrays", "copyOf", "([BI)[B"⟩ : MethodName) c49 3 (some (.array .byte)) ws (rk 1 1 1100 18) #[(.ref tb), (.int (nI Nn))] (Qnw Z Nn (fun f => ∀ i, i < Lb → f i = ft i) h0 n0) := by
  refine sg n0 [] pn_copyof rfl (fun m => ef_copyof m tb (nI Nn)) fun p e s m below meth c s₁ Bd hml hZ hh hx B hown hnm X0 e0 N K => ?_
  let LL1 : Array Slot := #[.val (.ref tb), .val (.int (nI Nn)), .unset]
  refine sI 1 X0 hx (B d49_0) rfl rfl ?_
  refine sA 2 X0 hx (B d49_1) rfl rfl rfl ?_
  obtain ⟨cl2, Ar2, q2, S2, N2', H2, G2⟩ := id V_t
  refine gb m s₁ 3 LL1 [(.int (nI Lb)), (.int (nI Nn))] (fun t k => X0.arraylength hx (by rw [e0]; exact Ar2.1) (State.isArrayOf_alike hZ.alike Ar2.2.1) (g := (mkF m 2 LL1 [(.ref tb), (.int (nI Nn))])) rfl rfl (B d49_2) t (by rw [len_of S2 N2']; exact k)) ?_
  refine gb m s₁ 14 LL1 [] (fun _ k => XS.icmpYes X0.here hx rfl (pc0 := 3) (pc' := 14) rfl (B d49_3) rfl (feq (mt (own_neq (a := Nn) (b := Lb) (by omega) (by omega)).mp (by omega))).2 (by decide) (by decide) k) ?_
  refine sI 15 X0 hx (B d49_14) rfl rfl ?_
  obtain ⟨T4, h4, k4, X4, e4, E4, A4, B4, st4⟩ := newPE X0 hx hZ (wv hw 25 rfl) e0 (g := (mkF m 15 LL1 [(.int (nI Nn))])) rfl (B d49_15) (n := (nI Nn)) rfl (own_neg (a := Nn) (by omega)) (cap := 1100) (by rw [own_nat (a := Nn) (by omega)]; omega) (by decide) (by decide) (by decide) (ad := "[B") (by decide)
  obtain ⟨b4, g4⟩ : ∃ z, z = h0.size := ⟨_, rfl⟩
  rw [← g4] at A4 B4 st4
  have ne_tb_b4 : tb ≠ b4 := Nat.ne_of_lt (Nat.lt_of_lt_of_le V_t.lt (Nat.le_of_eq g4.symm))
  have g_b4 : n0 ≤ b4 := Nat.le_trans (Old.le O) (Nat.le_of_eq g4.symm)
  have sz_b4 : h0.size ≤ b4 := Nat.le_trans K.1 (Nat.le_of_eq g4.symm)
  replace V_t := V_t.ext E4
  replace O := O.ext E4
  replace K := K.ext E4
  have V_b4 : Arv Z h4 b4 k4 .byte (nI Nn) (cont Nn (fun _ => 0)) (.int 0) := own_cnew (Arv.new A4 (own_neg (a := Nn) (by omega)))
  have E_b4 := B4
  obtain ⟨fz4, hfz4⟩ : ∃ g : Nat → Int32, g = fun _ => 0 := ⟨_, rfl⟩
  rw [← hfz4] at V_b4
  refine gb m T4 17 LL1 [(.ref b4)] (st4) ?_
  let LL5 : Array Slot := #[.val (.ref tb), .val (.int (nI Nn)), .val (.ref b4)]
  refine gb m T4 18 LL5 [] (fun _ k => XS.astoreN X4.here hx rfl (B d49_17) rfl rfl (l' := LL5) rfl k) ?_
  refine sA 19 X4 hx (B d49_18) rfl rfl rfl ?_
  refine sC 20 (0 : Int32) X4 hx (B d49_19) rfl rfl ?_
  refine sA 21 X4 hx (B d49_20) rfl rfl rfl ?_
  refine sC 22 (0 : Int32) X4 hx (B d49_21) rfl rfl ?_
  refine sA 23 X4 hx (B d49_22) rfl rfl rfl ?_
  obtain ⟨cl6, Ar6, q6, S6, N6', H6, G6⟩ := id V_t
  refine gb m T4 24 LL5 [(.int (nI Lb)), (.int (0 : Int32)), (.ref b4), (.int (0 : Int32)), (.ref tb)] (fun t k => X4.arraylength hx (by rw [e4]; exact Ar6.1) (State.isArrayOf_alike hZ.alike Ar6.2.1) (g := (mkF m 23 LL5 [(.ref tb), (.int (0 : Int32)), (.ref b4), (.int (0 : Int32)), (.ref tb)])) rfl rfl (B d49_23) t (by rw [len_of S6 N6']; exact k)) ?_
  refine sI 25 X4 hx (B d49_24) rfl rfl ?_
  have hy7_0 : Lb < 1073741824 := by omega
  have hy7_1 : Nn < 1073741824 := by omega
  obtain ⟨v7, T7, Lc7, X7, hQ7, st7⟩ := cS LL5 [(.int (0 : Int32)), (.ref b4), (.int (0 : Int32)), (.ref tb)] X4 hx hZ hown hw e4 hml 118 119 120 121 rfl rfl rfl rfl (by decide) (rm_min l Z a0 hw [] Lb Nn   h4 n0 O hy7_0 hy7_1) pd0 rfl rfl (B d49_25) rfl
  obtain ⟨rfl, Nq7, e7⟩ := hQ7
  replace N := Fr.app N Nq7
  refine gb m T7 28 LL5 [(.int (nI (min Lb Nn))), (.int (0 : Int32)), (.ref b4), (.int (0 : Int32)), (.ref tb)] (st7) ?_
  obtain ⟨T8, h8, L8, X8, e8, N8, K8, V8, st8⟩ := cpA X7 hx hZ hown (wv hw 122 rfl) (wv hw 125 rfl) (wv hw 123 rfl) (wv hw 124 rfl) e7 V_t V_b4 (Or.inl ⟨rfl, rfl⟩) (sp := (nI 0)) (dp := (nI 0)) (nn := (nI (min Lb Nn))) (own_neg (a := 0) (by omega)) (own_neg (a := 0) (by omega)) (own_neg (a := (min Lb Nn)) (by omega)) (by rw [own_nat (a := 0) (by omega), own_nat (a := (min Lb Nn)) (by omega), own_nat (a := Lb) (by omega)]; omega) (by rw [own_nat (a := 0) (by omega), own_nat (a := (min Lb Nn)) (by omega), own_nat (a := Nn) (by omega)]; omega) rfl (by rw [own_nat (a := 0) (by omega), own_nat (a := (min Lb Nn)) (by omega), own_clen]; omega) N g_b4 (g := (mkF m 28 LL5 [(.int (nI (min Lb Nn))), (.int (0 : Int32)), (.ref b4), (.int (0 : Int32)), (.ref tb)])) rfl (by rw [hml]; rfl) rfl (B d49_28) (by decide) (W := 0) (by show 2 * 0 + _ ≤ _; exact Nat.le_of_eq rfl) (by decide)
  replace N := N8
  rw [own_nat (a := 0) (by omega), own_nat (a := (min Lb Nn)) (by omega), own_ccp (by omega) (by omega)] at V8
  replace V_t := V_t.keep K8 (ninS ne_tb_b4 nin0)
  replace E_b4 := E_b4.keep K8
  replace O := O.keep K8 (allS g_b4 all0)
  replace K := K.trans K8 (allS (Or.inr sz_b4) all0)
  obtain ⟨fd8, hfd8⟩ : ∃ g, g = cpy ft 0 fz4 0 (min Lb Nn) := ⟨_, rfl⟩
  rw [← hfd8] at V8
  refine gb m T8 31 LL5 [] (st8) ?_
  refine sA 32 X8 hx (B d49_31) rfl rfl rfl ?_
  obtain ⟨fs, hr, hrun, hended, hW, hsame⟩ := X8.leave (v := some (.ref b4)) (fun h => by rw [Bd.returns] at h; cases h)
  refine ⟨_, _, retOut X8 hx Bd.returns rfl (Or.inr (Or.inr (Or.inr (Or.inr ⟨rfl, rfl, rfl⟩)))) (B d49_32) hr, hrun, hended, _, _, rfl, ?_, ⟨_, rfl⟩, hW, hsame.mono (by decide) (by decide)⟩
  show Qnw Z Nn (fun f => ∀ i, i < Lb → f i = ft i) h0 n0 (some (.ref b4)) T8.heap _
  rw [e8]
  exact ⟨_, _, _, rfl, N, K, sz_b4, V8, E_b4, fun i hi => own_cpy0 hfd8 (by omega)⟩

theorem d50_0 : decode c50 0 = .ok (.aload_n 0, 1) := by decide +kernel
theorem d50_1 : decode c50 1 = .ok (.getfield 15, 3) := by decide +kernel
theorem d50_4 : decode c50 4 = .ok (.arraylength, 1) := by decide +kernel
theorem d50_5 : decode c50 5 = .ok (.aload_n 0, 1) := by decide +kernel
theorem d50_6 : decode c50 6 = .ok (.getfield 22, 3) := by decide +kernel
theorem d50_9 : decode c50 9 = .ok (.ishr, 1) := by decide +kernel
theorem d50_10 : decode c50 10 = .ok (.istore_n 2, 1) := by decide +kernel
theorem d50_11 : decode c50 11 = .ok (.iload_n 1, 1) := by decide +kernel
theorem d50_12 : decode c50 12 = .ok (.iload_n 2, 1) := by decide +kernel
theorem d50_13 : decode c50 13 = .ok (.isub, 1) := by decide +kernel
theorem d50_14 : decode c50 14 = .ok (.ifCond .le 24, 3) := by decide +kernel
theorem d50_17 : decode c50 17 = .ok (.aload_n 0, 1) := by decide +kernel
theorem d50_18 : decode c50 18 = .ok (.aload_n 0, 1) := by decide +kernel
theorem d50_19 : decode c50 19 = .ok (.getfield 15, 3) := by decide +kernel
theorem d50_22 : decode c50 22 = .ok (.aload_n 0, 1) := by decide +kernel
theorem d50_23 : decode c50 23 = .ok (.iload_n 1, 1) := by decide +kernel
theorem d50_24 : decode c50 24 = .ok (.invokevirtual 104, 3) := by decide +kernel
theorem d50_27 : decode c50 27 = .ok (.aload_n 0, 1) := by decide +kernel
theorem d50_28 : decode c50 28 = .ok (.getfield 22, 3) := by decide +kernel
theorem d50_31 : decode c50 31 = .ok (.ishl, 1) := by decide +kernel
theorem d50_32 : decode c50 32 = .ok (.invokestatic 108, 3) := by decide +kernel
theorem d50_35 : decode c50 35 = .ok (.putfield 15, 3) := by decide +kernel
theorem d50_38 : decode c50 38 = .ok (.return_, 1) := by decide +kernel
theorem pn_en0 : plainFor (⟨"java/lang/AbstractStringBuilder", "ensureCapacityInternal", "(I)V"⟩ : MethodName) = true := plainFor_of_name (by first | (simp [plainName, overriddenIn]; done) | decide +kernel)
theorem pd29 : parseMethodDescriptor "([BI)[B" = some ⟨[(.array .byte), .int], some (.array .byte)⟩ := by decide +kernel
theorem ef_en0 (m : MethodId) (x0 : Addr) (x1 : Int32) : entryFrame m #[(.ref x0), (.int x1)] 3 = mkF m 0 #[.val (.ref x0), .val (.int x1), .unset] [] := by first | (simp [entryFrame, mkF, argsToLocals, Value.category]; done) | rfl
theorem rm_en0 (l : Launch) (Z : State) (a0 : Array Value) (hw : ∀ d ∈ tables_1, d.before a0 Z = true) (ws : List Jvm.Cond) (bb tb : Addr) (kt : ClassId) (Lb cb : Nat) (ft : Nat → Int32) (M : Nat) (h0 : Heap) (n0 : Nat) (O : Old Z n0 h0) (E_b : Exa Z h0 bb "java/lang/StringBuilder") (Fv_b : Fld Z h0 bb "java/lang/AbstractStringBuilder" "value" "[B" (.ref tb)) (Fc_b : Fld Z h0 bb "java/lang/AbstractStringBuilder" "coder" "B" (.int 0)) (Fn_b : Fld Z h0 bb "java/lang/AbstractStringBuilder" "count" "I" (.int (nI cb))) (Fm_b : Fld Z h0 bb "java/lang/AbstractStringBuilder" "maybeLatin1" "Z" (.int 0)) (V_t : Arv Z h0 tb kt .byte (nI Lb) (cont Lb ft) (.int 0)) (E_t : Exa Z h0 tb "[B") (g_bb : n0 ≤ bb) (g_tb : n0 ≤ tb) (hy0 : Lb < M) (hy1 : M ≤ 300) :
    MF l Z h0 (⟨"java/lang/AbstractStringBuilder", "ensureCapacityInternal", "(I)V"⟩ : MethodName) c50 3 none ws (rk 3 1 1100 48) #[(.ref bb), (.int (nI M))] (Qbd Z bb none 0 cb (Lb + max (M - Lb) (Lb + 2)) (fun f => ∀ i, i < Lb → f i = ft i) h0 n0) := by
  refine sg n0 [bb] pn_en0 rfl (fun m => ef_en0 m bb (nI M)) fun p e s m below meth c s₁ Bd hml hZ hh hx B hown hnm X0 e0 N K => ?_
  have n_bt : bb ≠ tb := (own_nev E_b (wv hw 74 rfl) V_t)
  let LL1 : Array Slot := #[.val (.ref bb), .val (.int (nI M)), .unset]
  refine sA 1 X0 hx (B d50_0) rfl rfl rfl ?_
  obtain ⟨T2, X2, e2, st2⟩ := getF X0 hx hZ hown (host := "") (Or.inl (wv hw 87 rfl)) Via.refl e0 Fv_b (g := (mkF m 1 LL1 [(.ref bb)])) rfl rfl (B d50_1)
  refine gb m T2 4 LL1 [(.ref tb)] (st2) ?_
  obtain ⟨cl3, Ar3, q3, S3, N3', H3, G3⟩ := id V_t
  refine gb m T2 5 LL1 [(.int (nI Lb))] (fun t k => X2.arraylength hx (by rw [e2]; exact Ar3.1) (State.isArrayOf_alike hZ.alike Ar3.2.1) (g := (mkF m 4 LL1 [(.ref tb)])) rfl rfl (B d50_4) t (by rw [len_of S3 N3']; exact k)) ?_
  refine sA 6 X2 hx (B d50_5) rfl rfl rfl ?_
  obtain ⟨T4, X4, e4, st4⟩ := getF X2 hx hZ hown (host := "") (Or.inl (wv hw 89 rfl)) Via.refl e2 Fc_b (g := (mkF m 6 LL1 [(.ref bb), (.int (nI Lb))])) rfl rfl (B d50_6)
  refine gb m T4 9 LL1 [(.int (0 : Int32)), (.int (nI Lb))] (st4) ?_
  refine gb m T4 10 LL1 [(.int ((nI Lb) >>> ((0 : Int32) &&& 31)))] (fun _ k => XS.ishr X4.here hx rfl (B d50_9) rfl k) ?_
  rw [show ((nI Lb) >>> ((0 : Int32) &&& 31)) = (nI Lb) from own_shr0 _]
  let LL5 : Array Slot := #[.val (.ref bb), .val (.int (nI M)), .val (.int (nI Lb))]
  refine gb m T4 11 LL5 [] (fun _ k => XS.istoreN X4.here hx rfl (B d50_10) rfl (l' := LL5) rfl k) ?_
  refine sI 12 X4 hx (B d50_11) rfl rfl ?_
  refine sI 13 X4 hx (B d50_12) rfl rfl ?_
  refine gb m T4 14 LL5 [(.int ((nI M) - (nI Lb)))] (fun _ k => XS.isub X4.here hx rfl (B d50_13) rfl k) ?_
  refine gb m T4 17 LL5 [] (fun _ k => XS.ifNo X4.here hx rfl (B d50_14) rfl ((if0 _ _).trans (tlt ((own_pos (a := M) (b := Lb) (by omega) (by omega)).mpr (by omega))).2.2.2) k) ?_
  refine sA 18 X4 hx (B d50_17) rfl rfl rfl ?_
  refine sA 19 X4 hx (B d50_18) rfl rfl rfl ?_
  obtain ⟨T7, X7, e7, st7⟩ := getF X4 hx hZ hown (host := "") (Or.inl (wv hw 87 rfl)) Via.refl e4 Fv_b (g := (mkF m 19 LL5 [(.ref bb), (.ref bb)])) rfl rfl (B d50_19)
  refine gb m T7 22 LL5 [(.ref tb), (.ref bb)] (st7) ?_
  refine sA 23 X7 hx (B d50_22) rfl rfl rfl ?_
  refine sI 24 X7 hx (B d50_23) rfl rfl ?_
  have hy8_0 : Lb < M := by omega
  have hy8_1 : M ≤ 300 := by omega
  obtain ⟨cq8, q8, q8'⟩ := E_b.cell
  obtain ⟨v8, _, ⟨T8, L8, k8, n8⟩, -, X8, ⟨Lc8, hQ8, l8, y8, z8⟩, st8⟩ := X7.privateBack hx (y := (⟨"java/lang/AbstractStringBuilder", "newCapacity", "(I)I"⟩ : MethodName)) hown (mvT hZ (wv hw 147 rfl)) (mvT hZ (wv hw 148 rfl)) (own_selp (mvT hZ (wv hw 150 rfl)) (Cond.privateMethod_at (mvP hZ (wv hw 149 rfl) (args := #[]))) (mvT hZ (wv hw 148 rfl)) (by decide)) (Cond.privateMethod_at (mvP hZ (wv hw 149 rfl) (args := #[]))) (mvT hZ (wv hw 151 rfl)) (by decide) (backOf (W := 2) (rm_nc0 l Z a0 hw [] bb tb _ Lb cb ft M h0 n0 O E_b Fv_b Fc_b Fn_b Fm_b V_t E_t g_bb g_tb hy8_0 hy8_1) hZ (wv hw 151 rfl) (wv hw 83 rfl) (by decide) (by decide)) (g := (mkF m 24 LL5 [(.int (nI M)), (.ref bb), (.ref tb), (.ref bb)])) rfl (by rw [hml]; rfl) (Steps.refl _) (a := bb) (by rw [e7]; exact q8) q8' (argsL := [(.int (nI M))]) (rest := [(.ref tb), (.ref bb)]) (lenOf pd6 rfl) rfl (by show 2 * 0 + _ ≤ _; exact Nat.le_of_eq rfl) (B d50_24) (fun _ _ => ⟨rfl, e7, (by decide : 0 + 0 ≤ _), (by decide : 0 + 0 ≤ _)⟩)
  dsimp only [Pt.U, Pt.locs, Pt.cells, Pt.slots] at X8 l8 y8 z8 st8 hQ8
  rw [l8, y8, z8] at X8; clear l8 y8 z8
  obtain ⟨rfl, Nq8, e8⟩ := hQ8
  replace N := Fr.app N Nq8
  refine gb m T8 27 LL5 [(.int (nI (Lb + max (M - Lb) (Lb + 2)))), (.ref tb), (.ref bb)] (fun _ k => st8.trans k) ?_
  refine sA 28 X8 hx (B d50_27) rfl rfl rfl ?_
  obtain ⟨T9, X9, e9, st9⟩ := getF X8 hx hZ hown (host := "") (Or.inl (wv hw 89 rfl)) Via.refl e8 Fc_b (g := (mkF m 28 LL5 [(.ref bb), (.int (nI (Lb + max (M - Lb) (Lb + 2)))), (.ref tb), (.ref bb)])) rfl rfl (B d50_28)
  refine gb m T9 31 LL5 [(.int (0 : Int32)), (.int (nI (Lb + max (M - Lb) (Lb + 2)))), (.ref tb), (.ref bb)] (st9) ?_
  refine gb m T9 32 LL5 [(.int ((nI (Lb + max (M - Lb) (Lb + 2))) <<< ((0 : Int32) &&& 31))), (.ref tb), (.ref bb)] (fun _ k => XS.ishl X9.here hx rfl (B d50_31) rfl k) ?_
  rw [show ((nI (Lb + max (M - Lb) (Lb + 2))) <<< ((0 : Int32) &&& 31)) = (nI (Lb + max (M - Lb) (Lb + 2))) from own_shl0 _]
  have hy10_0 : Lb < (Lb + max (M - Lb) (Lb + 2)) := by omega
  have hy10_1 : (Lb + max (M - Lb) (Lb + 2)) ≤ 1100 := by omega
  obtain ⟨v10, T10, Lc10, X10, hQ10, st10⟩ := cS LL5 [(.ref bb)] X9 hx hZ hown hw e9 hml 161 162 110 163 rfl rfl rfl rfl (by decide) (rm_copyof l Z a0 hw [] tb _ Lb ft (Lb + max (M - Lb) (Lb + 2)) h0 n0 O V_t hy10_0 hy10_1) pd29 rfl rfl (B d50_32) rfl
  obtain ⟨r10, k210, fd10, rfl, Nq10, K10, gr10, Vr10, Er10, hP10⟩ := hQ10
  replace N := Fr.app N Nq10
  have ne_bb_r10 : bb ≠ r10 := Nat.ne_of_lt (Nat.lt_of_lt_of_le E_b.lt gr10)
  have sz_r10 : h0.size ≤ r10 := Nat.le_trans K.1 gr10
  replace E_b := E_b.keep K10
  replace Fv_b := Fv_b.keep K10 nin0
  replace Fc_b := Fc_b.keep K10 nin0
  replace Fn_b := Fn_b.keep K10 nin0
  replace Fm_b := Fm_b.keep K10 nin0
  replace V_t := V_t.keep K10 nin0
  replace E_t := E_t.keep K10
  replace O := O.keep K10 all0
  replace K := K.trans K10 all0
  refine gb m T10 35 LL5 [(.ref r10), (.ref bb)] (st10) ?_
  obtain ⟨T11, h11, X11, e11, W11, st11⟩ := putF X10 hx hZ hown (host := "") (Or.inl (wv hw 87 rfl)) Via.refl rfl Fv_b E_b (Or.inl (wv hw 88 rfl)) (wv hw 74 rfl) (ty := (.array .byte)) (by decide) rfl rfl (g := (mkF m 35 LL5 [(.ref r10), (.ref bb)])) rfl rfl (B d50_35)
  replace E_b := E_b.wr W11
  replace Fc_b := Fc_b.other W11 (Or.inr (slot_ne (Or.inl (wv hw 90 rfl)) (Or.inl (wv hw 88 rfl)) (by decide) (t := .byte) (t' := (.array .byte)) (by decide) (by decide)))
  replace Fn_b := Fn_b.other W11 (Or.inr (slot_ne (Or.inl (wv hw 141 rfl)) (Or.inl (wv hw 88 rfl)) (by decide) (t := .int) (t' := (.array .byte)) (by decide) (by decide)))
  replace Fm_b := Fm_b.other W11 (Or.inr (slot_ne (Or.inl (wv hw 312 rfl)) (Or.inl (wv hw 88 rfl)) (by decide) (t := .boolean) (t' := (.array .byte)) (by decide) (by decide)))
  replace V_t := V_t.other W11 (Ne.symm n_bt)
  replace E_t := E_t.wr W11
  replace Vr10 := Vr10.other W11 (Ne.symm ne_bb_r10)
  replace Er10 := Er10.wr W11
  replace Fv_b := Fv_b.same W11
  replace O := O.wr W11 g_bb
  replace K := K.wr W11 (Or.inl (by simp))
  replace N := Fr.snoc X11 N g_bb
  refine gb m T11 38 LL5 [] (st11) ?_
  obtain ⟨fs, hr, hrun, hended, hW, hsame⟩ := X11.leave (v := none) (fun _ => rfl)
  refine ⟨_, _, X11.returnOut hx Bd.returns (B d50_38) hr, hrun, hended, _, _, rfl, ?_, ⟨_, rfl⟩, hW, hsame.mono (by decide) (by decide)⟩
  show Qbd Z bb none 0 cb (Lb + max (M - Lb) (Lb + 2)) (fun f => ∀ i, i < Lb → f i = ft i) h0 n0 (none) T11.heap _
  rw [e11]
  exact ⟨rfl, N, K, r10, _, _, sz_r10, Fv_b, Fc_b, Fn_b, Fm_b, Vr10, Er10, hP10⟩

theorem pn_en1 : plainFor (⟨"java/lang/AbstractStringBuilder", "ensureCapacityInternal", "(I)V"⟩ : MethodName) = true := plainFor_of_name (by first | (simp [plainName, overriddenIn]; done) | decide +kernel)
theorem ef_en1 (m : MethodId) (x0 : Addr) (x1 : Int32) : entryFrame m #[(.ref x0), (.int x1)] 3 = mkF m 0 #[.val (.ref x0), .val (.int x1), .unset] [] := by first | (simp [entryFrame, mkF, argsToLocals, Value.category]; done) | rfl
theorem rm_en1 (l : Launch) (Z : State) (a0 : Array Value) (hw : ∀ d ∈ tables_1, d.before a0 Z = true) (ws : List Jvm.Cond) (bb tb : Addr) (kt : ClassId) (qb cb : Nat) (ft : Nat → Int32) (h0 : Heap) (n0 : Nat) (O : Old Z n0 h0) (E_b : Exa Z h0 bb "java/lang/StringBuilder") (Fv_b : Fld Z h0 bb "java/lang/AbstractStringBuilder" "value" "[B" (.ref tb)) (Fc_b : Fld Z h0 bb "java/lang/AbstractStringBuilder" "coder" "B" (.int 1)) (Fn_b : Fld Z h0 bb "java/lang/AbstractStringBuilder" "count" "I" (.int (nI cb))) (Fm_b : Fld Z h0 bb "java/lang/AbstractStringBuilder" "maybeLatin1" "Z" (.int 0)) (V_t : Arv Z h0 tb kt .byte (nI (2 * qb)) (cont (2 * qb) ft) (.int 0)) (E_t : Exa Z h0 tb "[B") (g_bb : n0 ≤ bb) (g_tb : n0 ≤ tb) (hy0 : qb ≤ 270) (hy1 : 3 ≤ qb) :
    MF l Z h0 (⟨"java/lang/AbstractStringBuilder", "ensureCapacityInternal", "(I)V"⟩ : MethodName) c50 3 none ws (rk 3 1 1100 48) #[(.ref bb), (.int (nI (qb + 3)))] (Qbd Z bb none 1 cb (2 * (2 * qb + 2)) (fun f => ∀ i, i < 2 * qb → f i = ft i) h0 n0) := by
  refine sg n0 [bb] pn_en1 rfl (fun m => ef_en1 m bb (nI (qb + 3))) fun p e s m below meth c s₁ Bd hml hZ hh hx B hown hnm X0 e0 N K => ?_
  have n_bt : bb ≠ tb := (own_nev E_b (wv hw 74 rfl) V_t)
  let LL1 : Array Slot := #[.val (.ref bb), .val (.int (nI (qb + 3))), .unset]
  refine sA 1 X0 hx (B d50_0) rfl rfl rfl ?_
  obtain ⟨T2, X2, e2, st2⟩ := getF X0 hx hZ hown (host := "") (Or.inl (wv hw 87 rfl)) Via.refl e0 Fv_b (g := (mkF m 1 LL1 [(.ref bb)])) rfl rfl (B d50_1)
  refine gb m T2 4 LL1 [(.ref tb)] (st2) ?_
  obtain ⟨cl3, Ar3, q3, S3, N3', H3, G3⟩ := id V_t
  refine gb m T2 5 LL1 [(.int (nI (2 * qb)))] (fun t k => X2.arraylength hx (by rw [e2]; exact Ar3.1) (State.isArrayOf_alike hZ.alike Ar3.2.1) (g := (mkF m 4 LL1 [(.ref tb)])) rfl rfl (B d50_4) t (by rw [len_of S3 N3']; exact k)) ?_
  refine sA 6 X2 hx (B d50_5) rfl rfl rfl ?_
  obtain ⟨T4, X4, e4, st4⟩ := getF X2 hx hZ hown (host := "") (Or.inl (wv hw 89 rfl)) Via.refl e2 Fc_b (g := (mkF m 6 LL1 [(.ref bb), (.int (nI (2 * qb)))])) rfl rfl (B d50_6)
  refine gb m T4 9 LL1 [(.int (1 : Int32)), (.int (nI (2 * qb)))] (st4) ?_
  refine gb m T4 10 LL1 [(.int ((nI (2 * qb)) >>> ((1 : Int32) &&& 31)))] (fun _ k => XS.ishr X4.here hx rfl (B d50_9) rfl k) ?_
  rw [show ((nI (2 * qb)) >>> ((1 : Int32) &&& 31)) = (nI qb) from own_shr1 (a := qb) (by omega)]
  let LL5 : Array Slot := #[.val (.ref bb), .val (.int (nI (qb + 3))), .val (.int (nI qb))]
  refine gb m T4 11 LL5 [] (fun _ k => XS.istoreN X4.here hx rfl (B d50_10) rfl (l' := LL5) rfl k) ?_
  refine sI 12 X4 hx (B d50_11) rfl rfl ?_
  refine sI 13 X4 hx (B d50_12) rfl rfl ?_
  refine gb m T4 14 LL5 [(.int ((nI (qb + 3)) - (nI qb)))] (fun _ k => XS.isub X4.here hx rfl (B d50_13) rfl k) ?_
  refine gb m T4 17 LL5 [] (fun _ k => XS.ifNo X4.here hx rfl (B d50_14) rfl ((if0 _ _).trans (tlt ((own_pos (a := (qb + 3)) (b := qb) (by omega) (by omega)).mpr (by omega))).2.2.2) k) ?_
  refine sA 18 X4 hx (B d50_17) rfl rfl rfl ?_
  refine sA 19 X4 hx (B d50_18) rfl rfl rfl ?_
  obtain ⟨T7, X7, e7, st7⟩ := getF X4 hx hZ hown (host := "") (Or.inl (wv hw 87 rfl)) Via.refl e4 Fv_b (g := (mkF m 19 LL5 [(.ref bb), (.ref bb)])) rfl rfl (B d50_19)
  refine gb m T7 22 LL5 [(.ref tb), (.ref bb)] (st7) ?_
  refine sA 23 X7 hx (B d50_22) rfl rfl rfl ?_
  refine sI 24 X7 hx (B d50_23) rfl rfl ?_
  have hy8_0 : qb ≤ 300 := by omega
  have hy8_1 : 3 ≤ qb := by omega
  obtain ⟨cq8, q8, q8'⟩ := E_b.cell
  obtain ⟨v8, _, ⟨T8, L8, k8, n8⟩, -, X8, ⟨Lc8, hQ8, l8, y8, z8⟩, st8⟩ := X7.privateBack hx (y := (⟨"java/lang/AbstractStringBuilder", "newCapacity", "(I)I"⟩ : MethodName)) hown (mvT hZ (wv hw 147 rfl)) (mvT hZ (wv hw 148 rfl)) (own_selp (mvT hZ (wv hw 150 rfl)) (Cond.privateMethod_at (mvP hZ (wv hw 149 rfl) (args := #[]))) (mvT hZ (wv hw 148 rfl)) (by decide)) (Cond.privateMethod_at (mvP hZ (wv hw 149 rfl) (args := #[]))) (mvT hZ (wv hw 151 rfl)) (by decide) (backOf (W := 2) (rm_nc1 l Z a0 hw [] bb tb _ qb cb ft h0 n0 O E_b Fv_b Fc_b Fn_b Fm_b V_t E_t g_bb g_tb hy8_0 hy8_1) hZ (wv hw 151 rfl) (wv hw 83 rfl) (by decide) (by decide)) (g := (mkF m 24 LL5 [(.int (nI (qb + 3))), (.ref bb), (.ref tb), (.ref bb)])) rfl (by rw [hml]; rfl) (Steps.refl _) (a := bb) (by rw [e7]; exact q8) q8' (argsL := [(.int (nI (qb + 3)))]) (rest := [(.ref tb), (.ref bb)]) (lenOf pd6 rfl) rfl (by show 2 * 0 + _ ≤ _; exact Nat.le_of_eq rfl) (B d50_24) (fun _ _ => ⟨rfl, e7, (by decide : 0 + 0 ≤ _), (by decide : 0 + 0 ≤ _)⟩)
  dsimp only [Pt.U, Pt.locs, Pt.cells, Pt.slots] at X8 l8 y8 z8 st8 hQ8
  rw [l8, y8, z8] at X8; clear l8 y8 z8
  obtain ⟨rfl, Nq8, e8⟩ := hQ8
  replace N := Fr.app N Nq8
  refine gb m T8 27 LL5 [(.int (nI (2 * qb + 2))), (.ref tb), (.ref bb)] (fun _ k => st8.trans k) ?_
  refine sA 28 X8 hx (B d50_27) rfl rfl rfl ?_
  obtain ⟨T9, X9, e9, st9⟩ := getF X8 hx hZ hown (host := "") (Or.inl (wv hw 89 rfl)) Via.refl e8 Fc_b (g := (mkF m 28 LL5 [(.ref bb), (.int (nI (2 * qb + 2))), (.ref tb), (.ref bb)])) rfl rfl (B d50_28)
  refine gb m T9 31 LL5 [(.int (1 : Int32)), (.int (nI (2 * qb + 2))), (.ref tb), (.ref bb)] (st9) ?_
  refine gb m T9 32 LL5 [(.int ((nI (2 * qb + 2)) <<< ((1 : Int32) &&& 31))), (.ref tb), (.ref bb)] (fun _ k => XS.ishl X9.here hx rfl (B d50_31) rfl k) ?_
  rw [show ((nI (2 * qb + 2)) <<< ((1 : Int32) &&& 31)) = (nI (2 * (2 * qb + 2))) from own_shl1 (a := (2 * qb + 2)) (by omega)]
  have hy10_0 : (2 * qb) < (2 * (2 * qb + 2)) := by omega
  have hy10_1 : (2 * (2 * qb + 2)) ≤ 1100 := by omega
  obtain ⟨v10, T10, Lc10, X10, hQ10, st10⟩ := cS LL5 [(.ref bb)] X9 hx hZ hown hw e9 hml 161 162 110 163 rfl rfl rfl rfl (by decide) (rm_copyof l Z a0 hw [] tb _ (2 * qb) ft (2 * (2 * qb + 2)) h0 n0 O V_t hy10_0 hy10_1) pd29 rfl rfl (B d50_32) rfl
  obtain ⟨r10, k210, fd10, rfl, Nq10, K10, gr10, Vr10, Er10, hP10⟩ := hQ10
  replace N := Fr.app N Nq10
  have ne_bb_r10 : bb ≠ r10 := Nat.ne_of_lt (Nat.lt_of_lt_of_le E_b.lt gr10)
  have sz_r10 : h0.size ≤ r10 := Nat.le_trans K.1 gr10
  replace E_b := E_b.keep K10
  replace Fv_b := Fv_b.keep K10 nin0
  replace Fc_b := Fc_b.keep K10 nin0
  replace Fn_b := Fn_b.keep K10 nin0
  replace Fm_b := Fm_b.keep K10 nin0
  replace V_t := V_t.keep K10 nin0
  replace E_t := E_t.keep K10
  replace O := O.keep K10 all0
  replace K := K.trans K10 all0
  refine gb m T10 35 LL5 [(.ref r10), (.ref bb)] (st10) ?_
  obtain ⟨T11, h11, X11, e11, W11, st11⟩ := putF X10 hx hZ hown (host := "") (Or.inl (wv hw 87 rfl)) Via.refl rfl Fv_b E_b (Or.inl (wv hw 88 rfl)) (wv hw 74 rfl) (ty := (.array .byte)) (by decide) rfl rfl (g := (mkF m 35 LL5 [(.ref r10), (.ref bb)])) rfl rfl (B d50_35)
  replace E_b := E_b.wr W11
  replace Fc_b := Fc_b.other W11 (Or.inr (slot_ne (Or.inl (wv hw 90 rfl)) (Or.inl (wv hw 88 rfl)) (by decide) (t := .byte) (t' := (.array .byte)) (by decide) (by decide)))
  replace Fn_b := Fn_b.other W11 (Or.inr (slot_ne (Or.inl (wv hw 141 rfl)) (Or.inl (wv hw 88 rfl)) (by decide) (t := .int) (t' := (.array .byte)) (by decide) (by decide)))
  replace Fm_b := Fm_b.other W11 (Or.inr (slot_ne (Or.inl (wv hw 312 rfl)) (Or.inl (wv hw 88 rfl)) (by decide) (t := .boolean) (t' := (.array .byte)) (by decide) (by decide)))
  replace V_t := V_t.other W11 (Ne.symm n_bt)
  replace E_t := E_t.wr W11
  replace Vr10 := Vr10.other W11 (Ne.symm ne_bb_r10)
  replace Er10 := Er10.wr W11
  replace Fv_b := Fv_b.same W11
  replace O := O.wr W11 g_bb
  replace K := K.wr W11 (Or.inl (by simp))
  replace N := Fr.snoc X11 N g_bb
  refine gb m T11 38 LL5 [] (st11) ?_
  obtain ⟨fs, hr, hrun, hended, hW, hsame⟩ := X11.leave (v := none) (fun _ => rfl)
  refine ⟨_, _, X11.returnOut hx Bd.returns (B d50_38) hr, hrun, hended, _, _, rfl, ?_, ⟨_, rfl⟩, hW, hsame.mono (by decide) (by decide)⟩
  show Qbd Z bb none 1 cb (2 * (2 * qb + 2)) (fun f => ∀ i, i < 2 * qb → f i = ft i) h0 n0 (none) T11.heap _
  rw [e11]
  exact ⟨rfl, N, K, r10, _, _, sz_r10, Fv_b, Fc_b, Fn_b, Fm_b, Vr10, Er10, hP10⟩

theorem d51_0 : decode c51 0 = .ok (.getstatic 18, 3) := by decide +kernel
theorem d51_3 : decode c51 3 = .ok (.ifCond .eq 14, 3) := by decide +kernel
theorem d51_6 : decode c51 6 = .ok (.aload_n 0, 1) := by decide +kernel
theorem d51_7 : decode c51 7 = .ok (.getfield 22, 3) := by decide +kernel
theorem d51_10 : decode c51 10 = .ok (.ifCond .ne 7, 3) := by decide +kernel
theorem d51_13 : decode c51 13 = .ok (.iconst 1, 1) := by decide +kernel
theorem d51_14 : decode c51 14 = .ok (.goto 4, 3) := by decide +kernel
theorem d51_18 : decode c51 18 = .ok (.ireturn, 1) := by decide +kernel
theorem pn_bl0 : plainFor (⟨"java/lang/AbstractStringBuilder", "isLatin1", "()Z"⟩ : MethodName) = true := plainFor_of_name (by first | (simp [plainName, overriddenIn]; done) | decide +kernel)
theorem ef_bl0 (m : MethodId) (x0 : Addr) : entryFrame m #[(.ref x0)] 1 = mkF m 0 #[.val (.ref x0)] [] := by first | (simp [entryFrame, mkF, argsToLocals, Value.category]; done) | rfl
theorem rm_bl0 (l : Launch) (Z : State) (a0 : Array Value) (hw : ∀ d ∈ tables_1, d.before a0 Z = true) (ws : List Jvm.Cond) (bb tb : Addr) (kt : ClassId) (Lb cb : Nat) (ft : Nat → Int32) (zc : Int32) (fm : Value) (hS0 : Sf Z zc fm) (h0 : Heap) (n0 : Nat) (O : Old Z n0 h0) (E_b : Exa Z h0 bb "java/lang/StringBuilder") (Fv_b : Fld Z h0 bb "java/lang/AbstractStringBuilder" "value" "[B" (.ref tb)) (Fc_b : Fld Z h0 bb "java/lang/AbstractStringBuilder" "coder" "B" (.int 0)) (Fn_b : Fld Z h0 bb "java/lang/AbstractStringBuilder" "count" "I" (.int (nI cb))) (Fm_b : Fld Z h0 bb "java/lang/AbstractStringBuilder" "maybeLatin1" "Z" (.int 0)) (V_t : Arv Z h0 tb kt .byte (nI Lb) (cont Lb ft) (.int 0)) (E_t : Exa Z h0 tb "[B") (g_bb : n0 ≤ bb) (g_tb : n0 ≤ tb) :
    MF l Z h0 (⟨"java/lang/AbstractStringBuilder", "isLatin1", "()Z"⟩ : MethodName) c51 1 (some .boolean) ws (rk 0 0 0 0) #[(.ref bb)] (Qpure (some (.int 1)) h0 n0) := by
  refine sg n0 [] pn_bl0 rfl (fun m => ef_bl0 m bb) fun p e s m below meth c s₁ Bd hml hZ hh hx B hown hnm X0 e0 N K => ?_
  have n_bt : bb ≠ tb := (own_nev E_b (wv hw 74 rfl) V_t)
  let LL1 : Array Slot := #[.val (.ref bb)]
  obtain ⟨T2, X2, e2, st2⟩ := getS2 X0 hx hZ hown (host := "") (Or.inl (wv hw 86 rfl)) Via.refl e0 (Sta.ext O.2 hS0.1) (g := (mkF m 0 LL1 [])) rfl (B d51_0)
  refine gb m T2 3 LL1 [(.int zc)] (st2) ?_
  refine gb m T2 6 LL1 [] (fun _ k => XS.ifNo X2.here hx rfl (B d51_3) rfl ((if0 _ _).trans (feq hS0.2.1).1) k) ?_
  refine sA 7 X2 hx (B d51_6) rfl rfl rfl ?_
  obtain ⟨T4, X4, e4, st4⟩ := getF X2 hx hZ hown (host := "") (Or.inl (wv hw 89 rfl)) Via.refl e2 Fc_b (g := (mkF m 7 LL1 [(.ref bb)])) rfl rfl (B d51_7)
  refine gb m T4 10 LL1 [(.int (0 : Int32))] (st4) ?_
  refine gb m T4 13 LL1 [] (fun _ k => XS.ifNo X4.here hx rfl (B d51_10) rfl ((if0 _ _).trans (teq (by decide : (0 : Int32) = (0 : Int32))).2) k) ?_
  refine sC 14 (1 : Int32) X4 hx (B d51_13) rfl rfl ?_
  refine gb m T4 18 LL1 [(.int (1 : Int32))] (fun _ k => XS.goto X4.here hx rfl (pc0 := 14) (pc' := 18) rfl (B d51_14) (by decide) (by decide) k) ?_
  obtain ⟨fs, hr, hrun, hended, hW, hsame⟩ := X4.leave (v := some (.int (1 : Int32))) (fun h => by rw [Bd.returns] at h; cases h)
  refine ⟨_, _, retN X4 hx (t := .boolean) Bd.returns (by simp) (B d51_18) hr, hrun, hended, _, _, rfl, ?_, ⟨_, rfl⟩, hW, hsame.mono (by decide) (by decide)⟩
  show Qpure (some (.int 1)) h0 n0 (some (.int (1 : Int32))) T4.heap _
  rw [e4]
  exact ⟨rfl, N, rfl⟩

theorem d51_17 : decode c51 17 = .ok (.iconst 0, 1) := by decide +kernel
theorem pn_bl1 : plainFor (⟨"java/lang/AbstractStringBuilder", "isLatin1", "()Z"⟩ : MethodName) = true := plainFor_of_name (by first | (simp [plainName, overriddenIn]; done) | decide +kernel)
theorem ef_bl1 (m : MethodId) (x0 : Addr) : entryFrame m #[(.ref x0)] 1 = mkF m 0 #[.val (.ref x0)] [] := by first | (simp [entryFrame, mkF, argsToLocals, Value.category]; done) | rfl
theorem rm_bl1 (l : Launch) (Z : State) (a0 : Array Value) (hw : ∀ d ∈ tables_1, d.before a0 Z = true) (ws : List Jvm.Cond) (bb tb : Addr) (kt : ClassId) (qb cb : Nat) (ft : Nat → Int32) (zc : Int32) (fm : Value) (hS0 : Sf Z zc fm) (h0 : Heap) (n0 : Nat) (O : Old Z n0 h0) (E_b : Exa Z h0 bb "java/lang/StringBuilder") (Fv_b : Fld Z h0 bb "java/lang/AbstractStringBuilder" "value" "[B" (.ref tb)) (Fc_b : Fld Z h0 bb "java/lang/AbstractStringBuilder" "coder" "B" (.int 1)) (Fn_b : Fld Z h0 bb "java/lang/AbstractStringBuilder" "count" "I" (.int (nI cb))) (Fm_b : Fld Z h0 bb "java/lang/AbstractStringBuilder" "maybeLatin1" "Z" (.int 0)) (V_t : Arv Z h0 tb kt .byte (nI (2 * qb)) (cont (2 * qb) ft) (.int 0)) (E_t : Exa Z h0 tb "[B") (g_bb : n0 ≤ bb) (g_tb : n0 ≤ tb) :
    MF l Z h0 (⟨"java/lang/AbstractStringBuilder", "isLatin1", "()Z"⟩ : MethodName) c51 1 (some .boolean) ws (rk 0 0 0 0) #[(.ref bb)] (Qpure (some (.int 0)) h0 n0) := by
  refine sg n0 [] pn_bl1 rfl (fun m => ef_bl1 m bb) fun p e s m below meth c s₁ Bd hml hZ hh hx B hown hnm X0 e0 N K => ?_
  have n_bt : bb ≠ tb := (own_nev E_b (wv hw 74 rfl) V_t)
  let LL1 : Array Slot := #[.val (.ref bb)]
  obtain ⟨T2, X2, e2, st2⟩ := getS2 X0 hx hZ hown (host := "") (Or.inl (wv hw 86 rfl)) Via.refl e0 (Sta.ext O.2 hS0.1) (g := (mkF m 0 LL1 [])) rfl (B d51_0)
  refine gb m T2 3 LL1 [(.int zc)] (st2) ?_
  refine gb m T2 6 LL1 [] (fun _ k => XS.ifNo X2.here hx rfl (B d51_3) rfl ((if0 _ _).trans (feq hS0.2.1).1) k) ?_
  refine sA 7 X2 hx (B d51_6) rfl rfl rfl ?_
  obtain ⟨T4, X4, e4, st4⟩ := getF X2 hx hZ hown (host := "") (Or.inl (wv hw 89 rfl)) Via.refl e2 Fc_b (g := (mkF m 7 LL1 [(.ref bb)])) rfl rfl (B d51_7)
  refine gb m T4 10 LL1 [(.int (1 : Int32))] (st4) ?_
  refine gb m T4 17 LL1 [] (fun _ k => XS.ifYes X4.here hx rfl (pc0 := 10) (pc' := 17) rfl (B d51_10) rfl ((if0 _ _).trans (feq (by decide : ¬ ((1 : Int32) = (0 : Int32)))).2) (by decide) (by decide) k) ?_
  refine sC 18 (0 : Int32) X4 hx (B d51_17) rfl rfl ?_
  obtain ⟨fs, hr, hrun, hended, hW, hsame⟩ := X4.leave (v := some (.int (0 : Int32))) (fun h => by rw [Bd.returns] at h; cases h)
  refine ⟨_, _, retN X4 hx (t := .boolean) Bd.returns (by simp) (B d51_18) hr, hrun, hended, _, _, rfl, ?_, ⟨_, rfl⟩, hW, hsame.mono (by decide) (by decide)⟩
  show Qpure (some (.int 0)) h0 n0 (some (.int (0 : Int32))) T4.heap _
  rw [e4]
  exact ⟨rfl, N, rfl⟩

theorem d52_0 : decode c52 0 = .ok (.iload_n 3, 1) := by decide +kernel
theorem d52_1 : decode c52 1 = .ok (.iload 4, 2) := by decide +kernel
theorem d52_3 : decode c52 3 = .ok (.aload_n 2, 1) := by decide +kernel
theorem d52_4 : decode c52 4 = .ok (.invokestatic 173, 3) := by decide +kernel
theorem d52_7 : decode c52 7 = .ok (.iconst 0, 1) := by decide +kernel
theorem d52_8 : decode c52 8 = .ok (.istore 5, 2) := by decide +kernel
theorem d52_10 : decode c52 10 = .ok (.iload 5, 2) := by decide +kernel
theorem d52_12 : decode c52 12 = .ok (.iload 4, 2) := by decide +kernel
theorem d52_14 : decode c52 14 = .ok (.if_icmp .ge 27, 3) := by decide +kernel
theorem d52_41 : decode c52 41 = .ok (.return_, 1) := by decide +kernel
theorem pn_uinz : plainFor (⟨"java/lang/StringUTF16", "inflate", "([BI[BII)V"⟩ : MethodName) = true := plainFor_of_name (by first | (simp [plainName, overriddenIn]; done) | decide +kernel)
theorem ef_uinz (m : MethodId) (x0 : Addr) (x2 : Addr) : entryFrame m #[(.ref x0), (.int (0 : Int32)), (.ref x2), (.int (0 : Int32)), (.int (0 : Int32))] 6 = mkF m 0 #[.val (.ref x0), .val (.int (0 : Int32)), .val (.ref x2), .val (.int (0 : Int32)), .val (.int (0 : Int32)), .unset] [] := by first | (simp [entryFrame, mkF, argsToLocals, Value.category]; done) | rfl
theorem rm_uinz (l : Launch) (Z : State) (a0 : Array Value) (hw : ∀ d ∈ tables_1, d.before a0 Z = true) (ws : List Jvm.Cond) (sa tb : Addr) (kt : ClassId) (xn : Nat) (ft : Nat → Int32) (zc : Int32) (fm : Value) (hS0 : Sf Z zc fm) (h0 : Heap) (n0 : Nat) (O : Old Z n0 h0) (V_t : Arv Z h0 tb kt .byte (nI (2 * xn)) (cont (2 * xn) ft) (.int 0)) (hy0 : xn ≤ 600) :
    MF l Z h0 (⟨"java/lang/StringUTF16", "inflate", "([BI[BII)V"⟩ : MethodName) c52 6 none ws (rk 3 0 0 43) #[(.ref sa), (.int (0 : Int32)), (.ref tb), (.int (0 : Int32)), (.int (0 : Int32))] (Qpure none h0 n0) := by
  refine sg n0 [] pn_uinz rfl (fun m => ef_uinz m sa tb) fun p e s m below meth c s₁ Bd hml hZ hh hx B hown hnm X0 e0 N K => ?_
  let LL1 : Array Slot := #[.val (.ref sa), .val (.int (0 : Int32)), .val (.ref tb), .val (.int (0 : Int32)), .val (.int (0 : Int32)), .unset]
  refine sI 1 X0 hx (B d52_0) rfl rfl ?_
  refine tI 3 X0 hx (B d52_1) rfl rfl ?_
  refine sA 4 X0 hx (B d52_3) rfl rfl rfl ?_
  have hy2_0 : xn < 100000 := by omega
  have hy2_1 : 0 + 0 ≤ xn := by omega
  obtain ⟨v2, T2, Lc2, X2, hQ2, st2⟩ := cS LL1 [] X0 hx hZ hown hw e0 hml 281 282 23 283 rfl rfl rfl rfl (by decide) (rm_ubo l Z a0 hw [] tb _ xn ft 0 0 zc fm hS0 h0 n0 O V_t hy2_0 hy2_1) pd23 rfl rfl (B d52_4) rfl
  obtain ⟨rfl, Nq2, e2⟩ := hQ2
  replace N := Fr.app N Nq2
  refine gb m T2 7 LL1 [] (st2) ?_
  refine sC 8 (0 : Int32) X2 hx (B d52_7) rfl rfl ?_
  let LL3 : Array Slot := #[.val (.ref sa), .val (.int (0 : Int32)), .val (.ref tb), .val (.int (0 : Int32)), .val (.int (0 : Int32)), .val (.int (0 : Int32))]
  refine gb m T2 10 LL3 [] (fun _ k => XS.istore X2.here hx rfl (B d52_8) rfl (l' := LL3) rfl k) ?_
  refine tI 12 X2 hx (B d52_10) rfl rfl ?_
  refine tI 14 X2 hx (B d52_12) rfl rfl ?_
  refine gb m T2 41 LL3 [] (fun _ k => XS.icmpYes X2.here hx rfl (pc0 := 14) (pc' := 41) rfl (B d52_14) rfl (flt (by decide : ¬ ((0 : Int32) < (0 : Int32)))).2.1 (by decide) (by decide) k) ?_
  obtain ⟨fs, hr, hrun, hended, hW, hsame⟩ := X2.leave (v := none) (fun _ => rfl)
  refine ⟨_, _, X2.returnOut hx Bd.returns (B d52_41) hr, hrun, hended, _, _, rfl, ?_, ⟨_, rfl⟩, hW, hsame.mono (by decide) (by decide)⟩
  show Qpure none h0 n0 (none) T2.heap _
  rw [e2]
  exact ⟨rfl, N, rfl⟩

theorem d52_17 : decode c52 17 = .ok (.aload_n 2, 1) := by decide +kernel
theorem d52_18 : decode c52 18 = .ok (.iload_n 3, 1) := by decide +kernel
theorem d52_19 : decode c52 19 = .ok (.iinc 3 1, 3) := by decide +kernel
theorem d52_22 : decode c52 22 = .ok (.aload_n 0, 1) := by decide +kernel
theorem d52_23 : decode c52 23 = .ok (.iload_n 1, 1) := by decide +kernel
theorem d52_24 : decode c52 24 = .ok (.iinc 1 1, 3) := by decide +kernel
theorem d52_27 : decode c52 27 = .ok (.baload, 1) := by decide +kernel
theorem d52_28 : decode c52 28 = .ok (.sipush 255, 3) := by decide +kernel
theorem d52_31 : decode c52 31 = .ok (.iand, 1) := by decide +kernel
theorem d52_32 : decode c52 32 = .ok (.invokestatic 111, 3) := by decide +kernel
theorem d52_35 : decode c52 35 = .ok (.iinc 5 1, 3) := by decide +kernel
theorem d52_38 : decode c52 38 = .ok (.goto (-28), 3) := by decide +kernel
theorem pn_uin3 : plainFor (⟨"java/lang/StringUTF16", "inflate", "([BI[BII)V"⟩ : MethodName) = true := plainFor_of_name (by first | (simp [plainName, overriddenIn]; done) | decide +kernel)
theorem ef_uin3 (m : MethodId) (x0 : Addr) (x2 : Addr) (x3 : Int32) : entryFrame m #[(.ref x0), (.int (0 : Int32)), (.ref x2), (.int x3), (.int (3 : Int32))] 6 = mkF m 0 #[.val (.ref x0), .val (.int (0 : Int32)), .val (.ref x2), .val (.int x3), .val (.int (3 : Int32)), .unset] [] := by first | (simp [entryFrame, mkF, argsToLocals, Value.category]; done) | rfl
theorem rm_uin3 (l : Launch) (Z : State) (a0 : Array Value) (hw : ∀ d ∈ tables_1, d.before a0 Z = true) (ws : List Jvm.Cond) (sa : Addr) (ks : ClassId) (fs : Nat → Int32) (dc : Nat → Nat) (tb : Addr) (kt : ClassId) (xn : Nat) (ft : Nat → Int32) (xe : Nat) (zc : Int32) (fm : Value) (hS0 : Sf Z zc fm) (h0 : Heap) (n0 : Nat) (O : Old Z n0 h0) (V_s : Arv Z h0 sa ks .byte (nI 3) (cont 3 fs) (.int 0)) (hD : Lat 3 fs dc) (V_t : Arv Z h0 tb kt .byte (nI (2 * xn)) (cont (2 * xn) ft) (.int 0)) (g_tb : n0 ≤ tb) (hne : sa ≠ tb) (hy0 : xn ≤ 600) (hy1 : xe + 3 ≤ xn) :
    MF l Z h0 (⟨"java/lang/StringUTF16", "inflate", "([BI[BII)V"⟩ : MethodName) c52 6 none ws (rk 3 0 0 43) #[(.ref sa), (.int (0 : Int32)), (.ref tb), (.int (nI xe)), (.int (3 : Int32))] (Qwr Z tb (2 * xn) (fun f => (∀ i, i < 3 → dec (f (2 * (xe + i))) (f (2 * (xe + i) + 1)) = nI (dc i)) ∧ ∀ j, j < 2 * xe → f j = ft j) h0 n0) := by
  refine sg n0 [tb] pn_uin3 rfl (fun m => ef_uin3 m sa tb (nI xe)) fun p e s m below meth c s₁ Bd hml hZ hh hx B hown hnm X0 e0 N K => ?_
  have d0 := (hD 0 (by omega)).1
  have d1 := (hD 1 (by omega)).1
  have d2 := (hD 2 (by omega)).1
  let LL1 : Array Slot := #[.val (.ref sa), .val (.int (0 : Int32)), .val (.ref tb), .val (.int (nI xe)), .val (.int (3 : Int32)), .unset]
  refine sI 1 X0 hx (B d52_0) rfl rfl ?_
  refine tI 3 X0 hx (B d52_1) rfl rfl ?_
  refine sA 4 X0 hx (B d52_3) rfl rfl rfl ?_
  have hy2_0 : xn < 100000 := by omega
  have hy2_1 : xe + 3 ≤ xn := by omega
  obtain ⟨v2, T2, Lc2, X2, hQ2, st2⟩ := cS LL1 [] X0 hx hZ hown hw e0 hml 281 282 23 283 rfl rfl rfl rfl (by decide) (rm_ubo l Z a0 hw [] tb _ xn ft xe 3 zc fm hS0 h0 n0 O V_t hy2_0 hy2_1) pd23 rfl rfl (B d52_4) rfl
  obtain ⟨rfl, Nq2, e2⟩ := hQ2
  replace N := Fr.app N Nq2
  refine gb m T2 7 LL1 [] (st2) ?_
  refine sC 8 (0 : Int32) X2 hx (B d52_7) rfl rfl ?_
  let LL3 : Array Slot := #[.val (.ref sa), .val (.int (0 : Int32)), .val (.ref tb), .val (.int (nI xe)), .val (.int (3 : Int32)), .val (.int (0 : Int32))]
  refine gb m T2 10 LL3 [] (fun _ k => XS.istore X2.here hx rfl (B d52_8) rfl (l' := LL3) rfl k) ?_
  refine tI 12 X2 hx (B d52_10) rfl rfl ?_
  refine tI 14 X2 hx (B d52_12) rfl rfl ?_
  refine gb m T2 17 LL3 [] (fun _ k => XS.icmpNo X2.here hx rfl (B d52_14) rfl (tlt (by decide : (0 : Int32) < (3 : Int32))).2.1 k) ?_
  refine sA 18 X2 hx (B d52_17) rfl rfl rfl ?_
  refine sI 19 X2 hx (B d52_18) rfl rfl ?_
  refine gb m T2 22 #[.val (.ref sa), .val (.int (0 : Int32)), .val (.ref tb), .val (.int ((nI xe) + (1 : Int32))), .val (.int (3 : Int32)), .val (.int (0 : Int32))] [(.int (nI xe)), (.ref tb)] (fun _ k => XS.iinc X2.here hx rfl (B d52_19) rfl (l' := #[.val (.ref sa), .val (.int (0 : Int32)), .val (.ref tb), .val (.int ((nI xe) + (1 : Int32))), .val (.int (3 : Int32)), .val (.int (0 : Int32))]) rfl k) ?_
  rw [show ((nI xe) + (1 : Int32)) = (nI (xe + 1)) from own_add _ _]
  refine sA 23 X2 hx (B d52_22) rfl rfl rfl ?_
  refine sI 24 X2 hx (B d52_23) rfl rfl ?_
  refine gb m T2 27 #[.val (.ref sa), .val (.int ((0 : Int32) + (1 : Int32))), .val (.ref tb), .val (.int (nI (xe + 1))), .val (.int (3 : Int32)), .val (.int (0 : Int32))] [(.int (0 : Int32)), (.ref sa), (.int (nI xe)), (.ref tb)] (fun _ k => XS.iinc X2.here hx rfl (B d52_24) rfl (l' := #[.val (.ref sa), .val (.int ((0 : Int32) + (1 : Int32))), .val (.ref tb), .val (.int (nI (xe + 1))), .val (.int (3 : Int32)), .val (.int (0 : Int32))]) rfl k) ?_
  rw [show ((0 : Int32) + (1 : Int32)) = (1 : Int32) from by decide]
  obtain ⟨cl5, Ar5, q5, S5, N5', H5, G5⟩ := id V_s
  refine gb m T2 28 #[.val (.ref sa), .val (.int (1 : Int32)), .val (.ref tb), .val (.int (nI (xe + 1))), .val (.int (3 : Int32)), .val (.int (0 : Int32))] [(.int (fs 0)), (.int (nI xe)), (.ref tb)] (X2.baloadBytes hx (j := (0 : Int32)) (v := (.int (fs 0))) (by rw [e2]; exact Ar5.1) (State.isArrayOf_alike hZ.alike Ar5.2.1) Ar5.2.2 (inb_of S5 ⟨own_neg (a := 0) (by omega), (own_nlt (a := 0) (b := 3) (by omega) (by omega)).mpr (by omega)⟩) (Has.at H5 (inb_of S5 ⟨own_neg (a := 0) (by omega), (own_nlt (a := 0) (b := 3) (by omega) (by omega)).mpr (by omega)⟩) (own_at (n := 3) (i := 0) (f := fs) (by omega) (by omega))) (g := (mkF m 27 #[.val (.ref sa), .val (.int (1 : Int32)), .val (.ref tb), .val (.int (nI (xe + 1))), .val (.int (3 : Int32)), .val (.int (0 : Int32))] [(.int (0 : Int32)), (.ref sa), (.int (nI xe)), (.ref tb)])) rfl rfl (B d52_27)) ?_
  refine sS 31 (255 : Int32) X2 hx (B d52_28) rfl rfl ?_
  refine gb m T2 32 #[.val (.ref sa), .val (.int (1 : Int32)), .val (.ref tb), .val (.int (nI (xe + 1))), .val (.int (3 : Int32)), .val (.int (0 : Int32))] [(.int ((fs 0) &&& (255 : Int32))), (.int (nI xe)), (.ref tb)] (fun _ k => XS.iand X2.here hx rfl (B d52_31) rfl k) ?_
  rw [show ((fs 0) &&& (255 : Int32)) = (nI (dc 0)) from (hD 0 (by omega)).2]
  have hy6_0 : xn < 100000 := by omega
  have hy6_1 : xe < xn := by omega
  have hy6_2 : (dc 0) < 65536 := by omega
  obtain ⟨v6, T6, Lc6, X6, hQ6, st6⟩ := cS #[.val (.ref sa), .val (.int (1 : Int32)), .val (.ref tb), .val (.int (nI (xe + 1))), .val (.int (3 : Int32)), .val (.int (0 : Int32))] [] X2 hx hZ hown hw e2 hml 243 244 23 245 rfl rfl rfl rfl (by decide) (rm_pc l Z a0 hw [] tb _ xn ft xe (dc 0) zc fm hS0 h0 n0 O V_t g_tb hy6_0 hy6_1 hy6_2) pd8 rfl rfl (B d52_32) rfl
  obtain ⟨rfl, Nq6, K6, k26, fd6, Vt6, hP6⟩ := hQ6
  replace N := Fr.app N Nq6
  replace V_s := V_s.keep K6 (ninS hne nin0)
  replace O := O.keep K6 (allS g_tb all0)
  replace K := K.trans K6 (allS (Or.inl (by simp)) all0)
  refine gb m T6 35 #[.val (.ref sa), .val (.int (1 : Int32)), .val (.ref tb), .val (.int (nI (xe + 1))), .val (.int (3 : Int32)), .val (.int (0 : Int32))] [] (st6) ?_
  refine gb m T6 38 #[.val (.ref sa), .val (.int (1 : Int32)), .val (.ref tb), .val (.int (nI (xe + 1))), .val (.int (3 : Int32)), .val (.int ((0 : Int32) + (1 : Int32)))] [] (fun _ k => XS.iinc X6.here hx rfl (B d52_35) rfl (l' := #[.val (.ref sa), .val (.int (1 : Int32)), .val (.ref tb), .val (.int (nI (xe + 1))), .val (.int (3 : Int32)), .val (.int ((0 : Int32) + (1 : Int32)))]) rfl k) ?_
  rw [show ((0 : Int32) + (1 : Int32)) = (1 : Int32) from by decide]
  refine gb m T6 10 #[.val (.ref sa), .val (.int (1 : Int32)), .val (.ref tb), .val (.int (nI (xe + 1))), .val (.int (3 : Int32)), .val (.int (1 : Int32))] [] (fun _ k => XS.goto X6.here hx rfl (pc0 := 38) (pc' := 10) rfl (B d52_38) (by decide) (by decide) k) ?_
  refine tI 12 X6 hx (B d52_10) rfl rfl ?_
  refine tI 14 X6 hx (B d52_12) rfl rfl ?_
  refine gb m T6 17 #[.val (.ref sa), .val (.int (1 : Int32)), .val (.ref tb), .val (.int (nI (xe + 1))), .val (.int (3 : Int32)), .val (.int (1 : Int32))] [] (fun _ k => XS.icmpNo X6.here hx rfl (B d52_14) rfl (tlt (by decide : (1 : Int32) < (3 : Int32))).2.1 k) ?_
  refine sA 18 X6 hx (B d52_17) rfl rfl rfl ?_
  refine sI 19 X6 hx (B d52_18) rfl rfl ?_
  refine gb m T6 22 #[.val (.ref sa), .val (.int (1 : Int32)), .val (.ref tb), .val (.int ((nI (xe + 1)) + (1 : Int32))), .val (.int (3 : Int32)), .val (.int (1 : Int32))] [(.int (nI (xe + 1))), (.ref tb)] (fun _ k => XS.iinc X6.here hx rfl (B d52_19) rfl (l' := #[.val (.ref sa), .val (.int (1 : Int32)), .val (.ref tb), .val (.int ((nI (xe + 1)) + (1 : Int32))), .val (.int (3 : Int32)), .val (.int (1 : Int32))]) rfl k) ?_
  rw [show ((nI (xe + 1)) + (1 : Int32)) = (nI ((xe + 1) + 1)) from own_add _ _]
  refine sA 23 X6 hx (B d52_22) rfl rfl rfl ?_
  refine sI 24 X6 hx (B d52_23) rfl rfl ?_
  refine gb m T6 27 #[.val (.ref sa), .val (.int ((1 : Int32) + (1 : Int32))), .val (.ref tb), .val (.int (nI ((xe + 1) + 1))), .val (.int (3 : Int32)), .val (.int (1 : Int32))] [(.int (1 : Int32)), (.ref sa), (.int (nI (xe + 1))), (.ref tb)] (fun _ k => XS.iinc X6.here hx rfl (B d52_24) rfl (l' := #[.val (.ref sa), .val (.int ((1 : Int32) + (1 : Int32))), .val (.ref tb), .val (.int (nI ((xe + 1) + 1))), .val (.int (3 : Int32)), .val (.int (1 : Int32))]) rfl k) ?_
  rw [show ((1 : Int32) + (1 : Int32)) = (2 : Int32) from by decide]
  obtain ⟨cl8, Ar8, q8, S8, N8', H8, G8⟩ := id V_s
  refine gb m T6 28 #[.val (.ref sa), .val (.int (2 : Int32)), .val (.ref tb), .val (.int (nI ((xe + 1) + 1))), .val (.int (3 : Int32)), .val (.int (1 : Int32))] [(.int (fs 1)), (.int (nI (xe + 1))), (.ref tb)] (X6.baloadBytes hx (j := (1 : Int32)) (v := (.int (fs 1))) Ar8.1 (State.isArrayOf_alike hZ.alike Ar8.2.1) Ar8.2.2 (inb_of S8 ⟨own_neg (a := 1) (by omega), (own_nlt (a := 1) (b := 3) (by omega) (by omega)).mpr (by omega)⟩) (Has.at H8 (inb_of S8 ⟨own_neg (a := 1) (by omega), (own_nlt (a := 1) (b := 3) (by omega) (by omega)).mpr (by omega)⟩) (own_at (n := 3) (i := 1) (f := fs) (by omega) (by omega))) (g := (mkF m 27 #[.val (.ref sa), .val (.int (2 : Int32)), .val (.ref tb), .val (.int (nI ((xe + 1) + 1))), .val (.int (3 : Int32)), .val (.int (1 : Int32))] [(.int (1 : Int32)), (.ref sa), (.int (nI (xe + 1))), (.ref tb)])) rfl rfl (B d52_27)) ?_
  refine sS 31 (255 : Int32) X6 hx (B d52_28) rfl rfl ?_
  refine gb m T6 32 #[.val (.ref sa), .val (.int (2 : Int32)), .val (.ref tb), .val (.int (nI ((xe + 1) + 1))), .val (.int (3 : Int32)), .val (.int (1 : Int32))] [(.int ((fs 1) &&& (255 : Int32))), (.int (nI (xe + 1))), (.ref tb)] (fun _ k => XS.iand X6.here hx rfl (B d52_31) rfl k) ?_
  rw [show ((fs 1) &&& (255 : Int32)) = (nI (dc 1)) from (hD 1 (by omega)).2]
  have hy9_0 : xn < 100000 := by omega
  have hy9_1 : (xe + 1) < xn := by omega
  have hy9_2 : (dc 1) < 65536 := by omega
  obtain ⟨v9, T9, Lc9, X9, hQ9, st9⟩ := cS #[.val (.ref sa), .val (.int (2 : Int32)), .val (.ref tb), .val (.int (nI ((xe + 1) + 1))), .val (.int (3 : Int32)), .val (.int (1 : Int32))] [] X6 hx hZ hown hw rfl hml 243 244 23 245 rfl rfl rfl rfl (by decide) (rm_pc l Z a0 hw [] tb _ xn fd6 (xe + 1) (dc 1) zc fm hS0 T6.heap n0 O Vt6 g_tb hy9_0 hy9_1 hy9_2) pd8 rfl rfl (B d52_32) rfl
  obtain ⟨rfl, Nq9, K9, k29, fd9, Vt9, hP9⟩ := hQ9
  replace N := Fr.app N Nq9
  replace V_s := V_s.keep K9 (ninS hne nin0)
  replace O := O.keep K9 (allS g_tb all0)
  replace K := K.trans K9 (allS (Or.inl (by simp)) all0)
  refine gb m T9 35 #[.val (.ref sa), .val (.int (2 : Int32)), .val (.ref tb), .val (.int (nI ((xe + 1) + 1))), .val (.int (3 : Int32)), .val (.int (1 : Int32))] [] (st9) ?_
  refine gb m T9 38 #[.val (.ref sa), .val (.int (2 : Int32)), .val (.ref tb), .val (.int (nI ((xe + 1) + 1))), .val (.int (3 : Int32)), .val (.int ((1 : Int32) + (1 : Int32)))] [] (fun _ k => XS.iinc X9.here hx rfl (B d52_35) rfl (l' := #[.val (.ref sa), .val (.int (2 : Int32)), .val (.ref tb), .val (.int (nI ((xe + 1) + 1))), .val (.int (3 : Int32)), .val (.int ((1 : Int32) + (1 : Int32)))]) rfl k) ?_
  rw [show ((1 : Int32) + (1 : Int32)) = (2 : Int32) from by decide]
  refine gb m T9 10 #[.val (.ref sa), .val (.int (2 : Int32)), .val (.ref tb), .val (.int (nI ((xe + 1) + 1))), .val (.int (3 : Int32)), .val (.int (2 : Int32))] [] (fun _ k => XS.goto X9.here hx rfl (pc0 := 38) (pc' := 10) rfl (B d52_38) (by decide) (by decide) k) ?_
  refine tI 12 X9 hx (B d52_10) rfl rfl ?_
  refine tI 14 X9 hx (B d52_12) rfl rfl ?_
  refine gb m T9 17 #[.val (.ref sa), .val (.int (2 : Int32)), .val (.ref tb), .val (.int (nI ((xe + 1) + 1))), .val (.int (3 : Int32)), .val (.int (2 : Int32))] [] (fun _ k => XS.icmpNo X9.here hx rfl (B d52_14) rfl (tlt (by decide : (2 : Int32) < (3 : Int32))).2.1 k) ?_
  refine sA 18 X9 hx (B d52_17) rfl rfl rfl ?_
  refine sI 19 X9 hx (B d52_18) rfl rfl ?_
  refine gb m T9 22 #[.val (.ref sa), .val (.int (2 : Int32)), .val (.ref tb), .val (.int ((nI ((xe + 1) + 1)) + (1 : Int32))), .val (.int (3 : Int32)), .val (.int (2 : Int32))] [(.int (nI ((xe + 1) + 1))), (.ref tb)] (fun _ k => XS.iinc X9.here hx rfl (B d52_19) rfl (l' := #[.val (.ref sa), .val (.int (2 : Int32)), .val (.ref tb), .val (.int ((nI ((xe + 1) + 1)) + (1 : Int32))), .val (.int (3 : Int32)), .val (.int (2 : Int32))]) rfl k) ?_
  rw [show ((nI ((xe + 1) + 1)) + (1 : Int32)) = (nI (((xe + 1) + 1) + 1)) from own_add _ _]
  refine sA 23 X9 hx (B d52_22) rfl rfl rfl ?_
  refine sI 24 X9 hx (B d52_23) rfl rfl ?_
  refine gb m T9 27 #[.val (.ref sa), .val (.int ((2 : Int32) + (1 : Int32))), .val (.ref tb), .val (.int (nI (((xe + 1) + 1) + 1))), .val (.int (3 : Int32)), .val (.int (2 : Int32))] [(.int (2 : Int32)), (.ref sa), (.int (nI ((xe + 1) + 1))), (.ref tb)] (fun _ k => XS.iinc X9.here hx rfl (B d52_24) rfl (l' := #[.val (.ref sa), .val (.int ((2 : Int32) + (1 : Int32))), .val (.ref tb), .val (.int (nI (((xe + 1) + 1) + 1))), .val (.int (3 : Int32)), .val (.int (2 : Int32))]) rfl k) ?_
  rw [show ((2 : Int32) + (1 : Int32)) = (3 : Int32) from by decide]
  obtain ⟨cl11, Ar11, q11, S11, N11', H11, G11⟩ := id V_s
  refine gb m T9 28 #[.val (.ref sa), .val (.int (3 : Int32)), .val (.ref tb), .val (.int (nI (((xe + 1) + 1) + 1))), .val (.int (3 : Int32)), .val (.int (2 : Int32))] [(.int (fs 2)), (.int (nI ((xe + 1) + 1))), (.ref tb)] (X9.baloadBytes hx (j := (2 : Int32)) (v := (.int (fs 2))) Ar11.1 (State.isArrayOf_alike hZ.alike Ar11.2.1) Ar11.2.2 (inb_of S11 ⟨own_neg (a := 2) (by omega), (own_nlt (a := 2) (b := 3) (by omega) (by omega)).mpr (by omega)⟩) (Has.at H11 (inb_of S11 ⟨own_neg (a := 2) (by omega), (own_nlt (a := 2) (b := 3) (by omega) (by omega)).mpr (by omega)⟩) (own_at (n := 3) (i := 2) (f := fs) (by omega) (by omega))) (g := (mkF m 27 #[.val (.ref sa), .val (.int (3 : Int32)), .val (.ref tb), .val (.int (nI (((xe + 1) + 1) + 1))), .val (.int (3 : Int32)), .val (.int (2 : Int32))] [(.int (2 : Int32)), (.ref sa), (.int (nI ((xe + 1) + 1))), (.ref tb)])) rfl rfl (B d52_27)) ?_
  refine sS 31 (255 : Int32) X9 hx (B d52_28) rfl rfl ?_
  refine gb m T9 32 #[.val (.ref sa), .val (.int (3 : Int32)), .val (.ref tb), .val (.int (nI (((xe + 1) + 1) + 1))), .val (.int (3 : Int32)), .val (.int (2 : Int32))] [(.int ((fs 2) &&& (255 : Int32))), (.int (nI ((xe + 1) + 1))), (.ref tb)] (fun _ k => XS.iand X9.here hx rfl (B d52_31) rfl k) ?_
  rw [show ((fs 2) &&& (255 : Int32)) = (nI (dc 2)) from (hD 2 (by omega)).2]
  have hy12_0 : xn < 100000 := by omega
  have hy12_1 : ((xe + 1) + 1) < xn := by omega
  have hy12_2 : (dc 2) < 65536 := by omega
  obtain ⟨v12, T12, Lc12, X12, hQ12, st12⟩ := cS #[.val (.ref sa), .val (.int (3 : Int32)), .val (.ref tb), .val (.int (nI (((xe + 1) + 1) + 1))), .val (.int (3 : Int32)), .val (.int (2 : Int32))] [] X9 hx hZ hown hw rfl hml 243 244 23 245 rfl rfl rfl rfl (by decide) (rm_pc l Z a0 hw [] tb _ xn fd9 ((xe + 1) + 1) (dc 2) zc fm hS0 T9.heap n0 O Vt9 g_tb hy12_0 hy12_1 hy12_2) pd8 rfl rfl (B d52_32) rfl
  obtain ⟨rfl, Nq12, K12, k212, fd12, Vt12, hP12⟩ := hQ12
  replace N := Fr.app N Nq12
  replace V_s := V_s.keep K12 (ninS hne nin0)
  replace O := O.keep K12 (allS g_tb all0)
  replace K := K.trans K12 (allS (Or.inl (by simp)) all0)
  refine gb m T12 35 #[.val (.ref sa), .val (.int (3 : Int32)), .val (.ref tb), .val (.int (nI (((xe + 1) + 1) + 1))), .val (.int (3 : Int32)), .val (.int (2 : Int32))] [] (st12) ?_
  refine gb m T12 38 #[.val (.ref sa), .val (.int (3 : Int32)), .val (.ref tb), .val (.int (nI (((xe + 1) + 1) + 1))), .val (.int (3 : Int32)), .val (.int ((2 : Int32) + (1 : Int32)))] [] (fun _ k => XS.iinc X12.here hx rfl (B d52_35) rfl (l' := #[.val (.ref sa), .val (.int (3 : Int32)), .val (.ref tb), .val (.int (nI (((xe + 1) + 1) + 1))), .val (.int (3 : Int32)), .val (.int ((2 : Int32) + (1 : Int32)))]) rfl k) ?_
  rw [show ((2 : Int32) + (1 : Int32)) = (3 : Int32) from by decide]
  refine gb m T12 10 #[.val (.ref sa), .val (.int (3 : Int32)), .val (.ref tb), .val (.int (nI (((xe + 1) + 1) + 1))), .val (.int (3 : Int32)), .val (.int (3 : Int32))] [] (fun _ k => XS.goto X12.here hx rfl (pc0 := 38) (pc' := 10) rfl (B d52_38) (by decide) (by decide) k) ?_
  refine tI 12 X12 hx (B d52_10) rfl rfl ?_
  refine tI 14 X12 hx (B d52_12) rfl rfl ?_
  refine gb m T12 41 #[.val (.ref sa), .val (.int (3 : Int32)), .val (.ref tb), .val (.int (nI (((xe + 1) + 1) + 1))), .val (.int (3 : Int32)), .val (.int (3 : Int32))] [] (fun _ k => XS.icmpYes X12.here hx rfl (pc0 := 14) (pc' := 41) rfl (B d52_14) rfl (flt (by decide : ¬ ((3 : Int32) < (3 : Int32)))).2.1 (by decide) (by decide) k) ?_
  obtain ⟨fs, hr, hrun, hended, hW, hsame⟩ := X12.leave (v := none) (fun _ => rfl)
  refine ⟨_, _, X12.returnOut hx Bd.returns (B d52_41) hr, hrun, hended, _, _, rfl, ?_, ⟨_, rfl⟩, hW, hsame.mono (by decide) (by decide)⟩
  show Qwr Z tb (2 * xn) (fun f => (∀ i, i < 3 → dec (f (2 * (xe + i))) (f (2 * (xe + i) + 1)) = nI (dc i)) ∧ ∀ j, j < 2 * xe → f j = ft j) h0 n0 (none) T12.heap _
  exact ⟨rfl, N, K, _, _, Vt12, own_inf3 hP6 hP9 hP12⟩

theorem d53_0 : decode c53 0 = .ok (.aload_n 0, 1) := by decide +kernel
theorem d53_1 : decode c53 1 = .ok (.iload_n 1, 1) := by decide +kernel
theorem d53_2 : decode c53 2 = .ok (.aload_n 2, 1) := by decide +kernel
theorem d53_3 : decode c53 3 = .ok (.iload_n 3, 1) := by decide +kernel
theorem d53_4 : decode c53 4 = .ok (.iload 4, 2) := by decide +kernel
theorem d53_6 : decode c53 6 = .ok (.invokestatic 240, 3) := by decide +kernel
theorem d53_9 : decode c53 9 = .ok (.return_, 1) := by decide +kernel
theorem pn_linz : plainFor (⟨"java/lang/StringLatin1", "inflate", "([BI[BII)V"⟩ : MethodName) = true := plainFor_of_name (by first | (simp [plainName, overriddenIn]; done) | decide +kernel)
theorem pd30 : parseMethodDescriptor "([BI[BII)V" = some ⟨[(.array .byte), .int, (.array .byte), .int, .int], none⟩ := by decide +kernel
theorem ef_linz (m : MethodId) (x0 : Addr) (x2 : Addr) : entryFrame m #[(.ref x0), (.int (0 : Int32)), (.ref x2), (.int (0 : Int32)), (.int (0 : Int32))] 5 = mkF m 0 #[.val (.ref x0), .val (.int (0 : Int32)), .val (.ref x2), .val (.int (0 : Int32)), .val (.int (0 : Int32))] [] := by first | (simp [entryFrame, mkF, argsToLocals, Value.category]; done) | rfl
theorem rm_linz (l : Launch) (Z : State) (a0 : Array Value) (hw : ∀ d ∈ tables_1, d.before a0 Z = true) (ws : List Jvm.Cond) (sa tb : Addr) (kt : ClassId) (xn : Nat) (ft : Nat → Int32) (zc : Int32) (fm : Value) (hS0 : Sf Z zc fm) (h0 : Heap) (n0 : Nat) (O : Old Z n0 h0) (V_t : Arv Z h0 tb kt .byte (nI (2 * xn)) (cont (2 * xn) ft) (.int 0)) (hy0 : xn ≤ 600) :
    MF l Z h0 (⟨"java/lang/StringLatin1", "inflate", "([BI[BII)V"⟩ : MethodName) c53 5 none ws (rk 4 0 0 60) #[(.ref sa), (.int (0 : Int32)), (.ref tb), (.int (0 : Int32)), (.int (0 : Int32))] (Qpure none h0 n0) := by
  refine sg n0 [] pn_linz rfl (fun m => ef_linz m sa tb) fun p e s m below meth c s₁ Bd hml hZ hh hx B hown hnm X0 e0 N K => ?_
  let LL1 : Array Slot := #[.val (.ref sa), .val (.int (0 : Int32)), .val (.ref tb), .val (.int (0 : Int32)), .val (.int (0 : Int32))]
  refine sA 1 X0 hx (B d53_0) rfl rfl rfl ?_
  refine sI 2 X0 hx (B d53_1) rfl rfl ?_
  refine sA 3 X0 hx (B d53_2) rfl rfl rfl ?_
  refine sI 4 X0 hx (B d53_3) rfl rfl ?_
  refine tI 6 X0 hx (B d53_4) rfl rfl ?_
  have hy2_0 : xn ≤ 600 := by omega
  obtain ⟨v2, T2, Lc2, X2, hQ2, st2⟩ := cS LL1 [] X0 hx hZ hown hw e0 hml 307 308 23 309 rfl rfl rfl rfl (by decide) (rm_uinz l Z a0 hw [] sa tb _ xn ft zc fm hS0 h0 n0 O V_t hy2_0) pd30 rfl rfl (B d53_6) rfl
  obtain ⟨rfl, Nq2, e2⟩ := hQ2
  replace N := Fr.app N Nq2
  refine gb m T2 9 LL1 [] (st2) ?_
  obtain ⟨fs, hr, hrun, hended, hW, hsame⟩ := X2.leave (v := none) (fun _ => rfl)
  refine ⟨_, _, X2.returnOut hx Bd.returns (B d53_9) hr, hrun, hended, _, _, rfl, ?_, ⟨_, rfl⟩, hW, hsame.mono (by decide) (by decide)⟩
  show Qpure none h0 n0 (none) T2.heap _
  rw [e2]
  exact ⟨rfl, N, rfl⟩

theorem pn_lin3 : plainFor (⟨"java/lang/StringLatin1", "inflate", "([BI[BII)V"⟩ : MethodName) = true := plainFor_of_name (by first | (simp [plainName, overriddenIn]; done) | decide +kernel)
theorem ef_lin3 (m : MethodId) (x0 : Addr) (x2 : Addr) (x3 : Int32) : entryFrame m #[(.ref x0), (.int (0 : Int32)), (.ref x2), (.int x3), (.int (3 : Int32))] 5 = mkF m 0 #[.val (.ref x0), .val (.int (0 : Int32)), .val (.ref x2), .val (.int x3), .val (.int (3 : Int32))] [] := by first | (simp [entryFrame, mkF, argsToLocals, Value.category]; done) | rfl
theorem rm_lin3 (l : Launch) (Z : State) (a0 : Array Value) (hw : ∀ d ∈ tables_1, d.before a0 Z = true) (ws : List Jvm.Cond) (sa : Addr) (ks : ClassId) (fs : Nat → Int32) (dc : Nat → Nat) (tb : Addr) (kt : ClassId) (xn : Nat) (ft : Nat → Int32) (xe : Nat) (zc : Int32) (fm : Value) (hS0 : Sf Z zc fm) (h0 : Heap) (n0 : Nat) (O : Old Z n0 h0) (V_s : Arv Z h0 sa ks .byte (nI 3) (cont 3 fs) (.int 0)) (hD : Lat 3 fs dc) (V_t : Arv Z h0 tb kt .byte (nI (2 * xn)) (cont (2 * xn) ft) (.int 0)) (g_tb : n0 ≤ tb) (hne : sa ≠ tb) (hy0 : xn ≤ 600) (hy1 : xe + 3 ≤ xn) :
    MF l Z h0 (⟨"java/lang/StringLatin1", "inflate", "([BI[BII)V"⟩ : MethodName) c53 5 none ws (rk 4 0 0 60) #[(.ref sa), (.int (0 : Int32)), (.ref tb), (.int (nI xe)), (.int (3 : Int32))] (Qwr Z tb (2 * xn) (fun f => (∀ i, i < 3 → dec (f (2 * (xe + i))) (f (2 * (xe + i) + 1)) = nI (dc i)) ∧ ∀ j, j < 2 * xe → f j = ft j) h0 n0) := by
  refine sg n0 [tb] pn_lin3 rfl (fun m => ef_lin3 m sa tb (nI xe)) fun p e s m below meth c s₁ Bd hml hZ hh hx B hown hnm X0 e0 N K => ?_
  have d0 := (hD 0 (by omega)).1
  have d1 := (hD 1 (by omega)).1
  have d2 := (hD 2 (by omega)).1
  let LL1 : Array Slot := #[.val (.ref sa), .val (.int (0 : Int32)), .val (.ref tb), .val (.int (nI xe)), .val (.int (3 : Int32))]
  refine sA 1 X0 hx (B d53_0) rfl rfl rfl ?_
  refine sI 2 X0 hx (B d53_1) rfl rfl ?_
  refine sA 3 X0 hx (B d53_2) rfl rfl rfl ?_
  refine sI 4 X0 hx (B d53_3) rfl rfl ?_
  refine tI 6 X0 hx (B d53_4) rfl rfl ?_
  have hy2_0 : xn ≤ 600 := by omega
  have hy2_1 : xe + 3 ≤ xn := by omega
  obtain ⟨v2, T2, Lc2, X2, hQ2, st2⟩ := cS LL1 [] X0 hx hZ hown hw e0 hml 307 308 23 309 rfl rfl rfl rfl (by decide) (rm_uin3 l Z a0 hw [] sa _ fs dc tb _ xn ft xe zc fm hS0 h0 n0 O V_s hD V_t g_tb hne hy2_0 hy2_1) pd30 rfl rfl (B d53_6) rfl
  obtain ⟨rfl, Nq2, K2, k22, fd2, Vt2, hP2⟩ := hQ2
  replace N := Fr.app N Nq2
  replace V_s := V_s.keep K2 (ninS hne nin0)
  replace O := O.keep K2 (allS g_tb all0)
  replace K := K.trans K2 (allS (Or.inl (by simp)) all0)
  refine gb m T2 9 LL1 [] (st2) ?_
  obtain ⟨fs, hr, hrun, hended, hW, hsame⟩ := X2.leave (v := none) (fun _ => rfl)
  refine ⟨_, _, X2.returnOut hx Bd.returns (B d53_9) hr, hrun, hended, _, _, rfl, ?_, ⟨_, rfl⟩, hW, hsame.mono (by decide) (by decide)⟩
  show Qwr Z tb (2 * xn) (fun f => (∀ i, i < 3 → dec (f (2 * (xe + i))) (f (2 * (xe + i) + 1)) = nI (dc i)) ∧ ∀ j, j < 2 * xe → f j = ft j) h0 n0 (none) T2.heap _
  exact ⟨rfl, N, K, _, _, Vt2, hP2⟩

theorem d54_0 : decode c54 0 = .ok (.aload_n 0, 1) := by decide +kernel
theorem d54_1 : decode c54 1 = .ok (.invokevirtual 83, 3) := by decide +kernel
theorem d54_4 : decode c54 4 = .ok (.ifCond .ne 4, 3) := by decide +kernel
theorem d54_8 : decode c54 8 = .ok (.aload_n 0, 1) := by decide +kernel
theorem d54_9 : decode c54 9 = .ok (.getfield 15, 3) := by decide +kernel
theorem d54_12 : decode c54 12 = .ok (.arraylength, 1) := by decide +kernel
theorem d54_13 : decode c54 13 = .ok (.invokestatic 26, 3) := by decide +kernel
theorem d54_16 : decode c54 16 = .ok (.astore_n 1, 1) := by decide +kernel
theorem d54_17 : decode c54 17 = .ok (.aload_n 0, 1) := by decide +kernel
theorem d54_18 : decode c54 18 = .ok (.getfield 15, 3) := by decide +kernel
theorem d54_21 : decode c54 21 = .ok (.iconst 0, 1) := by decide +kernel
theorem d54_22 : decode c54 22 = .ok (.aload_n 1, 1) := by decide +kernel
theorem d54_23 : decode c54 23 = .ok (.iconst 0, 1) := by decide +kernel
theorem d54_24 : decode c54 24 = .ok (.aload_n 0, 1) := by decide +kernel
theorem d54_25 : decode c54 25 = .ok (.getfield 79, 3) := by decide +kernel
theorem d54_28 : decode c54 28 = .ok (.invokestatic 125, 3) := by decide +kernel
theorem d54_31 : decode c54 31 = .ok (.aload_n 0, 1) := by decide +kernel
theorem d54_32 : decode c54 32 = .ok (.aload_n 1, 1) := by decide +kernel
theorem d54_33 : decode c54 33 = .ok (.putfield 15, 3) := by decide +kernel
theorem d54_36 : decode c54 36 = .ok (.aload_n 0, 1) := by decide +kernel
theorem d54_37 : decode c54 37 = .ok (.iconst 1, 1) := by decide +kernel
theorem d54_38 : decode c54 38 = .ok (.putfield 22, 3) := by decide +kernel
theorem d54_41 : decode c54 41 = .ok (.return_, 1) := by decide +kernel
theorem pn_inf0 : plainFor (⟨"java/lang/AbstractStringBuilder", "inflate", "()V"⟩ : MethodName) = true := plainFor_of_name (by first | (simp [plainName, overriddenIn]; done) | decide +kernel)
theorem ef_inf0 (m : MethodId) (x0 : Addr) : entryFrame m #[(.ref x0)] 2 = mkF m 0 #[.val (.ref x0), .unset] [] := by first | (simp [entryFrame, mkF, argsToLocals, Value.category]; done) | rfl
theorem rm_inf0 (l : Launch) (Z : State) (a0 : Array Value) (hw : ∀ d ∈ tables_1, d.before a0 Z = true) (ws : List Jvm.Cond) (bb tb : Addr) (kt : ClassId) (Lb : Nat) (ft : Nat → Int32) (zc : Int32) (fm : Value) (hS0 : Sf Z zc fm) (h0 : Heap) (n0 : Nat) (O : Old Z n0 h0) (E_b : Exa Z h0 bb "java/lang/StringBuilder") (Fv_b : Fld Z h0 bb "java/lang/AbstractStringBuilder" "value" "[B" (.ref tb)) (Fc_b : Fld Z h0 bb "java/lang/AbstractStringBuilder" "coder" "B" (.int 0)) (Fn_b : Fld Z h0 bb "java/lang/AbstractStringBuilder" "count" "I" (.int (nI 0))) (Fm_b : Fld Z h0 bb "java/lang/AbstractStringBuilder" "maybeLatin1" "Z" (.int 0)) (V_t : Arv Z h0 tb kt .byte (nI Lb) (cont Lb ft) (.int 0)) (E_t : Exa Z h0 tb "[B") (g_bb : n0 ≤ bb) (g_tb : n0 ≤ tb) (hy0 : Lb ≤ 300) :
    MF l Z h0 (⟨"java/lang/AbstractStringBuilder", "inflate", "()V"⟩ : MethodName) c54 2 none ws (rk 5 1 1040 76) #[(.ref bb)] (Qbd Z bb none 1 0 (2 * Lb) (fun _ => True) h0 n0) := by
  refine sg n0 [bb] pn_inf0 rfl (fun m => ef_inf0 m bb) fun p e s m below meth c s₁ Bd hml hZ hh hx B hown hnm X0 e0 N K => ?_
  have n_bt : bb ≠ tb := (own_nev E_b (wv hw 74 rfl) V_t)
  let LL1 : Array Slot := #[.val (.ref bb), .unset]
  refine sA 1 X0 hx (B d54_0) rfl rfl rfl ?_
  obtain ⟨v2, T2, Lc2, X2, hQ2, st2⟩ := cV LL1 [] X0 hx hZ hown hw e0 hml E_b 302 210 212 211 83 213 rfl rfl rfl rfl rfl rfl (by decide) (rm_bl0 l Z a0 hw [] bb tb _ Lb 0 ft zc fm hS0 h0 n0 O E_b Fv_b Fc_b Fn_b Fm_b V_t E_t g_bb g_tb) pd18 rfl rfl (B d54_1) rfl
  obtain ⟨rfl, Nq2, e2⟩ := hQ2
  replace N := Fr.app N Nq2
  refine gb m T2 4 LL1 [(.int (1 : Int32))] (st2) ?_
  refine gb m T2 8 LL1 [] (fun _ k => XS.ifYes X2.here hx rfl (pc0 := 4) (pc' := 8) rfl (B d54_4) rfl ((if0 _ _).trans (feq (by decide : ¬ ((1 : Int32) = (0 : Int32)))).2) (by decide) (by decide) k) ?_
  refine sA 9 X2 hx (B d54_8) rfl rfl rfl ?_
  obtain ⟨T4, X4, e4, st4⟩ := getF X2 hx hZ hown (host := "") (Or.inl (wv hw 87 rfl)) Via.refl e2 Fv_b (g := (mkF m 9 LL1 [(.ref bb)])) rfl rfl (B d54_9)
  refine gb m T4 12 LL1 [(.ref tb)] (st4) ?_
  obtain ⟨cl5, Ar5, q5, S5, N5', H5, G5⟩ := id V_t
  refine gb m T4 13 LL1 [(.int (nI Lb))] (fun t k => X4.arraylength hx (by rw [e4]; exact Ar5.1) (State.isArrayOf_alike hZ.alike Ar5.2.1) (g := (mkF m 12 LL1 [(.ref tb)])) rfl rfl (B d54_12) t (by rw [len_of S5 N5']; exact k)) ?_
  have hy6_0 : Lb ≤ 520 := by omega
  obtain ⟨v6, T6, Lc6, X6, hQ6, st6⟩ := cS LL1 [] X4 hx hZ hown hw e4 hml 303 237 23 238 rfl rfl rfl rfl (by decide) (rm_nbf l Z a0 hw [] Lb h0 n0 O hy6_0) pd7 rfl rfl (B d54_13) rfl
  obtain ⟨r6, k26, fd6, rfl, Nq6, K6, gr6, Vr6, Er6, hP6⟩ := hQ6
  replace N := Fr.app N Nq6
  have ne_bb_r6 : bb ≠ r6 := Nat.ne_of_lt (Nat.lt_of_lt_of_le E_b.lt gr6)
  have sz_r6 : h0.size ≤ r6 := Nat.le_trans K.1 gr6
  replace E_b := E_b.keep K6
  replace Fv_b := Fv_b.keep K6 nin0
  replace Fc_b := Fc_b.keep K6 nin0
  replace Fn_b := Fn_b.keep K6 nin0
  replace Fm_b := Fm_b.keep K6 nin0
  replace V_t := V_t.keep K6 nin0
  replace E_t := E_t.keep K6
  replace O := O.keep K6 all0
  replace K := K.trans K6 all0
  refine gb m T6 16 LL1 [(.ref r6)] (st6) ?_
  let LL7 : Array Slot := #[.val (.ref bb), .val (.ref r6)]
  refine gb m T6 17 LL7 [] (fun _ k => XS.astoreN X6.here hx rfl (B d54_16) rfl rfl (l' := LL7) rfl k) ?_
  refine sA 18 X6 hx (B d54_17) rfl rfl rfl ?_
  obtain ⟨T8, X8, e8, st8⟩ := getF X6 hx hZ hown (host := "") (Or.inl (wv hw 87 rfl)) Via.refl rfl Fv_b (g := (mkF m 18 LL7 [(.ref bb)])) rfl rfl (B d54_18)
  refine gb m T8 21 LL7 [(.ref tb)] (st8) ?_
  refine sC 22 (0 : Int32) X8 hx (B d54_21) rfl rfl ?_
  refine sA 23 X8 hx (B d54_22) rfl rfl rfl ?_
  refine sC 24 (0 : Int32) X8 hx (B d54_23) rfl rfl ?_
  refine sA 25 X8 hx (B d54_24) rfl rfl rfl ?_
  obtain ⟨T9, X9, e9, st9⟩ := getF X8 hx hZ hown (host := "") (Or.inl (wv hw 140 rfl)) Via.refl e8 Fn_b (g := (mkF m 25 LL7 [(.ref bb), (.int (0 : Int32)), (.ref r6), (.int (0 : Int32)), (.ref tb)])) rfl rfl (B d54_25)
  refine gb m T9 28 LL7 [(.int (0 : Int32)), (.int (0 : Int32)), (.ref r6), (.int (0 : Int32)), (.ref tb)] (st9) ?_
  have hy10_0 : Lb ≤ 600 := by omega
  obtain ⟨v10, T10, Lc10, X10, hQ10, st10⟩ := cS LL7 [] X9 hx hZ hown hw e9 hml 304 305 105 306 rfl rfl rfl rfl (by decide) (rm_linz l Z a0 hw [] tb r6 _ Lb fd6 zc fm hS0 T6.heap n0 O Vr6 hy10_0) pd30 rfl rfl (B d54_28) rfl
  obtain ⟨rfl, Nq10, e10⟩ := hQ10
  replace N := Fr.app N Nq10
  refine gb m T10 31 LL7 [] (st10) ?_
  refine sA 32 X10 hx (B d54_31) rfl rfl rfl ?_
  refine sA 33 X10 hx (B d54_32) rfl rfl rfl ?_
  obtain ⟨T11, h11, X11, e11, W11, st11⟩ := putF X10 hx hZ hown (host := "") (Or.inl (wv hw 87 rfl)) Via.refl e10 Fv_b E_b (Or.inl (wv hw 88 rfl)) (wv hw 74 rfl) (ty := (.array .byte)) (by decide) rfl rfl (g := (mkF m 33 LL7 [(.ref r6), (.ref bb)])) rfl rfl (B d54_33)
  replace E_b := E_b.wr W11
  replace Fc_b := Fc_b.other W11 (Or.inr (slot_ne (Or.inl (wv hw 90 rfl)) (Or.inl (wv hw 88 rfl)) (by decide) (t := .byte) (t' := (.array .byte)) (by decide) (by decide)))
  replace Fn_b := Fn_b.other W11 (Or.inr (slot_ne (Or.inl (wv hw 141 rfl)) (Or.inl (wv hw 88 rfl)) (by decide) (t := .int) (t' := (.array .byte)) (by decide) (by decide)))
  replace Fm_b := Fm_b.other W11 (Or.inr (slot_ne (Or.inl (wv hw 312 rfl)) (Or.inl (wv hw 88 rfl)) (by decide) (t := .boolean) (t' := (.array .byte)) (by decide) (by decide)))
  replace V_t := V_t.other W11 (Ne.symm n_bt)
  replace E_t := E_t.wr W11
  replace Vr6 := Vr6.other W11 (Ne.symm ne_bb_r6)
  replace Er6 := Er6.wr W11
  replace Fv_b := Fv_b.same W11
  replace O := O.wr W11 g_bb
  replace K := K.wr W11 (Or.inl (by simp))
  replace N := Fr.snoc X11 N g_bb
  refine gb m T11 36 LL7 [] (st11) ?_
  refine sA 37 X11 hx (B d54_36) rfl rfl rfl ?_
  refine sC 38 (1 : Int32) X11 hx (B d54_37) rfl rfl ?_
  obtain ⟨T12, h12, X12, e12, W12, st12⟩ := putFN X11 hx hZ hown (wv hw 89 rfl) Via.refl e11 Fc_b E_b (Or.inl (wv hw 90 rfl)) (wv hw 74 rfl) (ty := .byte) (v' := (.int (1 : Int32))) (by decide) rfl rfl (g := (mkF m 38 LL7 [(.int (1 : Int32)), (.ref bb)])) rfl rfl (B d54_38)
  replace E_b := E_b.wr W12
  replace Fv_b := Fv_b.other W12 (Or.inr (slot_ne (Or.inl (wv hw 88 rfl)) (Or.inl (wv hw 90 rfl)) (by decide) (t := (.array .byte)) (t' := .byte) (by decide) (by decide)))
  replace Fn_b := Fn_b.other W12 (Or.inr (slot_ne (Or.inl (wv hw 141 rfl)) (Or.inl (wv hw 90 rfl)) (by decide) (t := .int) (t' := .byte) (by decide) (by decide)))
  replace Fm_b := Fm_b.other W12 (Or.inr (slot_ne (Or.inl (wv hw 312 rfl)) (Or.inl (wv hw 90 rfl)) (by decide) (t := .boolean) (t' := .byte) (by decide) (by decide)))
  replace V_t := V_t.other W12 (Ne.symm n_bt)
  replace E_t := E_t.wr W12
  replace Vr6 := Vr6.other W12 (Ne.symm ne_bb_r6)
  replace Er6 := Er6.wr W12
  replace Fc_b := Fc_b.same W12
  replace O := O.wr W12 g_bb
  replace K := K.wr W12 (Or.inl (by simp))
  replace N := Fr.snoc X12 N g_bb
  refine gb m T12 41 LL7 [] (st12) ?_
  obtain ⟨fs, hr, hrun, hended, hW, hsame⟩ := X12.leave (v := none) (fun _ => rfl)
  refine ⟨_, _, X12.returnOut hx Bd.returns (B d54_41) hr, hrun, hended, _, _, rfl, ?_, ⟨_, rfl⟩, hW, hsame.mono (by decide) (by decide)⟩
  show Qbd Z bb none 1 0 (2 * Lb) (fun _ => True) h0 n0 (none) T12.heap _
  rw [e12]
  exact ⟨rfl, N, K, r6, _, _, sz_r6, Fv_b, Fc_b, Fn_b, Fm_b, Vr6, Er6, trivial⟩

theorem d54_7 : decode c54 7 = .ok (.return_, 1) := by decide +kernel
theorem pn_inf1 : plainFor (⟨"java/lang/AbstractStringBuilder", "inflate", "()V"⟩ : MethodName) = true := plainFor_of_name (by first | (simp [plainName, overriddenIn]; done) | decide +kernel)
theorem ef_inf1 (m : MethodId) (x0 : Addr) : entryFrame m #[(.ref x0)] 2 = mkF m 0 #[.val (.ref x0), .unset] [] := by first | (simp [entryFrame, mkF, argsToLocals, Value.category]; done) | rfl
theorem rm_inf1 (l : Launch) (Z : State) (a0 : Array Value) (hw : ∀ d ∈ tables_1, d.before a0 Z = true) (ws : List Jvm.Cond) (bb tb : Addr) (kt : ClassId) (qb cb : Nat) (ft : Nat → Int32) (zc : Int32) (fm : Value) (hS0 : Sf Z zc fm) (h0 : Heap) (n0 : Nat) (O : Old Z n0 h0) (E_b : Exa Z h0 bb "java/lang/StringBuilder") (Fv_b : Fld Z h0 bb "java/lang/AbstractStringBuilder" "value" "[B" (.ref tb)) (Fc_b : Fld Z h0 bb "java/lang/AbstractStringBuilder" "coder" "B" (.int 1)) (Fn_b : Fld Z h0 bb "java/lang/AbstractStringBuilder" "count" "I" (.int (nI cb))) (Fm_b : Fld Z h0 bb "java/lang/AbstractStringBuilder" "maybeLatin1" "Z" (.int 0)) (V_t : Arv Z h0 tb kt .byte (nI (2 * qb)) (cont (2 * qb) ft) (.int 0)) (E_t : Exa Z h0 tb "[B") (g_bb : n0 ≤ bb) (g_tb : n0 ≤ tb) :
    MF l Z h0 (⟨"java/lang/AbstractStringBuilder", "inflate", "()V"⟩ : MethodName) c54 2 none ws (rk 1 0 0 12) #[(.ref bb)] (Qpure none h0 n0) := by
  refine sg n0 [] pn_inf1 rfl (fun m => ef_inf1 m bb) fun p e s m below meth c s₁ Bd hml hZ hh hx B hown hnm X0 e0 N K => ?_
  have n_bt : bb ≠ tb := (own_nev E_b (wv hw 74 rfl) V_t)
  let LL1 : Array Slot := #[.val (.ref bb), .unset]
  refine sA 1 X0 hx (B d54_0) rfl rfl rfl ?_
  obtain ⟨v2, T2, Lc2, X2, hQ2, st2⟩ := cV LL1 [] X0 hx hZ hown hw e0 hml E_b 302 210 212 211 83 213 rfl rfl rfl rfl rfl rfl (by decide) (rm_bl1 l Z a0 hw [] bb tb _ qb cb ft zc fm hS0 h0 n0 O E_b Fv_b Fc_b Fn_b Fm_b V_t E_t g_bb g_tb) pd18 rfl rfl (B d54_1) rfl
  obtain ⟨rfl, Nq2, e2⟩ := hQ2
  replace N := Fr.app N Nq2
  refine gb m T2 4 LL1 [(.int (0 : Int32))] (st2) ?_
  refine gb m T2 7 LL1 [] (fun _ k => XS.ifNo X2.here hx rfl (B d54_4) rfl ((if0 _ _).trans (teq (by decide : (0 : Int32) = (0 : Int32))).2) k) ?_
  obtain ⟨fs, hr, hrun, hended, hW, hsame⟩ := X2.leave (v := none) (fun _ => rfl)
  refine ⟨_, _, X2.returnOut hx Bd.returns (B d54_7) hr, hrun, hended, _, _, rfl, ?_, ⟨_, rfl⟩, hW, hsame.mono (by decide) (by decide)⟩
  show Qpure none h0 n0 (none) T2.heap _
  rw [e2]
  exact ⟨rfl, N, rfl⟩

theorem d55_0 : decode c55 0 = .ok (.getstatic 18, 3) := by decide +kernel
theorem d55_3 : decode c55 3 = .ok (.ifCond .eq 18, 3) := by decide +kernel
theorem d55_6 : decode c55 6 = .ok (.aload_n 0, 1) := by decide +kernel
theorem d55_7 : decode c55 7 = .ok (.getfield 22, 3) := by decide +kernel
theorem d55_10 : decode c55 10 = .ok (.aload_n 1, 1) := by decide +kernel
theorem d55_11 : decode c55 11 = .ok (.invokevirtual 40, 3) := by decide +kernel
theorem d55_14 : decode c55 14 = .ok (.if_icmp .eq 7, 3) := by decide +kernel
theorem d55_21 : decode c55 21 = .ok (.return_, 1) := by decide +kernel
theorem pn_iin00 : plainFor (⟨"java/lang/AbstractStringBuilder", "inflateIfNeededFor", "(Ljava/lang/String;)V"⟩ : MethodName) = true := plainFor_of_name (by first | (simp [plainName, overriddenIn]; done) | decide +kernel)
theorem ef_iin00 (m : MethodId) (x0 : Addr) (x1 : Addr) : entryFrame m #[(.ref x0), (.ref x1)] 2 = mkF m 0 #[.val (.ref x0), .val (.ref x1)] [] := by first | (simp [entryFrame, mkF, argsToLocals, Value.category]; done) | rfl
theorem rm_iin00 (l : Launch) (Z : State) (a0 : Array Value) (hw : ∀ d ∈ tables_1, d.before a0 Z = true) (ws : List Jvm.Cond) (bb tb : Addr) (kt : ClassId) (Lb cb : Nat) (ft : Nat → Int32) (x tx : Addr) (kx : ClassId) (xn : Nat) (fx : Nat → Int32) (zc : Int32) (fm : Value) (hS0 : Sf Z zc fm) (h0 : Heap) (n0 : Nat) (O : Old Z n0 h0) (E_b : Exa Z h0 bb "java/lang/StringBuilder") (Fv_b : Fld Z h0 bb "java/lang/AbstractStringBuilder" "value" "[B" (.ref tb)) (Fc_b : Fld Z h0 bb "java/lang/AbstractStringBuilder" "coder" "B" (.int 0)) (Fn_b : Fld Z h0 bb "java/lang/AbstractStringBuilder" "count" "I" (.int (nI cb))) (Fm_b : Fld Z h0 bb "java/lang/AbstractStringBuilder" "maybeLatin1" "Z" (.int 0)) (V_t : Arv Z h0 tb kt .byte (nI Lb) (cont Lb ft) (.int 0)) (E_t : Exa Z h0 tb "[B") (g_bb : n0 ≤ bb) (g_tb : n0 ≤ tb) (E_x : Exa Z h0 x "java/lang/String") (Fv_x : Fld Z h0 x "java/lang/String" "value" "[B" (.ref tx)) (Fc_x : Fld Z h0 x "java/lang/String" "coder" "B" (.int 0)) (V_tx : Arv Z h0 tx kx .byte (nI xn) (cont xn fx) (.int 0)) (hxn : xn ≤ 300) (hne : tx ≠ tb) :
    MF l Z h0 (⟨"java/lang/AbstractStringBuilder", "inflateIfNeededFor", "(Ljava/lang/String;)V"⟩ : MethodName) c55 2 none ws (rk 1 0 0 13) #[(.ref bb), (.ref x)] (Qpure none h0 n0) := by
  refine sg n0 [] pn_iin00 rfl (fun m => ef_iin00 m bb x) fun p e s m below meth c s₁ Bd hml hZ hh hx B hown hnm X0 e0 N K => ?_
  have n_bt : bb ≠ tb := (own_nev E_b (wv hw 74 rfl) V_t)
  let LL1 : Array Slot := #[.val (.ref bb), .val (.ref x)]
  obtain ⟨T2, X2, e2, st2⟩ := getS2 X0 hx hZ hown (host := "") (Or.inl (wv hw 86 rfl)) Via.refl e0 (Sta.ext O.2 hS0.1) (g := (mkF m 0 LL1 [])) rfl (B d55_0)
  refine gb m T2 3 LL1 [(.int zc)] (st2) ?_
  refine gb m T2 6 LL1 [] (fun _ k => XS.ifNo X2.here hx rfl (B d55_3) rfl ((if0 _ _).trans (feq hS0.2.1).1) k) ?_
  refine sA 7 X2 hx (B d55_6) rfl rfl rfl ?_
  obtain ⟨T4, X4, e4, st4⟩ := getF X2 hx hZ hown (host := "") (Or.inl (wv hw 89 rfl)) Via.refl e2 Fc_b (g := (mkF m 7 LL1 [(.ref bb)])) rfl rfl (B d55_7)
  refine gb m T4 10 LL1 [(.int (0 : Int32))] (st4) ?_
  refine sA 11 X4 hx (B d55_10) rfl rfl rfl ?_
  have hs5_x : xn ≤ 300 := by omega
  obtain ⟨v5, T5, Lc5, X5, hQ5, st5⟩ := cV LL1 [(.int (0 : Int32))] X4 hx hZ hown hw e4 hml E_x 174 46 48 47 9 49 rfl rfl rfl rfl rfl rfl (by decide) (rm_cdr0 l Z a0 hw [] x tx _ xn fx   zc fm hS0 h0 n0 O E_x Fv_x Fc_x V_tx hs5_x  ) pd14 rfl rfl (B d55_11) rfl
  obtain ⟨rfl, Nq5, e5⟩ := hQ5
  replace N := Fr.app N Nq5
  refine gb m T5 14 LL1 [(.int (0 : Int32)), (.int (0 : Int32))] (st5) ?_
  refine gb m T5 21 LL1 [] (fun _ k => XS.icmpYes X5.here hx rfl (pc0 := 14) (pc' := 21) rfl (B d55_14) rfl (teq (by decide : (0 : Int32) = (0 : Int32))).1 (by decide) (by decide) k) ?_
  obtain ⟨fs, hr, hrun, hended, hW, hsame⟩ := X5.leave (v := none) (fun _ => rfl)
  refine ⟨_, _, X5.returnOut hx Bd.returns (B d55_21) hr, hrun, hended, _, _, rfl, ?_, ⟨_, rfl⟩, hW, hsame.mono (by decide) (by decide)⟩
  show Qpure none h0 n0 (none) T5.heap _
  rw [e5]
  exact ⟨rfl, N, rfl⟩

theorem d55_17 : decode c55 17 = .ok (.aload_n 0, 1) := by decide +kernel
theorem d55_18 : decode c55 18 = .ok (.invokevirtual 195, 3) := by decide +kernel
theorem pn_iin10 : plainFor (⟨"java/lang/AbstractStringBuilder", "inflateIfNeededFor", "(Ljava/lang/String;)V"⟩ : MethodName) = true := plainFor_of_name (by first | (simp [plainName, overriddenIn]; done) | decide +kernel)
theorem pd31 : parseMethodDescriptor "()V" = some ⟨[], none⟩ := by decide +kernel
theorem ef_iin10 (m : MethodId) (x0 : Addr) (x1 : Addr) : entryFrame m #[(.ref x0), (.ref x1)] 2 = mkF m 0 #[.val (.ref x0), .val (.ref x1)] [] := by first | (simp [entryFrame, mkF, argsToLocals, Value.category]; done) | rfl
theorem rm_iin10 (l : Launch) (Z : State) (a0 : Array Value) (hw : ∀ d ∈ tables_1, d.before a0 Z = true) (ws : List Jvm.Cond) (bb tb : Addr) (kt : ClassId) (qb cb : Nat) (ft : Nat → Int32) (x tx : Addr) (kx : ClassId) (xn : Nat) (fx : Nat → Int32) (dc : Nat → Nat) (zc : Int32) (fm : Value) (hS0 : Sf Z zc fm) (h0 : Heap) (n0 : Nat) (O : Old Z n0 h0) (E_b : Exa Z h0 bb "java/lang/StringBuilder") (Fv_b : Fld Z h0 bb "java/lang/AbstractStringBuilder" "value" "[B" (.ref tb)) (Fc_b : Fld Z h0 bb "java/lang/AbstractStringBuilder" "coder" "B" (.int 1)) (Fn_b : Fld Z h0 bb "java/lang/AbstractStringBuilder" "count" "I" (.int (nI cb))) (Fm_b : Fld Z h0 bb "java/lang/AbstractStringBuilder" "maybeLatin1" "Z" (.int 0)) (V_t : Arv Z h0 tb kt .byte (nI (2 * qb)) (cont (2 * qb) ft) (.int 0)) (E_t : Exa Z h0 tb "[B") (g_bb : n0 ≤ bb) (g_tb : n0 ≤ tb) (E_x : Exa Z h0 x "java/lang/String") (Fv_x : Fld Z h0 x "java/lang/String" "value" "[B" (.ref tx)) (Fc_x : Fld Z h0 x "java/lang/String" "coder" "B" (.int 0)) (V_tx : Arv Z h0 tx kx .byte (nI xn) (cont xn fx) (.int 0)) (hxn : xn ≤ 300) (hne : tx ≠ tb) (hD : Lat 3 fx dc) (hx3 : xn = 3) :
    MF l Z h0 (⟨"java/lang/AbstractStringBuilder", "inflateIfNeededFor", "(Ljava/lang/String;)V"⟩ : MethodName) c55 2 none ws (rk 2 0 0 25) #[(.ref bb), (.ref x)] (Qpure none h0 n0) := by
  refine sg n0 [] pn_iin10 rfl (fun m => ef_iin10 m bb x) fun p e s m below meth c s₁ Bd hml hZ hh hx B hown hnm X0 e0 N K => ?_
  have n_bt : bb ≠ tb := (own_nev E_b (wv hw 74 rfl) V_t)
  subst hx3
  let LL1 : Array Slot := #[.val (.ref bb), .val (.ref x)]
  obtain ⟨T2, X2, e2, st2⟩ := getS2 X0 hx hZ hown (host := "") (Or.inl (wv hw 86 rfl)) Via.refl e0 (Sta.ext O.2 hS0.1) (g := (mkF m 0 LL1 [])) rfl (B d55_0)
  refine gb m T2 3 LL1 [(.int zc)] (st2) ?_
  refine gb m T2 6 LL1 [] (fun _ k => XS.ifNo X2.here hx rfl (B d55_3) rfl ((if0 _ _).trans (feq hS0.2.1).1) k) ?_
  refine sA 7 X2 hx (B d55_6) rfl rfl rfl ?_
  obtain ⟨T4, X4, e4, st4⟩ := getF X2 hx hZ hown (host := "") (Or.inl (wv hw 89 rfl)) Via.refl e2 Fc_b (g := (mkF m 7 LL1 [(.ref bb)])) rfl rfl (B d55_7)
  refine gb m T4 10 LL1 [(.int (1 : Int32))] (st4) ?_
  refine sA 11 X4 hx (B d55_10) rfl rfl rfl ?_
  have hs5_x : 3 ≤ 300 := by omega
  obtain ⟨v5, T5, Lc5, X5, hQ5, st5⟩ := cV LL1 [(.int (1 : Int32))] X4 hx hZ hown hw e4 hml E_x 174 46 48 47 9 49 rfl rfl rfl rfl rfl rfl (by decide) (rm_cdr0 l Z a0 hw [] x tx _ 3 fx   zc fm hS0 h0 n0 O E_x Fv_x Fc_x V_tx hs5_x  ) pd14 rfl rfl (B d55_11) rfl
  obtain ⟨rfl, Nq5, e5⟩ := hQ5
  replace N := Fr.app N Nq5
  refine gb m T5 14 LL1 [(.int (0 : Int32)), (.int (1 : Int32))] (st5) ?_
  refine gb m T5 17 LL1 [] (fun _ k => XS.icmpNo X5.here hx rfl (B d55_14) rfl (feq (by decide : ¬ ((1 : Int32) = (0 : Int32)))).1 k) ?_
  refine sA 18 X5 hx (B d55_17) rfl rfl rfl ?_
  obtain ⟨cq7, q7, q7'⟩ := E_b.cell
  obtain ⟨v7, _, ⟨T7, L7, k7, n7⟩, -, X7, ⟨Lc7, hQ7, l7, y7, z7⟩, st7⟩ := X5.privateBack hx (y := (⟨"java/lang/AbstractStringBuilder", "inflate", "()V"⟩ : MethodName)) hown (mvT hZ (wv hw 297 rfl)) (mvT hZ (wv hw 298 rfl)) (own_selp (mvT hZ (wv hw 300 rfl)) (Cond.privateMethod_at (mvP hZ (wv hw 299 rfl) (args := #[]))) (mvT hZ (wv hw 298 rfl)) (by decide)) (Cond.privateMethod_at (mvP hZ (wv hw 299 rfl) (args := #[]))) (mvT hZ (wv hw 301 rfl)) (by decide) (backOf (W := 0) (rm_inf1 l Z a0 hw [] bb tb _ qb cb ft zc fm hS0 h0 n0 O E_b Fv_b Fc_b Fn_b Fm_b V_t E_t g_bb g_tb) hZ (wv hw 301 rfl) (wv hw 83 rfl) (by decide) (by decide)) (g := (mkF m 18 LL1 [(.ref bb)])) rfl (by rw [hml]; rfl) (Steps.refl _) (a := bb) (by rw [e5]; exact q7) q7' (argsL := []) (rest := []) (lenOf pd31 rfl) rfl (by show 2 * 0 + _ ≤ _; exact Nat.le_of_eq rfl) (B d55_18) (fun _ _ => ⟨rfl, e5, (by decide : 0 + 0 ≤ _), (by decide : 0 + 0 ≤ _)⟩)
  dsimp only [Pt.U, Pt.locs, Pt.cells, Pt.slots] at X7 l7 y7 z7 st7 hQ7
  rw [l7, y7, z7] at X7; clear l7 y7 z7
  obtain ⟨rfl, Nq7, e7⟩ := hQ7
  replace N := Fr.app N Nq7
  refine gb m T7 21 LL1 [] (fun _ k => st7.trans k) ?_
  obtain ⟨fs, hr, hrun, hended, hW, hsame⟩ := X7.leave (v := none) (fun _ => rfl)
  refine ⟨_, _, X7.returnOut hx Bd.returns (B d55_21) hr, hrun, hended, _, _, rfl, ?_, ⟨_, rfl⟩, hW, hsame.mono (by decide) (by decide)⟩
  show Qpure none h0 n0 (none) T7.heap _
  rw [e7]
  exact ⟨rfl, N, rfl⟩

theorem pn_iin01 : plainFor (⟨"java/lang/AbstractStringBuilder", "inflateIfNeededFor", "(Ljava/lang/String;)V"⟩ : MethodName) = true := plainFor_of_name (by first | (simp [plainName, overriddenIn]; done) | decide +kernel)
theorem ef_iin01 (m : MethodId) (x0 : Addr) (x1 : Addr) : entryFrame m #[(.ref x0), (.ref x1)] 2 = mkF m 0 #[.val (.ref x0), .val (.ref x1)] [] := by first | (simp [entryFrame, mkF, argsToLocals, Value.category]; done) | rfl
theorem rm_iin01 (l : Launch) (Z : State) (a0 : Array Value) (hw : ∀ d ∈ tables_1, d.before a0 Z = true) (ws : List Jvm.Cond) (bb tb : Addr) (kt : ClassId) (Lb : Nat) (ft : Nat → Int32) (x tx : Addr) (kx : ClassId) (xn : Nat) (fx : Nat → Int32) (zc : Int32) (fm : Value) (hS0 : Sf Z zc fm) (h0 : Heap) (n0 : Nat) (O : Old Z n0 h0) (E_b : Exa Z h0 bb "java/lang/StringBuilder") (Fv_b : Fld Z h0 bb "java/lang/AbstractStringBuilder" "value" "[B" (.ref tb)) (Fc_b : Fld Z h0 bb "java/lang/AbstractStringBuilder" "coder" "B" (.int 0)) (Fn_b : Fld Z h0 bb "java/lang/AbstractStringBuilder" "count" "I" (.int (nI 0))) (Fm_b : Fld Z h0 bb "java/lang/AbstractStringBuilder" "maybeLatin1" "Z" (.int 0)) (V_t : Arv Z h0 tb kt .byte (nI Lb) (cont Lb ft) (.int 0)) (E_t : Exa Z h0 tb "[B") (g_bb : n0 ≤ bb) (g_tb : n0 ≤ tb) (E_x : Exa Z h0 x "java/lang/String") (Fv_x : Fld Z h0 x "java/lang/String" "value" "[B" (.ref tx)) (Fc_x : Fld Z h0 x "java/lang/String" "coder" "B" (.int 1)) (V_tx : Arv Z h0 tx kx .byte (nI (2 * xn)) (cont (2 * xn) fx) (.int 0)) (hxn : xn ≤ 300) (hne : tx ≠ tb) (hy0 : Lb ≤ 300) :
    MF l Z h0 (⟨"java/lang/AbstractStringBuilder", "inflateIfNeededFor", "(Ljava/lang/String;)V"⟩ : MethodName) c55 2 none ws (rk 6 1 1040 89) #[(.ref bb), (.ref x)] (Qbd Z bb none 1 0 (2 * Lb) (fun _ => True) h0 n0) := by
  refine sg n0 [bb] pn_iin01 rfl (fun m => ef_iin01 m bb x) fun p e s m below meth c s₁ Bd hml hZ hh hx B hown hnm X0 e0 N K => ?_
  have n_bt : bb ≠ tb := (own_nev E_b (wv hw 74 rfl) V_t)
  let LL1 : Array Slot := #[.val (.ref bb), .val (.ref x)]
  obtain ⟨T2, X2, e2, st2⟩ := getS2 X0 hx hZ hown (host := "") (Or.inl (wv hw 86 rfl)) Via.refl e0 (Sta.ext O.2 hS0.1) (g := (mkF m 0 LL1 [])) rfl (B d55_0)
  refine gb m T2 3 LL1 [(.int zc)] (st2) ?_
  refine gb m T2 6 LL1 [] (fun _ k => XS.ifNo X2.here hx rfl (B d55_3) rfl ((if0 _ _).trans (feq hS0.2.1).1) k) ?_
  refine sA 7 X2 hx (B d55_6) rfl rfl rfl ?_
  obtain ⟨T4, X4, e4, st4⟩ := getF X2 hx hZ hown (host := "") (Or.inl (wv hw 89 rfl)) Via.refl e2 Fc_b (g := (mkF m 7 LL1 [(.ref bb)])) rfl rfl (B d55_7)
  refine gb m T4 10 LL1 [(.int (0 : Int32))] (st4) ?_
  refine sA 11 X4 hx (B d55_10) rfl rfl rfl ?_
  have hs5_x : xn ≤ 300 := by omega
  obtain ⟨v5, T5, Lc5, X5, hQ5, st5⟩ := cV LL1 [(.int (0 : Int32))] X4 hx hZ hown hw e4 hml E_x 174 46 48 47 9 49 rfl rfl rfl rfl rfl rfl (by decide) (rm_cdr1 l Z a0 hw [] x tx _ xn fx   zc fm hS0 h0 n0 O E_x Fv_x Fc_x V_tx hs5_x  ) pd14 rfl rfl (B d55_11) rfl
  obtain ⟨rfl, Nq5, e5⟩ := hQ5
  replace N := Fr.app N Nq5
  refine gb m T5 14 LL1 [(.int (1 : Int32)), (.int (0 : Int32))] (st5) ?_
  refine gb m T5 17 LL1 [] (fun _ k => XS.icmpNo X5.here hx rfl (B d55_14) rfl (feq (by decide : ¬ ((0 : Int32) = (1 : Int32)))).1 k) ?_
  refine sA 18 X5 hx (B d55_17) rfl rfl rfl ?_
  have hy7_0 : Lb ≤ 300 := by omega
  obtain ⟨cq7, q7, q7'⟩ := E_b.cell
  obtain ⟨v7, _, ⟨T7, L7, k7, n7⟩, -, X7, ⟨Lc7, hQ7, l7, y7, z7⟩, st7⟩ := X5.privateBack hx (y := (⟨"java/lang/AbstractStringBuilder", "inflate", "()V"⟩ : MethodName)) hown (mvT hZ (wv hw 297 rfl)) (mvT hZ (wv hw 298 rfl)) (own_selp (mvT hZ (wv hw 300 rfl)) (Cond.privateMethod_at (mvP hZ (wv hw 299 rfl) (args := #[]))) (mvT hZ (wv hw 298 rfl)) (by decide)) (Cond.privateMethod_at (mvP hZ (wv hw 299 rfl) (args := #[]))) (mvT hZ (wv hw 301 rfl)) (by decide) (backOf (W := 0) (rm_inf0 l Z a0 hw [] bb tb _ Lb ft zc fm hS0 h0 n0 O E_b Fv_b Fc_b Fn_b Fm_b V_t E_t g_bb g_tb hy7_0) hZ (wv hw 301 rfl) (wv hw 83 rfl) (by decide) (by decide)) (g := (mkF m 18 LL1 [(.ref bb)])) rfl (by rw [hml]; rfl) (Steps.refl _) (a := bb) (by rw [e5]; exact q7) q7' (argsL := []) (rest := []) (lenOf pd31 rfl) rfl (by show 2 * 0 + _ ≤ _; exact Nat.le_of_eq rfl) (B d55_18) (fun _ _ => ⟨rfl, e5, (by decide : 0 + 1 ≤ _), (by decide : 0 + 1040 ≤ _)⟩)
  dsimp only [Pt.U, Pt.locs, Pt.cells, Pt.slots] at X7 l7 y7 z7 st7 hQ7
  rw [l7, y7, z7] at X7; clear l7 y7 z7
  obtain ⟨rfl, Nq7, K7, t7, k27, fd7, gt7, Gv7, Gc7, Gn7, Gm7, Vt7, Et7, hP7⟩ := hQ7
  replace N := Fr.app N Nq7
  have sz_t7 : h0.size ≤ t7 := Nat.le_trans K.1 gt7
  have nq8 : x ≠ bb := (ne_exa E_x E_b (by decide))
  have nq9 : tx ≠ bb := (Ne.symm (own_nev E_b (wv hw 74 rfl) V_tx))
  replace E_b := E_b.keep K7
  replace V_t := V_t.keep K7 (ninS (Ne.symm n_bt) nin0)
  replace E_t := E_t.keep K7
  replace E_x := E_x.keep K7
  replace Fv_x := Fv_x.keep K7 (ninS nq8 nin0)
  replace Fc_x := Fc_x.keep K7 (ninS nq8 nin0)
  replace V_tx := V_tx.keep K7 (ninS nq9 nin0)
  replace O := O.keep K7 (allS g_bb all0)
  replace K := K.trans K7 (allS (Or.inl (by simp)) all0)
  refine gb m T7 21 LL1 [] (fun _ k => st7.trans k) ?_
  obtain ⟨fs, hr, hrun, hended, hW, hsame⟩ := X7.leave (v := none) (fun _ => rfl)
  refine ⟨_, _, X7.returnOut hx Bd.returns (B d55_21) hr, hrun, hended, _, _, rfl, ?_, ⟨_, rfl⟩, hW, hsame.mono (by decide) (by decide)⟩
  show Qbd Z bb none 1 0 (2 * Lb) (fun _ => True) h0 n0 (none) T7.heap _
  exact ⟨rfl, N, K, t7, _, _, sz_t7, Gv7, Gc7, Gn7, Gm7, Vt7, Et7, trivial⟩

theorem d56_0 : decode c56 0 = .ok (.aload_n 0, 1) := by decide +kernel
theorem d56_1 : decode c56 1 = .ok (.invokevirtual 335, 3) := by decide +kernel
theorem d56_4 : decode c56 4 = .ok (.iload_n 3, 1) := by decide +kernel
theorem d56_5 : decode c56 5 = .ok (.if_icmp .ne 23, 3) := by decide +kernel
theorem d56_8 : decode c56 8 = .ok (.aload_n 0, 1) := by decide +kernel
theorem d56_9 : decode c56 9 = .ok (.getfield 9, 3) := by decide +kernel
theorem d56_12 : decode c56 12 = .ok (.iconst 0, 1) := by decide +kernel
theorem d56_13 : decode c56 13 = .ok (.aload_n 1, 1) := by decide +kernel
theorem d56_14 : decode c56 14 = .ok (.iload_n 2, 1) := by decide +kernel
theorem d56_15 : decode c56 15 = .ok (.iload_n 3, 1) := by decide +kernel
theorem d56_16 : decode c56 16 = .ok (.ishl, 1) := by decide +kernel
theorem d56_17 : decode c56 17 = .ok (.aload_n 0, 1) := by decide +kernel
theorem d56_18 : decode c56 18 = .ok (.getfield 9, 3) := by decide +kernel
theorem d56_21 : decode c56 21 = .ok (.arraylength, 1) := by decide +kernel
theorem d56_22 : decode c56 22 = .ok (.invokestatic 212, 3) := by decide +kernel
theorem d56_25 : decode c56 25 = .ok (.goto 18, 3) := by decide +kernel
theorem d56_43 : decode c56 43 = .ok (.return_, 1) := by decide +kernel
theorem pn_gb00 : plainFor (⟨"java/lang/String", "getBytes", "([BIB)V"⟩ : MethodName) = true := plainFor_of_name (by first | (simp [plainName, overriddenIn]; done) | decide +kernel)
theorem ef_gb00 (m : MethodId) (x0 : Addr) (x1 : Addr) (x2 : Int32) : entryFrame m #[(.ref x0), (.ref x1), (.int x2), (.int (0 : Int32))] 4 = mkF m 0 #[.val (.ref x0), .val (.ref x1), .val (.int x2), .val (.int (0 : Int32))] [] := by first | (simp [entryFrame, mkF, argsToLocals, Value.category]; done) | rfl
theorem rm_gb00 (l : Launch) (Z : State) (a0 : Array Value) (hw : ∀ d ∈ tables_1, d.before a0 Z = true) (ws : List Jvm.Cond) (x tx : Addr) (kx : ClassId) (xn : Nat) (fx : Nat → Int32) (tb : Addr) (kt : ClassId) (Lb : Nat) (ft : Nat → Int32) (oo : Nat) (zc : Int32) (fm : Value) (hS0 : Sf Z zc fm) (h0 : Heap) (n0 : Nat) (O : Old Z n0 h0) (E_x : Exa Z h0 x "java/lang/String") (Fv_x : Fld Z h0 x "java/lang/String" "value" "[B" (.ref tx)) (Fc_x : Fld Z h0 x "java/lang/String" "coder" "B" (.int 0)) (V_tx : Arv Z h0 tx kx .byte (nI xn) (cont xn fx) (.int 0)) (hxn : xn ≤ 300) (V_t : Arv Z h0 tb kt .byte (nI Lb) (cont Lb ft) (.int 0)) (g_tb : n0 ≤ tb) (hne : tx ≠ tb) (hy0 : Lb ≤ 1100) (hy1 : oo + xn ≤ Lb) :
    MF l Z h0 (⟨"java/lang/String", "getBytes", "([BIB)V"⟩ : MethodName) c56 4 none ws (rk 1 0 0 18) #[(.ref x), (.ref tb), (.int (nI oo)), (.int (0 : Int32))] (Qwr Z tb Lb (fun f => (∀ i, i < xn → f (oo + i) = fx i) ∧ ∀ j, j < oo → f j = ft j) h0 n0) := by
  refine sg n0 [tb] pn_gb00 rfl (fun m => ef_gb00 m x tb (nI oo)) fun p e s m below meth c s₁ Bd hml hZ hh hx B hown hnm X0 e0 N K => ?_
  let LL1 : Array Slot := #[.val (.ref x), .val (.ref tb), .val (.int (nI oo)), .val (.int (0 : Int32))]
  refine sA 1 X0 hx (B d56_0) rfl rfl rfl ?_
  have hs2_x : xn ≤ 300 := by omega
  obtain ⟨v2, T2, Lc2, X2, hQ2, st2⟩ := cV LL1 [] X0 hx hZ hown hw e0 hml E_x 45 46 48 47 9 49 rfl rfl rfl rfl rfl rfl (by decide) (rm_cdr0 l Z a0 hw [] x tx _ xn fx   zc fm hS0 h0 n0 O E_x Fv_x Fc_x V_tx hs2_x  ) pd14 rfl rfl (B d56_1) rfl
  obtain ⟨rfl, Nq2, e2⟩ := hQ2
  replace N := Fr.app N Nq2
  refine gb m T2 4 LL1 [(.int (0 : Int32))] (st2) ?_
  refine sI 5 X2 hx (B d56_4) rfl rfl ?_
  refine gb m T2 8 LL1 [] (fun _ k => XS.icmpNo X2.here hx rfl (B d56_5) rfl (teq (by decide : (0 : Int32) = (0 : Int32))).2 k) ?_
  refine sA 9 X2 hx (B d56_8) rfl rfl rfl ?_
  obtain ⟨T4, X4, e4, st4⟩ := getF X2 hx hZ hown (host := "") (Or.inl (wv hw 34 rfl)) Via.refl e2 Fv_x (g := (mkF m 9 LL1 [(.ref x)])) rfl rfl (B d56_9)
  refine gb m T4 12 LL1 [(.ref tx)] (st4) ?_
  refine sC 13 (0 : Int32) X4 hx (B d56_12) rfl rfl ?_
  refine sA 14 X4 hx (B d56_13) rfl rfl rfl ?_
  refine sI 15 X4 hx (B d56_14) rfl rfl ?_
  refine sI 16 X4 hx (B d56_15) rfl rfl ?_
  refine gb m T4 17 LL1 [(.int ((nI oo) <<< ((0 : Int32) &&& 31))), (.ref tb), (.int (0 : Int32)), (.ref tx)] (fun _ k => XS.ishl X4.here hx rfl (B d56_16) rfl k) ?_
  rw [show ((nI oo) <<< ((0 : Int32) &&& 31)) = (nI oo) from own_shl0 _]
  refine sA 18 X4 hx (B d56_17) rfl rfl rfl ?_
  obtain ⟨T5, X5, e5, st5⟩ := getF X4 hx hZ hown (host := "") (Or.inl (wv hw 34 rfl)) Via.refl e4 Fv_x (g := (mkF m 18 LL1 [(.ref x), (.int (nI oo)), (.ref tb), (.int (0 : Int32)), (.ref tx)])) rfl rfl (B d56_18)
  refine gb m T5 21 LL1 [(.ref tx), (.int (nI oo)), (.ref tb), (.int (0 : Int32)), (.ref tx)] (st5) ?_
  obtain ⟨cl6, Ar6, q6, S6, N6', H6, G6⟩ := id V_tx
  refine gb m T5 22 LL1 [(.int (nI xn)), (.int (nI oo)), (.ref tb), (.int (0 : Int32)), (.ref tx)] (fun t k => X5.arraylength hx (by rw [e5]; exact Ar6.1) (State.isArrayOf_alike hZ.alike Ar6.2.1) (g := (mkF m 21 LL1 [(.ref tx), (.int (nI oo)), (.ref tb), (.int (0 : Int32)), (.ref tx)])) rfl rfl (B d56_21) t (by rw [len_of S6 N6']; exact k)) ?_
  obtain ⟨T7, h7, L7, X7, e7, N7, K7, V7, st7⟩ := cpA X5 hx hZ hown (wv hw 180 rfl) (wv hw 125 rfl) (wv hw 123 rfl) (wv hw 124 rfl) e5 V_tx V_t (Or.inl ⟨rfl, rfl⟩) (sp := (nI 0)) (dp := (nI oo)) (nn := (nI xn)) (own_neg (a := 0) (by omega)) (own_neg (a := oo) (by omega)) (own_neg (a := xn) (by omega)) (by rw [own_nat (a := 0) (by omega), own_nat (a := xn) (by omega)]; omega) (by rw [own_nat (a := oo) (by omega), own_nat (a := xn) (by omega), own_nat (a := Lb) (by omega)]; omega) rfl (by rw [own_nat (a := oo) (by omega), own_nat (a := xn) (by omega), own_clen]; omega) N g_tb (g := (mkF m 22 LL1 [(.int (nI xn)), (.int (nI oo)), (.ref tb), (.int (0 : Int32)), (.ref tx)])) rfl (by rw [hml]; rfl) rfl (B d56_22) (by decide) (W := 0) (by show 2 * 0 + _ ≤ _; exact Nat.le_of_eq rfl) (by decide)
  replace N := N7
  rw [own_nat (a := oo) (by omega), own_nat (a := xn) (by omega), own_nat (a := 0) (by omega), own_ccp (by omega) (by omega)] at V7
  have nq8 : x ≠ tb := (own_nev E_x (wv hw 8 rfl) V_t)
  replace E_x := E_x.keep K7
  replace Fv_x := Fv_x.keep K7 (ninS nq8 nin0)
  replace Fc_x := Fc_x.keep K7 (ninS nq8 nin0)
  replace V_tx := V_tx.keep K7 (ninS hne nin0)
  replace O := O.keep K7 (allS g_tb all0)
  replace K := K.trans K7 (allS (Or.inl (by simp)) all0)
  obtain ⟨fd7, hfd7⟩ : ∃ g, g = cpy fx 0 ft oo xn := ⟨_, rfl⟩
  rw [← hfd7] at V7
  refine gb m T7 25 LL1 [] (st7) ?_
  refine gb m T7 43 LL1 [] (fun _ k => XS.goto X7.here hx rfl (pc0 := 25) (pc' := 43) rfl (B d56_25) (by decide) (by decide) k) ?_
  obtain ⟨fs, hr, hrun, hended, hW, hsame⟩ := X7.leave (v := none) (fun _ => rfl)
  refine ⟨_, _, X7.returnOut hx Bd.returns (B d56_43) hr, hrun, hended, _, _, rfl, ?_, ⟨_, rfl⟩, hW, hsame.mono (by decide) (by decide)⟩
  show Qwr Z tb Lb (fun f => (∀ i, i < xn → f (oo + i) = fx i) ∧ ∀ j, j < oo → f j = ft j) h0 n0 (none) T7.heap _
  rw [e7]
  exact ⟨rfl, N, K, _, _, V7, own_cpyA hfd7⟩

theorem pn_gb11 : plainFor (⟨"java/lang/String", "getBytes", "([BIB)V"⟩ : MethodName) = true := plainFor_of_name (by first | (simp [plainName, overriddenIn]; done) | decide +kernel)
theorem ef_gb11 (m : MethodId) (x0 : Addr) (x1 : Addr) : entryFrame m #[(.ref x0), (.ref x1), (.int (0 : Int32)), (.int (1 : Int32))] 4 = mkF m 0 #[.val (.ref x0), .val (.ref x1), .val (.int (0 : Int32)), .val (.int (1 : Int32))] [] := by first | (simp [entryFrame, mkF, argsToLocals, Value.category]; done) | rfl
theorem rm_gb11 (l : Launch) (Z : State) (a0 : Array Value) (hw : ∀ d ∈ tables_1, d.before a0 Z = true) (ws : List Jvm.Cond) (x tx : Addr) (kx : ClassId) (xn : Nat) (fx : Nat → Int32) (tb : Addr) (kt : ClassId) (Lb : Nat) (ft : Nat → Int32) (zc : Int32) (fm : Value) (hS0 : Sf Z zc fm) (h0 : Heap) (n0 : Nat) (O : Old Z n0 h0) (E_x : Exa Z h0 x "java/lang/String") (Fv_x : Fld Z h0 x "java/lang/String" "value" "[B" (.ref tx)) (Fc_x : Fld Z h0 x "java/lang/String" "coder" "B" (.int 1)) (V_tx : Arv Z h0 tx kx .byte (nI (2 * xn)) (cont (2 * xn) fx) (.int 0)) (hxn : xn ≤ 300) (V_t : Arv Z h0 tb kt .byte (nI Lb) (cont Lb ft) (.int 0)) (g_tb : n0 ≤ tb) (hne : tx ≠ tb) (hy0 : Lb ≤ 1100) (hy1 : 2 * xn ≤ Lb) :
    MF l Z h0 (⟨"java/lang/String", "getBytes", "([BIB)V"⟩ : MethodName) c56 4 none ws (rk 1 0 0 18) #[(.ref x), (.ref tb), (.int (0 : Int32)), (.int (1 : Int32))] (Qwr Z tb Lb (fun f => ∀ i, i < 2 * xn → f i = fx i) h0 n0) := by
  refine sg n0 [tb] pn_gb11 rfl (fun m => ef_gb11 m x tb) fun p e s m below meth c s₁ Bd hml hZ hh hx B hown hnm X0 e0 N K => ?_
  let LL1 : Array Slot := #[.val (.ref x), .val (.ref tb), .val (.int (0 : Int32)), .val (.int (1 : Int32))]
  refine sA 1 X0 hx (B d56_0) rfl rfl rfl ?_
  have hs2_x : xn ≤ 300 := by omega
  obtain ⟨v2, T2, Lc2, X2, hQ2, st2⟩ := cV LL1 [] X0 hx hZ hown hw e0 hml E_x 45 46 48 47 9 49 rfl rfl rfl rfl rfl rfl (by decide) (rm_cdr1 l Z a0 hw [] x tx _ xn fx   zc fm hS0 h0 n0 O E_x Fv_x Fc_x V_tx hs2_x  ) pd14 rfl rfl (B d56_1) rfl
  obtain ⟨rfl, Nq2, e2⟩ := hQ2
  replace N := Fr.app N Nq2
  refine gb m T2 4 LL1 [(.int (1 : Int32))] (st2) ?_
  refine sI 5 X2 hx (B d56_4) rfl rfl ?_
  refine gb m T2 8 LL1 [] (fun _ k => XS.icmpNo X2.here hx rfl (B d56_5) rfl (teq (by decide : (1 : Int32) = (1 : Int32))).2 k) ?_
  refine sA 9 X2 hx (B d56_8) rfl rfl rfl ?_
  obtain ⟨T4, X4, e4, st4⟩ := getF X2 hx hZ hown (host := "") (Or.inl (wv hw 34 rfl)) Via.refl e2 Fv_x (g := (mkF m 9 LL1 [(.ref x)])) rfl rfl (B d56_9)
  refine gb m T4 12 LL1 [(.ref tx)] (st4) ?_
  refine sC 13 (0 : Int32) X4 hx (B d56_12) rfl rfl ?_
  refine sA 14 X4 hx (B d56_13) rfl rfl rfl ?_
  refine sI 15 X4 hx (B d56_14) rfl rfl ?_
  refine sI 16 X4 hx (B d56_15) rfl rfl ?_
  refine gb m T4 17 LL1 [(.int ((0 : Int32) <<< ((1 : Int32) &&& 31))), (.ref tb), (.int (0 : Int32)), (.ref tx)] (fun _ k => XS.ishl X4.here hx rfl (B d56_16) rfl k) ?_
  rw [show ((0 : Int32) <<< ((1 : Int32) &&& 31)) = (0 : Int32) from by decide]
  refine sA 18 X4 hx (B d56_17) rfl rfl rfl ?_
  obtain ⟨T5, X5, e5, st5⟩ := getF X4 hx hZ hown (host := "") (Or.inl (wv hw 34 rfl)) Via.refl e4 Fv_x (g := (mkF m 18 LL1 [(.ref x), (.int (0 : Int32)), (.ref tb), (.int (0 : Int32)), (.ref tx)])) rfl rfl (B d56_18)
  refine gb m T5 21 LL1 [(.ref tx), (.int (0 : Int32)), (.ref tb), (.int (0 : Int32)), (.ref tx)] (st5) ?_
  obtain ⟨cl6, Ar6, q6, S6, N6', H6, G6⟩ := id V_tx
  refine gb m T5 22 LL1 [(.int (nI (2 * xn))), (.int (0 : Int32)), (.ref tb), (.int (0 : Int32)), (.ref tx)] (fun t k => X5.arraylength hx (by rw [e5]; exact Ar6.1) (State.isArrayOf_alike hZ.alike Ar6.2.1) (g := (mkF m 21 LL1 [(.ref tx), (.int (0 : Int32)), (.ref tb), (.int (0 : Int32)), (.ref tx)])) rfl rfl (B d56_21) t (by rw [len_of S6 N6']; exact k)) ?_
  obtain ⟨T7, h7, L7, X7, e7, N7, K7, V7, st7⟩ := cpA X5 hx hZ hown (wv hw 180 rfl) (wv hw 125 rfl) (wv hw 123 rfl) (wv hw 124 rfl) e5 V_tx V_t (Or.inl ⟨rfl, rfl⟩) (sp := (nI 0)) (dp := (nI 0)) (nn := (nI (2 * xn))) (own_neg (a := 0) (by omega)) (own_neg (a := 0) (by omega)) (own_neg (a := (2 * xn)) (by omega)) (by rw [own_nat (a := 0) (by omega), own_nat (a := (2 * xn)) (by omega)]; omega) (by rw [own_nat (a := 0) (by omega), own_nat (a := (2 * xn)) (by omega), own_nat (a := Lb) (by omega)]; omega) rfl (by rw [own_nat (a := 0) (by omega), own_nat (a := (2 * xn)) (by omega), own_clen]; omega) N g_tb (g := (mkF m 22 LL1 [(.int (nI (2 * xn))), (.int (0 : Int32)), (.ref tb), (.int (0 : Int32)), (.ref tx)])) rfl (by rw [hml]; rfl) rfl (B d56_22) (by decide) (W := 0) (by show 2 * 0 + _ ≤ _; exact Nat.le_of_eq rfl) (by decide)
  replace N := N7
  rw [own_nat (a := 0) (by omega), own_nat (a := (2 * xn)) (by omega), own_ccp (by omega) (by omega)] at V7
  have nq8 : x ≠ tb := (own_nev E_x (wv hw 8 rfl) V_t)
  replace E_x := E_x.keep K7
  replace Fv_x := Fv_x.keep K7 (ninS nq8 nin0)
  replace Fc_x := Fc_x.keep K7 (ninS nq8 nin0)
  replace V_tx := V_tx.keep K7 (ninS hne nin0)
  replace O := O.keep K7 (allS g_tb all0)
  replace K := K.trans K7 (allS (Or.inl (by simp)) all0)
  obtain ⟨fd7, hfd7⟩ : ∃ g, g = cpy fx 0 ft 0 (2 * xn) := ⟨_, rfl⟩
  rw [← hfd7] at V7
  refine gb m T7 25 LL1 [] (st7) ?_
  refine gb m T7 43 LL1 [] (fun _ k => XS.goto X7.here hx rfl (pc0 := 25) (pc' := 43) rfl (B d56_25) (by decide) (by decide) k) ?_
  obtain ⟨fs, hr, hrun, hended, hW, hsame⟩ := X7.leave (v := none) (fun _ => rfl)
  refine ⟨_, _, X7.returnOut hx Bd.returns (B d56_43) hr, hrun, hended, _, _, rfl, ?_, ⟨_, rfl⟩, hW, hsame.mono (by decide) (by decide)⟩
  show Qwr Z tb Lb (fun f => ∀ i, i < 2 * xn → f i = fx i) h0 n0 (none) T7.heap _
  rw [e7]
  exact ⟨rfl, N, K, _, _, V7, fun i hi => own_cpy0 hfd7 hi⟩

theorem d56_28 : decode c56 28 = .ok (.aload_n 0, 1) := by decide +kernel
theorem d56_29 : decode c56 29 = .ok (.getfield 9, 3) := by decide +kernel
theorem d56_32 : decode c56 32 = .ok (.iconst 0, 1) := by decide +kernel
theorem d56_33 : decode c56 33 = .ok (.aload_n 1, 1) := by decide +kernel
theorem d56_34 : decode c56 34 = .ok (.iload_n 2, 1) := by decide +kernel
theorem d56_35 : decode c56 35 = .ok (.aload_n 0, 1) := by decide +kernel
theorem d56_36 : decode c56 36 = .ok (.getfield 9, 3) := by decide +kernel
theorem d56_39 : decode c56 39 = .ok (.arraylength, 1) := by decide +kernel
theorem d56_40 : decode c56 40 = .ok (.invokestatic 106, 3) := by decide +kernel
theorem pn_gb10 : plainFor (⟨"java/lang/String", "getBytes", "([BIB)V"⟩ : MethodName) = true := plainFor_of_name (by first | (simp [plainName, overriddenIn]; done) | decide +kernel)
theorem ef_gb10 (m : MethodId) (x0 : Addr) (x1 : Addr) (x2 : Int32) : entryFrame m #[(.ref x0), (.ref x1), (.int x2), (.int (1 : Int32))] 4 = mkF m 0 #[.val (.ref x0), .val (.ref x1), .val (.int x2), .val (.int (1 : Int32))] [] := by first | (simp [entryFrame, mkF, argsToLocals, Value.category]; done) | rfl
theorem rm_gb10 (l : Launch) (Z : State) (a0 : Array Value) (hw : ∀ d ∈ tables_1, d.before a0 Z = true) (ws : List Jvm.Cond) (x tx : Addr) (kx : ClassId) (xn : Nat) (fx : Nat → Int32) (dc : Nat → Nat) (tb : Addr) (kt : ClassId) (ql : Nat) (ft : Nat → Int32) (oo : Nat) (zc : Int32) (fm : Value) (hS0 : Sf Z zc fm) (h0 : Heap) (n0 : Nat) (O : Old Z n0 h0) (E_x : Exa Z h0 x "java/lang/String") (Fv_x : Fld Z h0 x "java/lang/String" "value" "[B" (.ref tx)) (Fc_x : Fld Z h0 x "java/lang/String" "coder" "B" (.int 0)) (V_tx : Arv Z h0 tx kx .byte (nI xn) (cont xn fx) (.int 0)) (hxn : xn ≤ 300) (hD : Lat 3 fx dc) (hx3 : xn = 3) (V_t : Arv Z h0 tb kt .byte (nI (2 * ql)) (cont (2 * ql) ft) (.int 0)) (g_tb : n0 ≤ tb) (hne : tx ≠ tb) (hy0 : ql ≤ 600) (hy1 : oo + 3 ≤ ql) :
    MF l Z h0 (⟨"java/lang/String", "getBytes", "([BIB)V"⟩ : MethodName) c56 4 none ws (rk 5 0 0 76) #[(.ref x), (.ref tb), (.int (nI oo)), (.int (1 : Int32))] (Qwr Z tb (2 * ql) (fun f => (∀ i, i < 3 → dec (f (2 * (oo + i))) (f (2 * (oo + i) + 1)) = nI (dc i)) ∧ ∀ j, j < 2 * oo → f j = ft j) h0 n0) := by
  refine sg n0 [tb] pn_gb10 rfl (fun m => ef_gb10 m x tb (nI oo)) fun p e s m below meth c s₁ Bd hml hZ hh hx B hown hnm X0 e0 N K => ?_
  subst hx3
  let LL1 : Array Slot := #[.val (.ref x), .val (.ref tb), .val (.int (nI oo)), .val (.int (1 : Int32))]
  refine sA 1 X0 hx (B d56_0) rfl rfl rfl ?_
  have hs2_x : 3 ≤ 300 := by omega
  obtain ⟨v2, T2, Lc2, X2, hQ2, st2⟩ := cV LL1 [] X0 hx hZ hown hw e0 hml E_x 45 46 48 47 9 49 rfl rfl rfl rfl rfl rfl (by decide) (rm_cdr0 l Z a0 hw [] x tx _ 3 fx   zc fm hS0 h0 n0 O E_x Fv_x Fc_x V_tx hs2_x  ) pd14 rfl rfl (B d56_1) rfl
  obtain ⟨rfl, Nq2, e2⟩ := hQ2
  replace N := Fr.app N Nq2
  refine gb m T2 4 LL1 [(.int (0 : Int32))] (st2) ?_
  refine sI 5 X2 hx (B d56_4) rfl rfl ?_
  refine gb m T2 28 LL1 [] (fun _ k => XS.icmpYes X2.here hx rfl (pc0 := 5) (pc' := 28) rfl (B d56_5) rfl (feq (by decide : ¬ ((0 : Int32) = (1 : Int32)))).2 (by decide) (by decide) k) ?_
  refine sA 29 X2 hx (B d56_28) rfl rfl rfl ?_
  obtain ⟨T4, X4, e4, st4⟩ := getF X2 hx hZ hown (host := "") (Or.inl (wv hw 34 rfl)) Via.refl e2 Fv_x (g := (mkF m 29 LL1 [(.ref x)])) rfl rfl (B d56_29)
  refine gb m T4 32 LL1 [(.ref tx)] (st4) ?_
  refine sC 33 (0 : Int32) X4 hx (B d56_32) rfl rfl ?_
  refine sA 34 X4 hx (B d56_33) rfl rfl rfl ?_
  refine sI 35 X4 hx (B d56_34) rfl rfl ?_
  refine sA 36 X4 hx (B d56_35) rfl rfl rfl ?_
  obtain ⟨T5, X5, e5, st5⟩ := getF X4 hx hZ hown (host := "") (Or.inl (wv hw 34 rfl)) Via.refl e4 Fv_x (g := (mkF m 36 LL1 [(.ref x), (.int (nI oo)), (.ref tb), (.int (0 : Int32)), (.ref tx)])) rfl rfl (B d56_36)
  refine gb m T5 39 LL1 [(.ref tx), (.int (nI oo)), (.ref tb), (.int (0 : Int32)), (.ref tx)] (st5) ?_
  obtain ⟨cl6, Ar6, q6, S6, N6', H6, G6⟩ := id V_tx
  refine gb m T5 40 LL1 [(.int (nI 3)), (.int (nI oo)), (.ref tb), (.int (0 : Int32)), (.ref tx)] (fun t k => X5.arraylength hx (by rw [e5]; exact Ar6.1) (State.isArrayOf_alike hZ.alike Ar6.2.1) (g := (mkF m 39 LL1 [(.ref tx), (.int (nI oo)), (.ref tb), (.int (0 : Int32)), (.ref tx)])) rfl rfl (B d56_39) t (by rw [len_of S6 N6']; exact k)) ?_
  have hy7_0 : ql ≤ 600 := by omega
  have hy7_1 : oo + 3 ≤ ql := by omega
  obtain ⟨v7, T7, Lc7, X7, hQ7, st7⟩ := cS LL1 [] X5 hx hZ hown hw e5 hml 310 305 105 306 rfl rfl rfl rfl (by decide) (rm_lin3 l Z a0 hw [] tx _ fx dc tb _ ql ft oo zc fm hS0 h0 n0 O V_tx hD V_t g_tb hne hy7_0 hy7_1) pd30 rfl rfl (B d56_40) rfl
  obtain ⟨rfl, Nq7, K7, k27, fd7, Vt7, hP7⟩ := hQ7
  replace N := Fr.app N Nq7
  have nq8 : x ≠ tb := (own_nev E_x (wv hw 8 rfl) V_t)
  replace E_x := E_x.keep K7
  replace Fv_x := Fv_x.keep K7 (ninS nq8 nin0)
  replace Fc_x := Fc_x.keep K7 (ninS nq8 nin0)
  replace V_tx := V_tx.keep K7 (ninS hne nin0)
  replace O := O.keep K7 (allS g_tb all0)
  replace K := K.trans K7 (allS (Or.inl (by simp)) all0)
  refine gb m T7 43 LL1 [] (st7) ?_
  obtain ⟨fs, hr, hrun, hended, hW, hsame⟩ := X7.leave (v := none) (fun _ => rfl)
  refine ⟨_, _, X7.returnOut hx Bd.returns (B d56_43) hr, hrun, hended, _, _, rfl, ?_, ⟨_, rfl⟩, hW, hsame.mono (by decide) (by decide)⟩
  show Qwr Z tb (2 * ql) (fun f => (∀ i, i < 3 → dec (f (2 * (oo + i))) (f (2 * (oo + i) + 1)) = nI (dc i)) ∧ ∀ j, j < 2 * oo → f j = ft j) h0 n0 (none) T7.heap _
  exact ⟨rfl, N, K, _, _, Vt7, hP7⟩

theorem d57_0 : decode c57 0 = .ok (.aload_n 0, 1) := by decide +kernel
theorem d57_1 : decode c57 1 = .ok (.aload_n 2, 1) := by decide +kernel
theorem d57_2 : decode c57 2 = .ok (.invokevirtual 397, 3) := by decide +kernel
theorem d57_5 : decode c57 5 = .ok (.aload_n 2, 1) := by decide +kernel
theorem d57_6 : decode c57 6 = .ok (.aload_n 0, 1) := by decide +kernel
theorem d57_7 : decode c57 7 = .ok (.getfield 15, 3) := by decide +kernel
theorem d57_10 : decode c57 10 = .ok (.iload_n 1, 1) := by decide +kernel
theorem d57_11 : decode c57 11 = .ok (.aload_n 0, 1) := by decide +kernel
theorem d57_12 : decode c57 12 = .ok (.getfield 22, 3) := by decide +kernel
theorem d57_15 : decode c57 15 = .ok (.invokevirtual 399, 3) := by decide +kernel
theorem d57_18 : decode c57 18 = .ok (.return_, 1) := by decide +kernel
theorem pn_ps00 : plainFor (⟨"java/lang/AbstractStringBuilder", "putStringAt", "(ILjava/lang/String;)V"⟩ : MethodName) = true := plainFor_of_name (by first | (simp [plainName, overriddenIn]; done) | decide +kernel)
theorem pd32 : parseMethodDescriptor "(Ljava/lang/String;)V" = some ⟨[(.object "java/lang/String")], none⟩ := by decide +kernel
theorem pd33 : parseMethodDescriptor "([BIB)V" = some ⟨[(.array .byte), .int, .byte], none⟩ := by decide +kernel
theorem ef_ps00 (m : MethodId) (x0 : Addr) (x1 : Int32) (x2 : Addr) : entryFrame m #[(.ref x0), (.int x1), (.ref x2)] 3 = mkF m 0 #[.val (.ref x0), .val (.int x1), .val (.ref x2)] [] := by first | (simp [entryFrame, mkF, argsToLocals, Value.category]; done) | rfl
theorem rm_ps00 (l : Launch) (Z : State) (a0 : Array Value) (hw : ∀ d ∈ tables_1, d.before a0 Z = true) (ws : List Jvm.Cond) (bb tb : Addr) (kt : ClassId) (Lb cb : Nat) (ft : Nat → Int32) (x tx : Addr) (kx : ClassId) (xn : Nat) (fx : Nat → Int32) (oo : Nat) (zc : Int32) (fm : Value) (hS0 : Sf Z zc fm) (h0 : Heap) (n0 : Nat) (O : Old Z n0 h0) (E_b : Exa Z h0 bb "java/lang/StringBuilder") (Fv_b : Fld Z h0 bb "java/lang/AbstractStringBuilder" "value" "[B" (.ref tb)) (Fc_b : Fld Z h0 bb "java/lang/AbstractStringBuilder" "coder" "B" (.int 0)) (Fn_b : Fld Z h0 bb "java/lang/AbstractStringBuilder" "count" "I" (.int (nI cb))) (Fm_b : Fld Z h0 bb "java/lang/AbstractStringBuilder" "maybeLatin1" "Z" (.int 0)) (V_t : Arv Z h0 tb kt .byte (nI Lb) (cont Lb ft) (.int 0)) (E_t : Exa Z h0 tb "[B") (g_bb : n0 ≤ bb) (g_tb : n0 ≤ tb) (E_x : Exa Z h0 x "java/lang/String") (Fv_x : Fld Z h0 x "java/lang/String" "value" "[B" (.ref tx)) (Fc_x : Fld Z h0 x "java/lang/String" "coder" "B" (.int 0)) (V_tx : Arv Z h0 tx kx .byte (nI xn) (cont xn fx) (.int 0)) (hxn : xn ≤ 300) (hne : tx ≠ tb) (hy0 : Lb ≤ 1100) (hy1 : oo + xn ≤ Lb) :
    MF l Z h0 (⟨"java/lang/AbstractStringBuilder", "putStringAt", "(ILjava/lang/String;)V"⟩ : MethodName) c57 3 none ws (rk 2 0 0 33) #[(.ref bb), (.int (nI oo)), (.ref x)] (Qwr Z tb Lb (fun f => (∀ i, i < xn → f (oo + i) = fx i) ∧ ∀ j, j < oo → f j = ft j) h0 n0) := by
  refine sg n0 [tb] pn_ps00 rfl (fun m => ef_ps00 m bb (nI oo) x) fun p e s m below meth c s₁ Bd hml hZ hh hx B hown hnm X0 e0 N K => ?_
  have n_bt : bb ≠ tb := (own_nev E_b (wv hw 74 rfl) V_t)
  let LL1 : Array Slot := #[.val (.ref bb), .val (.int (nI oo)), .val (.ref x)]
  refine sA 1 X0 hx (B d57_0) rfl rfl rfl ?_
  refine sA 2 X0 hx (B d57_1) rfl rfl rfl ?_
  have hs2_x : xn ≤ 300 := by omega
  obtain ⟨cq2, q2, q2'⟩ := E_b.cell
  obtain ⟨v2, _, ⟨T2, L2, k2, n2⟩, -, X2, ⟨Lc2, hQ2, l2, y2, z2⟩, st2⟩ := X0.privateBack hx (y := (⟨"java/lang/AbstractStringBuilder", "inflateIfNeededFor", "(Ljava/lang/String;)V"⟩ : MethodName)) hown (mvT hZ (wv hw 169 rfl)) (mvT hZ (wv hw 170 rfl)) (own_selp (mvT hZ (wv hw 172 rfl)) (Cond.privateMethod_at (mvP hZ (wv hw 171 rfl) (args := #[]))) (mvT hZ (wv hw 170 rfl)) (by decide)) (Cond.privateMethod_at (mvP hZ (wv hw 171 rfl) (args := #[]))) (mvT hZ (wv hw 173 rfl)) (by decide) (backOf (W := 0) (rm_iin00 l Z a0 hw [] bb tb _ Lb cb ft x tx _ xn fx zc fm hS0 h0 n0 O E_b Fv_b Fc_b Fn_b Fm_b V_t E_t g_bb g_tb E_x Fv_x Fc_x V_tx hs2_x hne) hZ (wv hw 173 rfl) (wv hw 83 rfl) (by decide) (by decide)) (g := (mkF m 2 LL1 [(.ref x), (.ref bb)])) rfl (by rw [hml]; rfl) (Steps.refl _) (a := bb) (by rw [e0]; exact q2) q2' (argsL := [(.ref x)]) (rest := []) (lenOf pd32 rfl) rfl (by show 2 * 0 + _ ≤ _; exact Nat.le_of_eq rfl) (B d57_2) (fun _ _ => ⟨rfl, e0, (by decide : 0 + 0 ≤ _), (by decide : 0 + 0 ≤ _)⟩)
  dsimp only [Pt.U, Pt.locs, Pt.cells, Pt.slots] at X2 l2 y2 z2 st2 hQ2
  rw [l2, y2, z2] at X2; clear l2 y2 z2
  obtain ⟨rfl, Nq2, e2⟩ := hQ2
  replace N := Fr.app N Nq2
  refine gb m T2 5 LL1 [] (fun _ k => st2.trans k) ?_
  refine sA 6 X2 hx (B d57_5) rfl rfl rfl ?_
  refine sA 7 X2 hx (B d57_6) rfl rfl rfl ?_
  obtain ⟨T3, X3, e3, st3⟩ := getF X2 hx hZ hown (host := "") (Or.inl (wv hw 87 rfl)) Via.refl e2 Fv_b (g := (mkF m 7 LL1 [(.ref bb), (.ref x)])) rfl rfl (B d57_7)
  refine gb m T3 10 LL1 [(.ref tb), (.ref x)] (st3) ?_
  refine sI 11 X3 hx (B d57_10) rfl rfl ?_
  refine sA 12 X3 hx (B d57_11) rfl rfl rfl ?_
  obtain ⟨T4, X4, e4, st4⟩ := getF X3 hx hZ hown (host := "") (Or.inl (wv hw 89 rfl)) Via.refl e3 Fc_b (g := (mkF m 12 LL1 [(.ref bb), (.int (nI oo)), (.ref tb), (.ref x)])) rfl rfl (B d57_12)
  refine gb m T4 15 LL1 [(.int (0 : Int32)), (.int (nI oo)), (.ref tb), (.ref x)] (st4) ?_
  have hs5_x : xn ≤ 300 := by omega
  have hy5_0 : Lb ≤ 1100 := by omega
  have hy5_1 : oo + xn ≤ Lb := by omega
  obtain ⟨v5, T5, Lc5, X5, hQ5, st5⟩ := cV LL1 [] X4 hx hZ hown hw e4 hml E_x 175 176 178 177 9 179 rfl rfl rfl rfl rfl rfl (by decide) (rm_gb00 l Z a0 hw [] x tx _ xn fx tb _ Lb ft oo zc fm hS0 h0 n0 O E_x Fv_x Fc_x V_tx hs5_x V_t g_tb hne hy5_0 hy5_1) pd33 rfl rfl (B d57_15) rfl
  obtain ⟨rfl, Nq5, K5, k25, fd5, Vt5, hP5⟩ := hQ5
  replace N := Fr.app N Nq5
  have nq6 : x ≠ tb := (ne_exa E_x E_t (by decide))
  replace E_b := E_b.keep K5
  replace Fv_b := Fv_b.keep K5 (ninS n_bt nin0)
  replace Fc_b := Fc_b.keep K5 (ninS n_bt nin0)
  replace Fn_b := Fn_b.keep K5 (ninS n_bt nin0)
  replace Fm_b := Fm_b.keep K5 (ninS n_bt nin0)
  replace E_t := E_t.keep K5
  replace E_x := E_x.keep K5
  replace Fv_x := Fv_x.keep K5 (ninS nq6 nin0)
  replace Fc_x := Fc_x.keep K5 (ninS nq6 nin0)
  replace V_tx := V_tx.keep K5 (ninS hne nin0)
  replace O := O.keep K5 (allS g_tb all0)
  replace K := K.trans K5 (allS (Or.inl (by simp)) all0)
  refine gb m T5 18 LL1 [] (st5) ?_
  obtain ⟨fs, hr, hrun, hended, hW, hsame⟩ := X5.leave (v := none) (fun _ => rfl)
  refine ⟨_, _, X5.returnOut hx Bd.returns (B d57_18) hr, hrun, hended, _, _, rfl, ?_, ⟨_, rfl⟩, hW, hsame.mono (by decide) (by decide)⟩
  show Qwr Z tb Lb (fun f => (∀ i, i < xn → f (oo + i) = fx i) ∧ ∀ j, j < oo → f j = ft j) h0 n0 (none) T5.heap _
  exact ⟨rfl, N, K, _, _, Vt5, hP5⟩

theorem pn_ps01 : plainFor (⟨"java/lang/AbstractStringBuilder", "putStringAt", "(ILjava/lang/String;)V"⟩ : MethodName) = true := plainFor_of_name (by first | (simp [plainName, overriddenIn]; done) | decide +kernel)
theorem ef_ps01 (m : MethodId) (x0 : Addr) (x2 : Addr) : entryFrame m #[(.ref x0), (.int (0 : Int32)), (.ref x2)] 3 = mkF m 0 #[.val (.ref x0), .val (.int (0 : Int32)), .val (.ref x2)] [] := by first | (simp [entryFrame, mkF, argsToLocals, Value.category]; done) | rfl
theorem rm_ps01 (l : Launch) (Z : State) (a0 : Array Value) (hw : ∀ d ∈ tables_1, d.before a0 Z = true) (ws : List Jvm.Cond) (bb tb : Addr) (kt : ClassId) (Lb : Nat) (ft : Nat → Int32) (x tx : Addr) (kx : ClassId) (xn : Nat) (fx : Nat → Int32) (zc : Int32) (fm : Value) (hS0 : Sf Z zc fm) (h0 : Heap) (n0 : Nat) (O : Old Z n0 h0) (E_b : Exa Z h0 bb "java/lang/StringBuilder") (Fv_b : Fld Z h0 bb "java/lang/AbstractStringBuilder" "value" "[B" (.ref tb)) (Fc_b : Fld Z h0 bb "java/lang/AbstractStringBuilder" "coder" "B" (.int 0)) (Fn_b : Fld Z h0 bb "java/lang/AbstractStringBuilder" "count" "I" (.int (nI 0))) (Fm_b : Fld Z h0 bb "java/lang/AbstractStringBuilder" "maybeLatin1" "Z" (.int 0)) (V_t : Arv Z h0 tb kt .byte (nI Lb) (cont Lb ft) (.int 0)) (E_t : Exa Z h0 tb "[B") (g_bb : n0 ≤ bb) (g_tb : n0 ≤ tb) (E_x : Exa Z h0 x "java/lang/String") (Fv_x : Fld Z h0 x "java/lang/String" "value" "[B" (.ref tx)) (Fc_x : Fld Z h0 x "java/lang/String" "coder" "B" (.int 1)) (V_tx : Arv Z h0 tx kx .byte (nI (2 * xn)) (cont (2 * xn) fx) (.int 0)) (hxn : xn ≤ 300) (hne : tx ≠ tb) (hy0 : Lb ≤ 300) (hy1 : xn ≤ Lb) :
    MF l Z h0 (⟨"java/lang/AbstractStringBuilder", "putStringAt", "(ILjava/lang/String;)V"⟩ : MethodName) c57 3 none ws (rk 7 1 1040 102) #[(.ref bb), (.int (0 : Int32)), (.ref x)] (Qbd Z bb none 1 0 (2 * Lb) (fun f => ∀ i, i < 2 * xn → f i = fx i) h0 n0) := by
  refine sg n0 [bb] pn_ps01 rfl (fun m => ef_ps01 m bb x) fun p e s m below meth c s₁ Bd hml hZ hh hx B hown hnm X0 e0 N K => ?_
  have n_bt : bb ≠ tb := (own_nev E_b (wv hw 74 rfl) V_t)
  let LL1 : Array Slot := #[.val (.ref bb), .val (.int (0 : Int32)), .val (.ref x)]
  refine sA 1 X0 hx (B d57_0) rfl rfl rfl ?_
  refine sA 2 X0 hx (B d57_1) rfl rfl rfl ?_
  have hs2_x : xn ≤ 300 := by omega
  have hy2_0 : Lb ≤ 300 := by omega
  obtain ⟨cq2, q2, q2'⟩ := E_b.cell
  obtain ⟨v2, _, ⟨T2, L2, k2, n2⟩, -, X2, ⟨Lc2, hQ2, l2, y2, z2⟩, st2⟩ := X0.privateBack hx (y := (⟨"java/lang/AbstractStringBuilder", "inflateIfNeededFor", "(Ljava/lang/String;)V"⟩ : MethodName)) hown (mvT hZ (wv hw 169 rfl)) (mvT hZ (wv hw 170 rfl)) (own_selp (mvT hZ (wv hw 172 rfl)) (Cond.privateMethod_at (mvP hZ (wv hw 171 rfl) (args := #[]))) (mvT hZ (wv hw 170 rfl)) (by decide)) (Cond.privateMethod_at (mvP hZ (wv hw 171 rfl) (args := #[]))) (mvT hZ (wv hw 173 rfl)) (by decide) (backOf (W := 0) (rm_iin01 l Z a0 hw [] bb tb _ Lb  ft x tx _ xn fx zc fm hS0 h0 n0 O E_b Fv_b Fc_b Fn_b Fm_b V_t E_t g_bb g_tb E_x Fv_x Fc_x V_tx hs2_x hne hy2_0) hZ (wv hw 173 rfl) (wv hw 83 rfl) (by decide) (by decide)) (g := (mkF m 2 LL1 [(.ref x), (.ref bb)])) rfl (by rw [hml]; rfl) (Steps.refl _) (a := bb) (by rw [e0]; exact q2) q2' (argsL := [(.ref x)]) (rest := []) (lenOf pd32 rfl) rfl (by show 2 * 0 + _ ≤ _; exact Nat.le_of_eq rfl) (B d57_2) (fun _ _ => ⟨rfl, e0, (by decide : 0 + 1 ≤ _), (by decide : 0 + 1040 ≤ _)⟩)
  dsimp only [Pt.U, Pt.locs, Pt.cells, Pt.slots] at X2 l2 y2 z2 st2 hQ2
  rw [l2, y2, z2] at X2; clear l2 y2 z2
  obtain ⟨rfl, Nq2, K2, t2, k22, fd2, gt2, Gv2, Gc2, Gn2, Gm2, Vt2, Et2, hP2⟩ := hQ2
  replace N := Fr.app N Nq2
  have ne_bb_t2 : bb ≠ t2 := Nat.ne_of_lt (Nat.lt_of_lt_of_le E_b.lt gt2)
  have ne_tb_t2 : tb ≠ t2 := Nat.ne_of_lt (Nat.lt_of_lt_of_le V_t.lt gt2)
  have ne_x_t2 : x ≠ t2 := Nat.ne_of_lt (Nat.lt_of_lt_of_le E_x.lt gt2)
  have ne_tx_t2 : tx ≠ t2 := Nat.ne_of_lt (Nat.lt_of_lt_of_le V_tx.lt gt2)
  have g_t2 : n0 ≤ t2 := Nat.le_trans (Old.le O) gt2
  have sz_t2 : h0.size ≤ t2 := Nat.le_trans K.1 gt2
  have nq3 : x ≠ bb := (ne_exa E_x E_b (by decide))
  have nq4 : tx ≠ bb := (Ne.symm (own_nev E_b (wv hw 74 rfl) V_tx))
  replace E_b := E_b.keep K2
  replace V_t := V_t.keep K2 (ninS (Ne.symm n_bt) nin0)
  replace E_t := E_t.keep K2
  replace E_x := E_x.keep K2
  replace Fv_x := Fv_x.keep K2 (ninS nq3 nin0)
  replace Fc_x := Fc_x.keep K2 (ninS nq3 nin0)
  replace V_tx := V_tx.keep K2 (ninS nq4 nin0)
  replace O := O.keep K2 (allS g_bb all0)
  replace K := K.trans K2 (allS (Or.inl (by simp)) all0)
  refine gb m T2 5 LL1 [] (fun _ k => st2.trans k) ?_
  refine sA 6 X2 hx (B d57_5) rfl rfl rfl ?_
  refine sA 7 X2 hx (B d57_6) rfl rfl rfl ?_
  obtain ⟨T5, X5, e5, st5⟩ := getF X2 hx hZ hown (host := "") (Or.inl (wv hw 87 rfl)) Via.refl rfl Gv2 (g := (mkF m 7 LL1 [(.ref bb), (.ref x)])) rfl rfl (B d57_7)
  refine gb m T5 10 LL1 [(.ref t2), (.ref x)] (st5) ?_
  refine sI 11 X5 hx (B d57_10) rfl rfl ?_
  refine sA 12 X5 hx (B d57_11) rfl rfl rfl ?_
  obtain ⟨T6, X6, e6, st6⟩ := getF X5 hx hZ hown (host := "") (Or.inl (wv hw 89 rfl)) Via.refl e5 Gc2 (g := (mkF m 12 LL1 [(.ref bb), (.int (0 : Int32)), (.ref t2), (.ref x)])) rfl rfl (B d57_12)
  refine gb m T6 15 LL1 [(.int (1 : Int32)), (.int (0 : Int32)), (.ref t2), (.ref x)] (st6) ?_
  have hs7_x : xn ≤ 300 := by omega
  have hy7_0 : (2 * Lb) ≤ 1100 := by omega
  have hy7_1 : 2 * xn ≤ (2 * Lb) := by omega
  obtain ⟨v7, T7, Lc7, X7, hQ7, st7⟩ := cV LL1 [] X6 hx hZ hown hw e6 hml E_x 175 176 178 177 9 179 rfl rfl rfl rfl rfl rfl (by decide) (rm_gb11 l Z a0 hw [] x tx _ xn fx t2 _ (2 * Lb) fd2  zc fm hS0 T2.heap n0 O E_x Fv_x Fc_x V_tx hs7_x Vt2 g_t2 ne_tx_t2 hy7_0 hy7_1) pd33 rfl rfl (B d57_15) rfl
  obtain ⟨rfl, Nq7, K7, k27, fd7, Vt7, hP7⟩ := hQ7
  replace N := Fr.app N Nq7
  replace E_b := E_b.keep K7
  replace V_t := V_t.keep K7 (ninS ne_tb_t2 nin0)
  replace E_t := E_t.keep K7
  replace E_x := E_x.keep K7
  replace Fv_x := Fv_x.keep K7 (ninS ne_x_t2 nin0)
  replace Fc_x := Fc_x.keep K7 (ninS ne_x_t2 nin0)
  replace V_tx := V_tx.keep K7 (ninS ne_tx_t2 nin0)
  replace Gv2 := Gv2.keep K7 (ninS ne_bb_t2 nin0)
  replace Gc2 := Gc2.keep K7 (ninS ne_bb_t2 nin0)
  replace Gn2 := Gn2.keep K7 (ninS ne_bb_t2 nin0)
  replace Gm2 := Gm2.keep K7 (ninS ne_bb_t2 nin0)
  replace Et2 := Et2.keep K7
  replace O := O.keep K7 (allS g_t2 all0)
  replace K := K.trans K7 (allS (Or.inr sz_t2) all0)
  refine gb m T7 18 LL1 [] (st7) ?_
  obtain ⟨fs, hr, hrun, hended, hW, hsame⟩ := X7.leave (v := none) (fun _ => rfl)
  refine ⟨_, _, X7.returnOut hx Bd.returns (B d57_18) hr, hrun, hended, _, _, rfl, ?_, ⟨_, rfl⟩, hW, hsame.mono (by decide) (by decide)⟩
  show Qbd Z bb none 1 0 (2 * Lb) (fun f => ∀ i, i < 2 * xn → f i = fx i) h0 n0 (none) T7.heap _
  exact ⟨rfl, N, K, t2, _, _, sz_t2, Gv2, Gc2, Gn2, Gm2, Vt7, Et2, hP7⟩

theorem pn_ps10 : plainFor (⟨"java/lang/AbstractStringBuilder", "putStringAt", "(ILjava/lang/String;)V"⟩ : MethodName) = true := plainFor_of_name (by first | (simp [plainName, overriddenIn]; done) | decide +kernel)
theorem ef_ps10 (m : MethodId) (x0 : Addr) (x1 : Int32) (x2 : Addr) : entryFrame m #[(.ref x0), (.int x1), (.ref x2)] 3 = mkF m 0 #[.val (.ref x0), .val (.int x1), .val (.ref x2)] [] := by first | (simp [entryFrame, mkF, argsToLocals, Value.category]; done) | rfl
theorem rm_ps10 (l : Launch) (Z : State) (a0 : Array Value) (hw : ∀ d ∈ tables_1, d.before a0 Z = true) (ws : List Jvm.Cond) (bb tb : Addr) (kt : ClassId) (qb cb : Nat) (ft : Nat → Int32) (x tx : Addr) (kx : ClassId) (xn : Nat) (fx : Nat → Int32) (dc : Nat → Nat) (oo : Nat) (zc : Int32) (fm : Value) (hS0 : Sf Z zc fm) (h0 : Heap) (n0 : Nat) (O : Old Z n0 h0) (E_b : Exa Z h0 bb "java/lang/StringBuilder") (Fv_b : Fld Z h0 bb "java/lang/AbstractStringBuilder" "value" "[B" (.ref tb)) (Fc_b : Fld Z h0 bb "java/lang/AbstractStringBuilder" "coder" "B" (.int 1)) (Fn_b : Fld Z h0 bb "java/lang/AbstractStringBuilder" "count" "I" (.int (nI cb))) (Fm_b : Fld Z h0 bb "java/lang/AbstractStringBuilder" "maybeLatin1" "Z" (.int 0)) (V_t : Arv Z h0 tb kt .byte (nI (2 * qb)) (cont (2 * qb) ft) (.int 0)) (E_t : Exa Z h0 tb "[B") (g_bb : n0 ≤ bb) (g_tb : n0 ≤ tb) (E_x : Exa Z h0 x "java/lang/String") (Fv_x : Fld Z h0 x "java/lang/String" "value" "[B" (.ref tx)) (Fc_x : Fld Z h0 x "java/lang/String" "coder" "B" (.int 0)) (V_tx : Arv Z h0 tx kx .byte (nI xn) (cont xn fx) (.int 0)) (hxn : xn ≤ 300) (hne : tx ≠ tb) (hD : Lat 3 fx dc) (hx3 : xn = 3) (hy0 : qb ≤ 600) (hy1 : oo + 3 ≤ qb) :
    MF l Z h0 (⟨"java/lang/AbstractStringBuilder", "putStringAt", "(ILjava/lang/String;)V"⟩ : MethodName) c57 3 none ws (rk 6 0 0 91) #[(.ref bb), (.int (nI oo)), (.ref x)] (Qwr Z tb (2 * qb) (fun f => (∀ i, i < 3 → dec (f (2 * (oo + i))) (f (2 * (oo + i) + 1)) = nI (dc i)) ∧ ∀ j, j < 2 * oo → f j = ft j) h0 n0) := by
  refine sg n0 [tb] pn_ps10 rfl (fun m => ef_ps10 m bb (nI oo) x) fun p e s m below meth c s₁ Bd hml hZ hh hx B hown hnm X0 e0 N K => ?_
  have n_bt : bb ≠ tb := (own_nev E_b (wv hw 74 rfl) V_t)
  subst hx3
  let LL1 : Array Slot := #[.val (.ref bb), .val (.int (nI oo)), .val (.ref x)]
  refine sA 1 X0 hx (B d57_0) rfl rfl rfl ?_
  refine sA 2 X0 hx (B d57_1) rfl rfl rfl ?_
  have hs2_x : 3 ≤ 300 := by omega
  obtain ⟨cq2, q2, q2'⟩ := E_b.cell
  obtain ⟨v2, _, ⟨T2, L2, k2, n2⟩, -, X2, ⟨Lc2, hQ2, l2, y2, z2⟩, st2⟩ := X0.privateBack hx (y := (⟨"java/lang/AbstractStringBuilder", "inflateIfNeededFor", "(Ljava/lang/String;)V"⟩ : MethodName)) hown (mvT hZ (wv hw 169 rfl)) (mvT hZ (wv hw 170 rfl)) (own_selp (mvT hZ (wv hw 172 rfl)) (Cond.privateMethod_at (mvP hZ (wv hw 171 rfl) (args := #[]))) (mvT hZ (wv hw 170 rfl)) (by decide)) (Cond.privateMethod_at (mvP hZ (wv hw 171 rfl) (args := #[]))) (mvT hZ (wv hw 173 rfl)) (by decide) (backOf (W := 0) (rm_iin10 l Z a0 hw [] bb tb _ qb cb ft x tx _ 3 fx dc zc fm hS0 h0 n0 O E_b Fv_b Fc_b Fn_b Fm_b V_t E_t g_bb g_tb E_x Fv_x Fc_x V_tx hs2_x hne hD rfl) hZ (wv hw 173 rfl) (wv hw 83 rfl) (by decide) (by decide)) (g := (mkF m 2 LL1 [(.ref x), (.ref bb)])) rfl (by rw [hml]; rfl) (Steps.refl _) (a := bb) (by rw [e0]; exact q2) q2' (argsL := [(.ref x)]) (rest := []) (lenOf pd32 rfl) rfl (by show 2 * 0 + _ ≤ _; exact Nat.le_of_eq rfl) (B d57_2) (fun _ _ => ⟨rfl, e0, (by decide : 0 + 0 ≤ _), (by decide : 0 + 0 ≤ _)⟩)
  dsimp only [Pt.U, Pt.locs, Pt.cells, Pt.slots] at X2 l2 y2 z2 st2 hQ2
  rw [l2, y2, z2] at X2; clear l2 y2 z2
  obtain ⟨rfl, Nq2, e2⟩ := hQ2
  replace N := Fr.app N Nq2
  refine gb m T2 5 LL1 [] (fun _ k => st2.trans k) ?_
  refine sA 6 X2 hx (B d57_5) rfl rfl rfl ?_
  refine sA 7 X2 hx (B d57_6) rfl rfl rfl ?_
  obtain ⟨T3, X3, e3, st3⟩ := getF X2 hx hZ hown (host := "") (Or.inl (wv hw 87 rfl)) Via.refl e2 Fv_b (g := (mkF m 7 LL1 [(.ref bb), (.ref x)])) rfl rfl (B d57_7)
  refine gb m T3 10 LL1 [(.ref tb), (.ref x)] (st3) ?_
  refine sI 11 X3 hx (B d57_10) rfl rfl ?_
  refine sA 12 X3 hx (B d57_11) rfl rfl rfl ?_
  obtain ⟨T4, X4, e4, st4⟩ := getF X3 hx hZ hown (host := "") (Or.inl (wv hw 89 rfl)) Via.refl e3 Fc_b (g := (mkF m 12 LL1 [(.ref bb), (.int (nI oo)), (.ref tb), (.ref x)])) rfl rfl (B d57_12)
  refine gb m T4 15 LL1 [(.int (1 : Int32)), (.int (nI oo)), (.ref tb), (.ref x)] (st4) ?_
  have hs5_x : 3 ≤ 300 := by omega
  have hy5_0 : qb ≤ 600 := by omega
  have hy5_1 : oo + 3 ≤ qb := by omega
  obtain ⟨v5, T5, Lc5, X5, hQ5, st5⟩ := cV LL1 [] X4 hx hZ hown hw e4 hml E_x 175 176 178 177 9 179 rfl rfl rfl rfl rfl rfl (by decide) (rm_gb10 l Z a0 hw [] x tx _ 3 fx dc tb _ qb ft oo zc fm hS0 h0 n0 O E_x Fv_x Fc_x V_tx hs5_x hD rfl V_t g_tb hne hy5_0 hy5_1) pd33 rfl rfl (B d57_15) rfl
  obtain ⟨rfl, Nq5, K5, k25, fd5, Vt5, hP5⟩ := hQ5
  replace N := Fr.app N Nq5
  have nq6 : x ≠ tb := (ne_exa E_x E_t (by decide))
  replace E_b := E_b.keep K5
  replace Fv_b := Fv_b.keep K5 (ninS n_bt nin0)
  replace Fc_b := Fc_b.keep K5 (ninS n_bt nin0)
  replace Fn_b := Fn_b.keep K5 (ninS n_bt nin0)
  replace Fm_b := Fm_b.keep K5 (ninS n_bt nin0)
  replace E_t := E_t.keep K5
  replace E_x := E_x.keep K5
  replace Fv_x := Fv_x.keep K5 (ninS nq6 nin0)
  replace Fc_x := Fc_x.keep K5 (ninS nq6 nin0)
  replace V_tx := V_tx.keep K5 (ninS hne nin0)
  replace O := O.keep K5 (allS g_tb all0)
  replace K := K.trans K5 (allS (Or.inl (by simp)) all0)
  refine gb m T5 18 LL1 [] (st5) ?_
  obtain ⟨fs, hr, hrun, hended, hW, hsame⟩ := X5.leave (v := none) (fun _ => rfl)
  refine ⟨_, _, X5.returnOut hx Bd.returns (B d57_18) hr, hrun, hended, _, _, rfl, ?_, ⟨_, rfl⟩, hW, hsame.mono (by decide) (by decide)⟩
  show Qwr Z tb (2 * qb) (fun f => (∀ i, i < 3 → dec (f (2 * (oo + i))) (f (2 * (oo + i) + 1)) = nI (dc i)) ∧ ∀ j, j < 2 * oo → f j = ft j) h0 n0 (none) T5.heap _
  exact ⟨rfl, N, K, _, _, Vt5, hP5⟩

theorem d58_0 : decode c58 0 = .ok (.aload_n 1, 1) := by decide +kernel
theorem d58_1 : decode c58 1 = .ok (.ifnonnull 8, 3) := by decide +kernel
theorem d58_9 : decode c58 9 = .ok (.aload_n 1, 1) := by decide +kernel
theorem d58_10 : decode c58 10 = .ok (.invokevirtual 32, 3) := by decide +kernel
theorem d58_13 : decode c58 13 = .ok (.istore_n 2, 1) := by decide +kernel
theorem d58_14 : decode c58 14 = .ok (.aload_n 0, 1) := by decide +kernel
theorem d58_15 : decode c58 15 = .ok (.aload_n 0, 1) := by decide +kernel
theorem d58_16 : decode c58 16 = .ok (.getfield 79, 3) := by decide +kernel
theorem d58_19 : decode c58 19 = .ok (.iload_n 2, 1) := by decide +kernel
theorem d58_20 : decode c58 20 = .ok (.iadd, 1) := by decide +kernel
theorem d58_21 : decode c58 21 = .ok (.invokevirtual 100, 3) := by decide +kernel
theorem d58_24 : decode c58 24 = .ok (.aload_n 0, 1) := by decide +kernel
theorem d58_25 : decode c58 25 = .ok (.aload_n 0, 1) := by decide +kernel
theorem d58_26 : decode c58 26 = .ok (.getfield 79, 3) := by decide +kernel
theorem d58_29 : decode c58 29 = .ok (.aload_n 1, 1) := by decide +kernel
theorem d58_30 : decode c58 30 = .ok (.invokevirtual 208, 3) := by decide +kernel
theorem d58_33 : decode c58 33 = .ok (.aload_n 0, 1) := by decide +kernel
theorem d58_34 : decode c58 34 = .ok (.dup, 1) := by decide +kernel
theorem d58_35 : decode c58 35 = .ok (.getfield 79, 3) := by decide +kernel
theorem d58_38 : decode c58 38 = .ok (.iload_n 2, 1) := by decide +kernel
theorem d58_39 : decode c58 39 = .ok (.iadd, 1) := by decide +kernel
theorem d58_40 : decode c58 40 = .ok (.putfield 79, 3) := by decide +kernel
theorem d58_43 : decode c58 43 = .ok (.aload_n 0, 1) := by decide +kernel
theorem d58_44 : decode c58 44 = .ok (.areturn, 1) := by decide +kernel
theorem pn_aa00 : plainFor (⟨"java/lang/AbstractStringBuilder", "append", "(Ljava/lang/String;)Ljava/lang/AbstractStringBuilder;"⟩ : MethodName) = true := plainFor_of_name (by first | (simp [plainName, overriddenIn]; done) | decide +kernel)
theorem pd34 : parseMethodDescriptor "(ILjava/lang/String;)V" = some ⟨[.int, (.object "java/lang/String")], none⟩ := by decide +kernel
theorem ef_aa00 (m : MethodId) (x0 : Addr) (x1 : Addr) : entryFrame m #[(.ref x0), (.ref x1)] 3 = mkF m 0 #[.val (.ref x0), .val (.ref x1), .unset] [] := by first | (simp [entryFrame, mkF, argsToLocals, Value.category]; done) | rfl
theorem rm_aa00 (l : Launch) (Z : State) (a0 : Array Value) (hw : ∀ d ∈ tables_1, d.before a0 Z = true) (ws : List Jvm.Cond) (bb tb : Addr) (kt : ClassId) (Lb cb : Nat) (ft : Nat → Int32) (x tx : Addr) (kx : ClassId) (xn : Nat) (fx : Nat → Int32) (cn NL : Nat) (zc : Int32) (fm : Value) (hS0 : Sf Z zc fm) (h0 : Heap) (n0 : Nat) (O : Old Z n0 h0) (E_b : Exa Z h0 bb "java/lang/StringBuilder") (Fv_b : Fld Z h0 bb "java/lang/AbstractStringBuilder" "value" "[B" (.ref tb)) (Fc_b : Fld Z h0 bb "java/lang/AbstractStringBuilder" "coder" "B" (.int 0)) (Fn_b : Fld Z h0 bb "java/lang/AbstractStringBuilder" "count" "I" (.int (nI cb))) (Fm_b : Fld Z h0 bb "java/lang/AbstractStringBuilder" "maybeLatin1" "Z" (.int 0)) (V_t : Arv Z h0 tb kt .byte (nI Lb) (cont Lb ft) (.int 0)) (E_t : Exa Z h0 tb "[B") (g_bb : n0 ≤ bb) (g_tb : n0 ≤ tb) (E_x : Exa Z h0 x "java/lang/String") (Fv_x : Fld Z h0 x "java/lang/String" "value" "[B" (.ref tx)) (Fc_x : Fld Z h0 x "java/lang/String" "coder" "B" (.int 0)) (V_tx : Arv Z h0 tx kx .byte (nI xn) (cont xn fx) (.int 0)) (hxn : xn ≤ 300) (hne : tx ≠ tb) (hcn : cb + xn = cn) (hNL : Lb + max (cn - Lb) (Lb + 2) = NL) (hy0 : cb ≤ Lb) (hy1 : Lb < cn) (hy2 : cn ≤ 300) :
    MF l Z h0 (⟨"java/lang/AbstractStringBuilder", "append", "(Ljava/lang/String;)Ljava/lang/AbstractStringBuilder;"⟩ : MethodName) c58 3 (some (.object "java/lang/AbstractStringBuilder")) ws (rk 4 1 1100 62) #[(.ref bb), (.ref x)] (Qbd Z bb (some (.ref bb)) 0 cn NL (fun f => (∀ i, i < cb → f i = ft i) ∧ ∀ i, i < xn → f (cb + i) = fx i) h0 n0) := by
  refine sg n0 [bb] pn_aa00 rfl (fun m => ef_aa00 m bb x) fun p e s m below meth c s₁ Bd hml hZ hh hx B hown hnm X0 e0 N K => ?_
  have n_bt : bb ≠ tb := (own_nev E_b (wv hw 74 rfl) V_t)
  let LL1 : Array Slot := #[.val (.ref bb), .val (.ref x), .unset]
  refine sA 1 X0 hx (B d58_0) rfl rfl rfl ?_
  refine gb m s₁ 9 LL1 [] (fun _ k => XS.ifnonnullYes X0.here hx rfl (pc0 := 1) (pc' := 9) rfl (B d58_1) rfl (by decide) (by decide) k) ?_
  refine sA 10 X0 hx (B d58_9) rfl rfl rfl ?_
  have hs2_x : xn ≤ 300 := by omega
  obtain ⟨v2, T2, Lc2, X2, hQ2, st2⟩ := cV LL1 [] X0 hx hZ hown hw e0 hml E_x 139 41 43 42 9 44 rfl rfl rfl rfl rfl rfl (by decide) (rm_sl0 l Z a0 hw [] x tx _ xn fx   zc fm hS0 h0 n0 O E_x Fv_x Fc_x V_tx hs2_x  ) pd25 rfl rfl (B d58_10) rfl
  obtain ⟨rfl, Nq2, e2⟩ := hQ2
  replace N := Fr.app N Nq2
  refine gb m T2 13 LL1 [(.int (nI xn))] (st2) ?_
  let LL3 : Array Slot := #[.val (.ref bb), .val (.ref x), .val (.int (nI xn))]
  refine gb m T2 14 LL3 [] (fun _ k => XS.istoreN X2.here hx rfl (B d58_13) rfl (l' := LL3) rfl k) ?_
  refine sA 15 X2 hx (B d58_14) rfl rfl rfl ?_
  refine sA 16 X2 hx (B d58_15) rfl rfl rfl ?_
  obtain ⟨T4, X4, e4, st4⟩ := getF X2 hx hZ hown (host := "") (Or.inl (wv hw 140 rfl)) Via.refl e2 Fn_b (g := (mkF m 16 LL3 [(.ref bb), (.ref bb)])) rfl rfl (B d58_16)
  refine gb m T4 19 LL3 [(.int (nI cb)), (.ref bb)] (st4) ?_
  refine sI 20 X4 hx (B d58_19) rfl rfl ?_
  refine gb m T4 21 LL3 [(.int ((nI cb) + (nI xn))), (.ref bb)] (fun _ k => XS.iadd X4.here hx rfl (B d58_20) rfl k) ?_
  rw [show ((nI cb) + (nI xn)) = (nI (cb + xn)) from own_add _ _]
  have hy5_0 : Lb < (cb + xn) := by omega
  have hy5_1 : (cb + xn) ≤ 300 := by omega
  obtain ⟨cq5, q5, q5'⟩ := E_b.cell
  obtain ⟨v5, _, ⟨T5, L5, k5, n5⟩, -, X5, ⟨Lc5, hQ5, l5, y5, z5⟩, st5⟩ := X4.privateBack hx (y := (⟨"java/lang/AbstractStringBuilder", "ensureCapacityInternal", "(I)V"⟩ : MethodName)) hown (mvT hZ (wv hw 142 rfl)) (mvT hZ (wv hw 143 rfl)) (own_selp (mvT hZ (wv hw 145 rfl)) (Cond.privateMethod_at (mvP hZ (wv hw 144 rfl) (args := #[]))) (mvT hZ (wv hw 143 rfl)) (by decide)) (Cond.privateMethod_at (mvP hZ (wv hw 144 rfl) (args := #[]))) (mvT hZ (wv hw 146 rfl)) (by decide) (backOf (W := 0) (rm_en0 l Z a0 hw [] bb tb _ Lb cb ft (cb + xn) h0 n0 O E_b Fv_b Fc_b Fn_b Fm_b V_t E_t g_bb g_tb hy5_0 hy5_1) hZ (wv hw 146 rfl) (wv hw 83 rfl) (by decide) (by decide)) (g := (mkF m 21 LL3 [(.int (nI (cb + xn))), (.ref bb)])) rfl (by rw [hml]; rfl) (Steps.refl _) (a := bb) (by rw [e4]; exact q5) q5' (argsL := [(.int (nI (cb + xn)))]) (rest := []) (lenOf pd28 rfl) rfl (by show 2 * 0 + _ ≤ _; exact Nat.le_of_eq rfl) (B d58_21) (fun _ _ => ⟨rfl, e4, (by decide : 0 + 1 ≤ _), (by decide : 0 + 1100 ≤ _)⟩)
  dsimp only [Pt.U, Pt.locs, Pt.cells, Pt.slots] at X5 l5 y5 z5 st5 hQ5
  rw [l5, y5, z5] at X5; clear l5 y5 z5
  obtain ⟨rfl, Nq5, K5, t5, k25, fd5, gt5, Gv5, Gc5, Gn5, Gm5, Vt5, Et5, hP5⟩ := hQ5
  replace N := Fr.app N Nq5
  have ne_bb_t5 : bb ≠ t5 := Nat.ne_of_lt (Nat.lt_of_lt_of_le E_b.lt gt5)
  have ne_tb_t5 : tb ≠ t5 := Nat.ne_of_lt (Nat.lt_of_lt_of_le V_t.lt gt5)
  have ne_x_t5 : x ≠ t5 := Nat.ne_of_lt (Nat.lt_of_lt_of_le E_x.lt gt5)
  have ne_tx_t5 : tx ≠ t5 := Nat.ne_of_lt (Nat.lt_of_lt_of_le V_tx.lt gt5)
  have g_t5 : n0 ≤ t5 := Nat.le_trans (Old.le O) gt5
  have sz_t5 : h0.size ≤ t5 := Nat.le_trans K.1 gt5
  have nq6 : x ≠ bb := (ne_exa E_x E_b (by decide))
  have nq7 : tx ≠ bb := (Ne.symm (own_nev E_b (wv hw 74 rfl) V_tx))
  replace E_b := E_b.keep K5
  replace V_t := V_t.keep K5 (ninS (Ne.symm n_bt) nin0)
  replace E_t := E_t.keep K5
  replace E_x := E_x.keep K5
  replace Fv_x := Fv_x.keep K5 (ninS nq6 nin0)
  replace Fc_x := Fc_x.keep K5 (ninS nq6 nin0)
  replace V_tx := V_tx.keep K5 (ninS nq7 nin0)
  replace O := O.keep K5 (allS g_bb all0)
  replace K := K.trans K5 (allS (Or.inl (by simp)) all0)
  refine gb m T5 24 LL3 [] (fun _ k => st5.trans k) ?_
  refine sA 25 X5 hx (B d58_24) rfl rfl rfl ?_
  refine sA 26 X5 hx (B d58_25) rfl rfl rfl ?_
  obtain ⟨T8, X8, e8, st8⟩ := getF X5 hx hZ hown (host := "") (Or.inl (wv hw 140 rfl)) Via.refl rfl Gn5 (g := (mkF m 26 LL3 [(.ref bb), (.ref bb)])) rfl rfl (B d58_26)
  refine gb m T8 29 LL3 [(.int (nI cb)), (.ref bb)] (st8) ?_
  refine sA 30 X8 hx (B d58_29) rfl rfl rfl ?_
  have hs9_x : xn ≤ 300 := by omega
  have hy9_0 : (Lb + max ((cb + xn) - Lb) (Lb + 2)) ≤ 1100 := by omega
  have hy9_1 : cb + xn ≤ (Lb + max ((cb + xn) - Lb) (Lb + 2)) := by omega
  obtain ⟨cq9, q9, q9'⟩ := E_b.cell
  obtain ⟨v9, _, ⟨T9, L9, k9, n9⟩, -, X9, ⟨Lc9, hQ9, l9, y9, z9⟩, st9⟩ := X8.privateBack hx (y := (⟨"java/lang/AbstractStringBuilder", "putStringAt", "(ILjava/lang/String;)V"⟩ : MethodName)) hown (mvT hZ (wv hw 164 rfl)) (mvT hZ (wv hw 165 rfl)) (own_selp (mvT hZ (wv hw 167 rfl)) (Cond.privateMethod_at (mvP hZ (wv hw 166 rfl) (args := #[]))) (mvT hZ (wv hw 165 rfl)) (by decide)) (Cond.privateMethod_at (mvP hZ (wv hw 166 rfl) (args := #[]))) (mvT hZ (wv hw 168 rfl)) (by decide) (backOf (W := 0) (rm_ps00 l Z a0 hw [] bb t5 _ (Lb + max ((cb + xn) - Lb) (Lb + 2)) cb fd5 x tx _ xn fx cb zc fm hS0 T5.heap n0 O E_b Gv5 Gc5 Gn5 Gm5 Vt5 Et5 g_bb g_t5 E_x Fv_x Fc_x V_tx hs9_x ne_tx_t5 hy9_0 hy9_1) hZ (wv hw 168 rfl) (wv hw 83 rfl) (by decide) (by decide)) (g := (mkF m 30 LL3 [(.ref x), (.int (nI cb)), (.ref bb)])) rfl (by rw [hml]; rfl) (Steps.refl _) (a := bb) (by rw [e8]; exact q9) q9' (argsL := [(.int (nI cb)), (.ref x)]) (rest := []) (lenOf pd34 rfl) rfl (by show 2 * 0 + _ ≤ _; exact Nat.le_of_eq rfl) (B d58_30) (fun _ _ => ⟨rfl, e8, (by decide : 1 + 0 ≤ _), (by decide : 1100 + 0 ≤ _)⟩)
  dsimp only [Pt.U, Pt.locs, Pt.cells, Pt.slots] at X9 l9 y9 z9 st9 hQ9
  rw [l9, y9, z9] at X9; clear l9 y9 z9
  obtain ⟨rfl, Nq9, K9, k29, fd9, Vt9, hP9⟩ := hQ9
  replace N := Fr.app N Nq9
  replace E_b := E_b.keep K9
  replace V_t := V_t.keep K9 (ninS ne_tb_t5 nin0)
  replace E_t := E_t.keep K9
  replace E_x := E_x.keep K9
  replace Fv_x := Fv_x.keep K9 (ninS ne_x_t5 nin0)
  replace Fc_x := Fc_x.keep K9 (ninS ne_x_t5 nin0)
  replace V_tx := V_tx.keep K9 (ninS ne_tx_t5 nin0)
  replace Gv5 := Gv5.keep K9 (ninS ne_bb_t5 nin0)
  replace Gc5 := Gc5.keep K9 (ninS ne_bb_t5 nin0)
  replace Gn5 := Gn5.keep K9 (ninS ne_bb_t5 nin0)
  replace Gm5 := Gm5.keep K9 (ninS ne_bb_t5 nin0)
  replace Et5 := Et5.keep K9
  replace O := O.keep K9 (allS g_t5 all0)
  replace K := K.trans K9 (allS (Or.inr sz_t5) all0)
  refine gb m T9 33 LL3 [] (fun _ k => st9.trans k) ?_
  refine sA 34 X9 hx (B d58_33) rfl rfl rfl ?_
  refine gb m T9 35 LL3 [(.ref bb), (.ref bb)] (fun _ k => XS.dup X9.here hx rfl (B d58_34) rfl rfl k) ?_
  obtain ⟨T10, X10, e10, st10⟩ := getF X9 hx hZ hown (host := "") (Or.inl (wv hw 140 rfl)) Via.refl rfl Gn5 (g := (mkF m 35 LL3 [(.ref bb), (.ref bb)])) rfl rfl (B d58_35)
  refine gb m T10 38 LL3 [(.int (nI cb)), (.ref bb)] (st10) ?_
  refine sI 39 X10 hx (B d58_38) rfl rfl ?_
  refine gb m T10 40 LL3 [(.int ((nI cb) + (nI xn))), (.ref bb)] (fun _ k => XS.iadd X10.here hx rfl (B d58_39) rfl k) ?_
  rw [show ((nI cb) + (nI xn)) = (nI (cb + xn)) from own_add _ _]
  obtain ⟨T11, h11, X11, e11, W11, st11⟩ := putF X10 hx hZ hown (host := "") (Or.inl (wv hw 140 rfl)) Via.refl e10 Gn5 E_b (Or.inl (wv hw 141 rfl)) (wv hw 74 rfl) (ty := .int) (by decide) rfl rfl (g := (mkF m 40 LL3 [(.int (nI (cb + xn))), (.ref bb)])) rfl rfl (B d58_40)
  replace E_b := E_b.wr W11
  replace V_t := V_t.other W11 (Ne.symm n_bt)
  replace E_t := E_t.wr W11
  replace E_x := E_x.wr W11
  replace Fv_x := Fv_x.other W11 (Or.inl nq6)
  replace Fc_x := Fc_x.other W11 (Or.inl nq6)
  replace V_tx := V_tx.other W11 nq7
  replace Gv5 := Gv5.other W11 (Or.inr (slot_ne (Or.inl (wv hw 88 rfl)) (Or.inl (wv hw 141 rfl)) (by decide) (t := (.array .byte)) (t' := .int) (by decide) (by decide)))
  replace Gc5 := Gc5.other W11 (Or.inr (slot_ne (Or.inl (wv hw 90 rfl)) (Or.inl (wv hw 141 rfl)) (by decide) (t := .byte) (t' := .int) (by decide) (by decide)))
  replace Gm5 := Gm5.other W11 (Or.inr (slot_ne (Or.inl (wv hw 312 rfl)) (Or.inl (wv hw 141 rfl)) (by decide) (t := .boolean) (t' := .int) (by decide) (by decide)))
  replace Et5 := Et5.wr W11
  replace Vt9 := Vt9.other W11 (Ne.symm ne_bb_t5)
  replace Gn5 := Gn5.same W11
  replace O := O.wr W11 g_bb
  replace K := K.wr W11 (Or.inl (by simp))
  replace N := Fr.snoc X11 N g_bb
  refine gb m T11 43 LL3 [] (st11) ?_
  refine sA 44 X11 hx (B d58_43) rfl rfl rfl ?_
  obtain ⟨fs, hr, hrun, hended, hW, hsame⟩ := X11.leave (v := some (.ref bb)) (fun h => by rw [Bd.returns] at h; cases h)
  refine ⟨_, _, retOut X11 hx Bd.returns rfl (Or.inr (Or.inr (Or.inr (Or.inr ⟨rfl, rfl, rfl⟩)))) (B d58_44) hr, hrun, hended, _, _, rfl, ?_, ⟨_, rfl⟩, hW, hsame.mono (by decide) (by decide)⟩
  show Qbd Z bb (some (.ref bb)) 0 cn NL (fun f => (∀ i, i < cb → f i = ft i) ∧ ∀ i, i < xn → f (cb + i) = fx i) h0 n0 (some (.ref bb)) T11.heap _
  rw [e11]
  rw [← hNL, ← hcn]
  exact ⟨rfl, N, K, t5, _, _, sz_t5, Gv5, Gc5, Gn5, Gm5, Vt9, Et5, ⟨fun i hi => ((hP9.2 i hi).trans (hP5 i (by omega))), hP9.1⟩⟩

theorem pn_aa01 : plainFor (⟨"java/lang/AbstractStringBuilder", "append", "(Ljava/lang/String;)Ljava/lang/AbstractStringBuilder;"⟩ : MethodName) = true := plainFor_of_name (by first | (simp [plainName, overriddenIn]; done) | decide +kernel)
theorem ef_aa01 (m : MethodId) (x0 : Addr) (x1 : Addr) : entryFrame m #[(.ref x0), (.ref x1)] 3 = mkF m 0 #[.val (.ref x0), .val (.ref x1), .unset] [] := by first | (simp [entryFrame, mkF, argsToLocals, Value.category]; done) | rfl
theorem rm_aa01 (l : Launch) (Z : State) (a0 : Array Value) (hw : ∀ d ∈ tables_1, d.before a0 Z = true) (ws : List Jvm.Cond) (bb tb : Addr) (kt : ClassId) (Lb : Nat) (ft : Nat → Int32) (x tx : Addr) (kx : ClassId) (xn : Nat) (fx : Nat → Int32) (NL : Nat) (zc : Int32) (fm : Value) (hS0 : Sf Z zc fm) (h0 : Heap) (n0 : Nat) (O : Old Z n0 h0) (E_b : Exa Z h0 bb "java/lang/StringBuilder") (Fv_b : Fld Z h0 bb "java/lang/AbstractStringBuilder" "value" "[B" (.ref tb)) (Fc_b : Fld Z h0 bb "java/lang/AbstractStringBuilder" "coder" "B" (.int 0)) (Fn_b : Fld Z h0 bb "java/lang/AbstractStringBuilder" "count" "I" (.int (nI 0))) (Fm_b : Fld Z h0 bb "java/lang/AbstractStringBuilder" "maybeLatin1" "Z" (.int 0)) (V_t : Arv Z h0 tb kt .byte (nI Lb) (cont Lb ft) (.int 0)) (E_t : Exa Z h0 tb "[B") (g_bb : n0 ≤ bb) (g_tb : n0 ≤ tb) (E_x : Exa Z h0 x "java/lang/String") (Fv_x : Fld Z h0 x "java/lang/String" "value" "[B" (.ref tx)) (Fc_x : Fld Z h0 x "java/lang/String" "coder" "B" (.int 1)) (V_tx : Arv Z h0 tx kx .byte (nI (2 * xn)) (cont (2 * xn) fx) (.int 0)) (hxn : xn ≤ 300) (hne : tx ≠ tb) (hNL : Lb + max (xn - Lb) (Lb + 2) = NL) (hy0 : Lb < xn) (hy1 : xn ≤ 270) (hy2 : 2 * Lb + 2 ≤ xn) :
    MF l Z h0 (⟨"java/lang/AbstractStringBuilder", "append", "(Ljava/lang/String;)Ljava/lang/AbstractStringBuilder;"⟩ : MethodName) c58 3 (some (.object "java/lang/AbstractStringBuilder")) ws (rk 8 2 2140 116) #[(.ref bb), (.ref x)] (Qbd Z bb (some (.ref bb)) 1 xn (2 * NL) (fun f => ∀ i, i < 2 * xn → f i = fx i) h0 n0) := by
  refine sg n0 [bb] pn_aa01 rfl (fun m => ef_aa01 m bb x) fun p e s m below meth c s₁ Bd hml hZ hh hx B hown hnm X0 e0 N K => ?_
  have n_bt : bb ≠ tb := (own_nev E_b (wv hw 74 rfl) V_t)
  let LL1 : Array Slot := #[.val (.ref bb), .val (.ref x), .unset]
  refine sA 1 X0 hx (B d58_0) rfl rfl rfl ?_
  refine gb m s₁ 9 LL1 [] (fun _ k => XS.ifnonnullYes X0.here hx rfl (pc0 := 1) (pc' := 9) rfl (B d58_1) rfl (by decide) (by decide) k) ?_
  refine sA 10 X0 hx (B d58_9) rfl rfl rfl ?_
  have hs2_x : xn ≤ 300 := by omega
  obtain ⟨v2, T2, Lc2, X2, hQ2, st2⟩ := cV LL1 [] X0 hx hZ hown hw e0 hml E_x 139 41 43 42 9 44 rfl rfl rfl rfl rfl rfl (by decide) (rm_sl1 l Z a0 hw [] x tx _ xn fx   zc fm hS0 h0 n0 O E_x Fv_x Fc_x V_tx hs2_x  ) pd25 rfl rfl (B d58_10) rfl
  obtain ⟨rfl, Nq2, e2⟩ := hQ2
  replace N := Fr.app N Nq2
  refine gb m T2 13 LL1 [(.int (nI xn))] (st2) ?_
  let LL3 : Array Slot := #[.val (.ref bb), .val (.ref x), .val (.int (nI xn))]
  refine gb m T2 14 LL3 [] (fun _ k => XS.istoreN X2.here hx rfl (B d58_13) rfl (l' := LL3) rfl k) ?_
  refine sA 15 X2 hx (B d58_14) rfl rfl rfl ?_
  refine sA 16 X2 hx (B d58_15) rfl rfl rfl ?_
  obtain ⟨T4, X4, e4, st4⟩ := getF X2 hx hZ hown (host := "") (Or.inl (wv hw 140 rfl)) Via.refl e2 Fn_b (g := (mkF m 16 LL3 [(.ref bb), (.ref bb)])) rfl rfl (B d58_16)
  refine gb m T4 19 LL3 [(.int (0 : Int32)), (.ref bb)] (st4) ?_
  refine sI 20 X4 hx (B d58_19) rfl rfl ?_
  refine gb m T4 21 LL3 [(.int ((0 : Int32) + (nI xn))), (.ref bb)] (fun _ k => XS.iadd X4.here hx rfl (B d58_20) rfl k) ?_
  rw [show ((0 : Int32) + (nI xn)) = (nI xn) from Int32.zero_add _]
  have hy5_0 : Lb < xn := by omega
  have hy5_1 : xn ≤ 300 := by omega
  obtain ⟨cq5, q5, q5'⟩ := E_b.cell
  obtain ⟨v5, _, ⟨T5, L5, k5, n5⟩, -, X5, ⟨Lc5, hQ5, l5, y5, z5⟩, st5⟩ := X4.privateBack hx (y := (⟨"java/lang/AbstractStringBuilder", "ensureCapacityInternal", "(I)V"⟩ : MethodName)) hown (mvT hZ (wv hw 142 rfl)) (mvT hZ (wv hw 143 rfl)) (own_selp (mvT hZ (wv hw 145 rfl)) (Cond.privateMethod_at (mvP hZ (wv hw 144 rfl) (args := #[]))) (mvT hZ (wv hw 143 rfl)) (by decide)) (Cond.privateMethod_at (mvP hZ (wv hw 144 rfl) (args := #[]))) (mvT hZ (wv hw 146 rfl)) (by decide) (backOf (W := 0) (rm_en0 l Z a0 hw [] bb tb _ Lb 0 ft xn h0 n0 O E_b Fv_b Fc_b Fn_b Fm_b V_t E_t g_bb g_tb hy5_0 hy5_1) hZ (wv hw 146 rfl) (wv hw 83 rfl) (by decide) (by decide)) (g := (mkF m 21 LL3 [(.int (nI xn)), (.ref bb)])) rfl (by rw [hml]; rfl) (Steps.refl _) (a := bb) (by rw [e4]; exact q5) q5' (argsL := [(.int (nI xn))]) (rest := []) (lenOf pd28 rfl) rfl (by show 2 * 0 + _ ≤ _; exact Nat.le_of_eq rfl) (B d58_21) (fun _ _ => ⟨rfl, e4, (by decide : 0 + 1 ≤ _), (by decide : 0 + 1100 ≤ _)⟩)
  dsimp only [Pt.U, Pt.locs, Pt.cells, Pt.slots] at X5 l5 y5 z5 st5 hQ5
  rw [l5, y5, z5] at X5; clear l5 y5 z5
  obtain ⟨rfl, Nq5, K5, t5, k25, fd5, gt5, Gv5, Gc5, Gn5, Gm5, Vt5, Et5, hP5⟩ := hQ5
  replace N := Fr.app N Nq5
  have ne_bb_t5 : bb ≠ t5 := Nat.ne_of_lt (Nat.lt_of_lt_of_le E_b.lt gt5)
  have ne_tx_t5 : tx ≠ t5 := Nat.ne_of_lt (Nat.lt_of_lt_of_le V_tx.lt gt5)
  have g_t5 : n0 ≤ t5 := Nat.le_trans (Old.le O) gt5
  have nq6 : x ≠ bb := (ne_exa E_x E_b (by decide))
  have nq7 : tx ≠ bb := (Ne.symm (own_nev E_b (wv hw 74 rfl) V_tx))
  replace E_b := E_b.keep K5
  replace V_t := V_t.keep K5 (ninS (Ne.symm n_bt) nin0)
  replace E_t := E_t.keep K5
  replace E_x := E_x.keep K5
  replace Fv_x := Fv_x.keep K5 (ninS nq6 nin0)
  replace Fc_x := Fc_x.keep K5 (ninS nq6 nin0)
  replace V_tx := V_tx.keep K5 (ninS nq7 nin0)
  replace O := O.keep K5 (allS g_bb all0)
  replace K := K.trans K5 (allS (Or.inl (by simp)) all0)
  refine gb m T5 24 LL3 [] (fun _ k => st5.trans k) ?_
  refine sA 25 X5 hx (B d58_24) rfl rfl rfl ?_
  refine sA 26 X5 hx (B d58_25) rfl rfl rfl ?_
  obtain ⟨T8, X8, e8, st8⟩ := getF X5 hx hZ hown (host := "") (Or.inl (wv hw 140 rfl)) Via.refl rfl Gn5 (g := (mkF m 26 LL3 [(.ref bb), (.ref bb)])) rfl rfl (B d58_26)
  refine gb m T8 29 LL3 [(.int (0 : Int32)), (.ref bb)] (st8) ?_
  refine sA 30 X8 hx (B d58_29) rfl rfl rfl ?_
  have hs9_x : xn ≤ 300 := by omega
  have hy9_0 : (Lb + max (xn - Lb) (Lb + 2)) ≤ 300 := by omega
  have hy9_1 : xn ≤ (Lb + max (xn - Lb) (Lb + 2)) := by omega
  obtain ⟨cq9, q9, q9'⟩ := E_b.cell
  obtain ⟨v9, _, ⟨T9, L9, k9, n9⟩, -, X9, ⟨Lc9, hQ9, l9, y9, z9⟩, st9⟩ := X8.privateBack hx (y := (⟨"java/lang/AbstractStringBuilder", "putStringAt", "(ILjava/lang/String;)V"⟩ : MethodName)) hown (mvT hZ (wv hw 164 rfl)) (mvT hZ (wv hw 165 rfl)) (own_selp (mvT hZ (wv hw 167 rfl)) (Cond.privateMethod_at (mvP hZ (wv hw 166 rfl) (args := #[]))) (mvT hZ (wv hw 165 rfl)) (by decide)) (Cond.privateMethod_at (mvP hZ (wv hw 166 rfl) (args := #[]))) (mvT hZ (wv hw 168 rfl)) (by decide) (backOf (W := 0) (rm_ps01 l Z a0 hw [] bb t5 _ (Lb + max (xn - Lb) (Lb + 2))  fd5 x tx _ xn fx  zc fm hS0 T5.heap n0 O E_b Gv5 Gc5 Gn5 Gm5 Vt5 Et5 g_bb g_t5 E_x Fv_x Fc_x V_tx hs9_x ne_tx_t5 hy9_0 hy9_1) hZ (wv hw 168 rfl) (wv hw 83 rfl) (by decide) (by decide)) (g := (mkF m 30 LL3 [(.ref x), (.int (0 : Int32)), (.ref bb)])) rfl (by rw [hml]; rfl) (Steps.refl _) (a := bb) (by rw [e8]; exact q9) q9' (argsL := [(.int (0 : Int32)), (.ref x)]) (rest := []) (lenOf pd34 rfl) rfl (by show 2 * 0 + _ ≤ _; exact Nat.le_of_eq rfl) (B d58_30) (fun _ _ => ⟨rfl, e8, (by decide : 1 + 1 ≤ _), (by decide : 1100 + 1040 ≤ _)⟩)
  dsimp only [Pt.U, Pt.locs, Pt.cells, Pt.slots] at X9 l9 y9 z9 st9 hQ9
  rw [l9, y9, z9] at X9; clear l9 y9 z9
  obtain ⟨rfl, Nq9, K9, t9, k29, fd9, gt9, Gv9, Gc9, Gn9, Gm9, Vt9, Et9, hP9⟩ := hQ9
  replace N := Fr.app N Nq9
  have ne_bb_t9 : bb ≠ t9 := Nat.ne_of_lt (Nat.lt_of_lt_of_le E_b.lt gt9)
  have sz_t9 : h0.size ≤ t9 := Nat.le_trans K.1 gt9
  replace E_b := E_b.keep K9
  replace V_t := V_t.keep K9 (ninS (Ne.symm n_bt) nin0)
  replace E_t := E_t.keep K9
  replace E_x := E_x.keep K9
  replace Fv_x := Fv_x.keep K9 (ninS nq6 nin0)
  replace Fc_x := Fc_x.keep K9 (ninS nq6 nin0)
  replace V_tx := V_tx.keep K9 (ninS nq7 nin0)
  replace Vt5 := Vt5.keep K9 (ninS (Ne.symm ne_bb_t5) nin0)
  replace Et5 := Et5.keep K9
  replace O := O.keep K9 (allS g_bb all0)
  replace K := K.trans K9 (allS (Or.inl (by simp)) all0)
  refine gb m T9 33 LL3 [] (fun _ k => st9.trans k) ?_
  refine sA 34 X9 hx (B d58_33) rfl rfl rfl ?_
  refine gb m T9 35 LL3 [(.ref bb), (.ref bb)] (fun _ k => XS.dup X9.here hx rfl (B d58_34) rfl rfl k) ?_
  obtain ⟨T10, X10, e10, st10⟩ := getF X9 hx hZ hown (host := "") (Or.inl (wv hw 140 rfl)) Via.refl rfl Gn9 (g := (mkF m 35 LL3 [(.ref bb), (.ref bb)])) rfl rfl (B d58_35)
  refine gb m T10 38 LL3 [(.int (0 : Int32)), (.ref bb)] (st10) ?_
  refine sI 39 X10 hx (B d58_38) rfl rfl ?_
  refine gb m T10 40 LL3 [(.int ((0 : Int32) + (nI xn))), (.ref bb)] (fun _ k => XS.iadd X10.here hx rfl (B d58_39) rfl k) ?_
  rw [show ((0 : Int32) + (nI xn)) = (nI xn) from Int32.zero_add _]
  obtain ⟨T11, h11, X11, e11, W11, st11⟩ := putF X10 hx hZ hown (host := "") (Or.inl (wv hw 140 rfl)) Via.refl e10 Gn9 E_b (Or.inl (wv hw 141 rfl)) (wv hw 74 rfl) (ty := .int) (by decide) rfl rfl (g := (mkF m 40 LL3 [(.int (nI xn)), (.ref bb)])) rfl rfl (B d58_40)
  replace E_b := E_b.wr W11
  replace V_t := V_t.other W11 (Ne.symm n_bt)
  replace E_t := E_t.wr W11
  replace E_x := E_x.wr W11
  replace Fv_x := Fv_x.other W11 (Or.inl nq6)
  replace Fc_x := Fc_x.other W11 (Or.inl nq6)
  replace V_tx := V_tx.other W11 nq7
  replace Vt5 := Vt5.other W11 (Ne.symm ne_bb_t5)
  replace Et5 := Et5.wr W11
  replace Gv9 := Gv9.other W11 (Or.inr (slot_ne (Or.inl (wv hw 88 rfl)) (Or.inl (wv hw 141 rfl)) (by decide) (t := (.array .byte)) (t' := .int) (by decide) (by decide)))
  replace Gc9 := Gc9.other W11 (Or.inr (slot_ne (Or.inl (wv hw 90 rfl)) (Or.inl (wv hw 141 rfl)) (by decide) (t := .byte) (t' := .int) (by decide) (by decide)))
  replace Gm9 := Gm9.other W11 (Or.inr (slot_ne (Or.inl (wv hw 312 rfl)) (Or.inl (wv hw 141 rfl)) (by decide) (t := .boolean) (t' := .int) (by decide) (by decide)))
  replace Vt9 := Vt9.other W11 (Ne.symm ne_bb_t9)
  replace Et9 := Et9.wr W11
  replace Gn9 := Gn9.same W11
  replace O := O.wr W11 g_bb
  replace K := K.wr W11 (Or.inl (by simp))
  replace N := Fr.snoc X11 N g_bb
  refine gb m T11 43 LL3 [] (st11) ?_
  refine sA 44 X11 hx (B d58_43) rfl rfl rfl ?_
  obtain ⟨fs, hr, hrun, hended, hW, hsame⟩ := X11.leave (v := some (.ref bb)) (fun h => by rw [Bd.returns] at h; cases h)
  refine ⟨_, _, retOut X11 hx Bd.returns rfl (Or.inr (Or.inr (Or.inr (Or.inr ⟨rfl, rfl, rfl⟩)))) (B d58_44) hr, hrun, hended, _, _, rfl, ?_, ⟨_, rfl⟩, hW, hsame.mono (by decide) (by decide)⟩
  show Qbd Z bb (some (.ref bb)) 1 xn (2 * NL) (fun f => ∀ i, i < 2 * xn → f i = fx i) h0 n0 (some (.ref bb)) T11.heap _
  rw [e11]
  rw [← hNL]
  exact ⟨rfl, N, K, t9, _, _, sz_t9, Gv9, Gc9, Gn9, Gm9, Vt9, Et9, hP9⟩

theorem pn_aa10 : plainFor (⟨"java/lang/AbstractStringBuilder", "append", "(Ljava/lang/String;)Ljava/lang/AbstractStringBuilder;"⟩ : MethodName) = true := plainFor_of_name (by first | (simp [plainName, overriddenIn]; done) | decide +kernel)
theorem ef_aa10 (m : MethodId) (x0 : Addr) (x1 : Addr) : entryFrame m #[(.ref x0), (.ref x1)] 3 = mkF m 0 #[.val (.ref x0), .val (.ref x1), .unset] [] := by first | (simp [entryFrame, mkF, argsToLocals, Value.category]; done) | rfl
theorem rm_aa10 (l : Launch) (Z : State) (a0 : Array Value) (hw : ∀ d ∈ tables_1, d.before a0 Z = true) (ws : List Jvm.Cond) (bb tb : Addr) (kt : ClassId) (qb cb : Nat) (ft : Nat → Int32) (x tx : Addr) (kx : ClassId) (xn : Nat) (fx : Nat → Int32) (dc : Nat → Nat) (zc : Int32) (fm : Value) (hS0 : Sf Z zc fm) (h0 : Heap) (n0 : Nat) (O : Old Z n0 h0) (E_b : Exa Z h0 bb "java/lang/StringBuilder") (Fv_b : Fld Z h0 bb "java/lang/AbstractStringBuilder" "value" "[B" (.ref tb)) (Fc_b : Fld Z h0 bb "java/lang/AbstractStringBuilder" "coder" "B" (.int 1)) (Fn_b : Fld Z h0 bb "java/lang/AbstractStringBuilder" "count" "I" (.int (nI cb))) (Fm_b : Fld Z h0 bb "java/lang/AbstractStringBuilder" "maybeLatin1" "Z" (.int 0)) (V_t : Arv Z h0 tb kt .byte (nI (2 * qb)) (cont (2 * qb) ft) (.int 0)) (E_t : Exa Z h0 tb "[B") (g_bb : n0 ≤ bb) (g_tb : n0 ≤ tb) (E_x : Exa Z h0 x "java/lang/String") (Fv_x : Fld Z h0 x "java/lang/String" "value" "[B" (.ref tx)) (Fc_x : Fld Z h0 x "java/lang/String" "coder" "B" (.int 0)) (V_tx : Arv Z h0 tx kx .byte (nI xn) (cont xn fx) (.int 0)) (hxn : xn ≤ 300) (hne : tx ≠ tb) (hD : Lat 3 fx dc) (hx3 : xn = 3) (hcq : qb = cb) (hy0 : qb ≤ 270) (hy1 : 3 ≤ qb) :
    MF l Z h0 (⟨"java/lang/AbstractStringBuilder", "append", "(Ljava/lang/String;)Ljava/lang/AbstractStringBuilder;"⟩ : MethodName) c58 3 (some (.object "java/lang/AbstractStringBuilder")) ws (rk 7 1 1100 105) #[(.ref bb), (.ref x)] (Qbd Z bb (some (.ref bb)) 1 (qb + 3) (2 * (2 * qb + 2)) (fun f => (∀ i, i < 2 * qb → f i = ft i) ∧ ∀ i, i < 3 → dec (f (2 * (qb + i))) (f (2 * (qb + i) + 1)) = nI (dc i)) h0 n0) := by
  refine sg n0 [bb] pn_aa10 rfl (fun m => ef_aa10 m bb x) fun p e s m below meth c s₁ Bd hml hZ hh hx B hown hnm X0 e0 N K => ?_
  have n_bt : bb ≠ tb := (own_nev E_b (wv hw 74 rfl) V_t)
  subst hx3
  subst hcq
  let LL1 : Array Slot := #[.val (.ref bb), .val (.ref x), .unset]
  refine sA 1 X0 hx (B d58_0) rfl rfl rfl ?_
  refine gb m s₁ 9 LL1 [] (fun _ k => XS.ifnonnullYes X0.here hx rfl (pc0 := 1) (pc' := 9) rfl (B d58_1) rfl (by decide) (by decide) k) ?_
  refine sA 10 X0 hx (B d58_9) rfl rfl rfl ?_
  have hs2_x : 3 ≤ 300 := by omega
  obtain ⟨v2, T2, Lc2, X2, hQ2, st2⟩ := cV LL1 [] X0 hx hZ hown hw e0 hml E_x 139 41 43 42 9 44 rfl rfl rfl rfl rfl rfl (by decide) (rm_sl0 l Z a0 hw [] x tx _ 3 fx   zc fm hS0 h0 n0 O E_x Fv_x Fc_x V_tx hs2_x  ) pd25 rfl rfl (B d58_10) rfl
  obtain ⟨rfl, Nq2, e2⟩ := hQ2
  replace N := Fr.app N Nq2
  refine gb m T2 13 LL1 [(.int (nI 3))] (st2) ?_
  let LL3 : Array Slot := #[.val (.ref bb), .val (.ref x), .val (.int (nI 3))]
  refine gb m T2 14 LL3 [] (fun _ k => XS.istoreN X2.here hx rfl (B d58_13) rfl (l' := LL3) rfl k) ?_
  refine sA 15 X2 hx (B d58_14) rfl rfl rfl ?_
  refine sA 16 X2 hx (B d58_15) rfl rfl rfl ?_
  obtain ⟨T4, X4, e4, st4⟩ := getF X2 hx hZ hown (host := "") (Or.inl (wv hw 140 rfl)) Via.refl e2 Fn_b (g := (mkF m 16 LL3 [(.ref bb), (.ref bb)])) rfl rfl (B d58_16)
  refine gb m T4 19 LL3 [(.int (nI qb)), (.ref bb)] (st4) ?_
  refine sI 20 X4 hx (B d58_19) rfl rfl ?_
  refine gb m T4 21 LL3 [(.int ((nI qb) + (nI 3))), (.ref bb)] (fun _ k => XS.iadd X4.here hx rfl (B d58_20) rfl k) ?_
  rw [show ((nI qb) + (nI 3)) = (nI (qb + 3)) from own_add _ _]
  have hy5_0 : qb ≤ 270 := by omega
  have hy5_1 : 3 ≤ qb := by omega
  obtain ⟨cq5, q5, q5'⟩ := E_b.cell
  obtain ⟨v5, _, ⟨T5, L5, k5, n5⟩, -, X5, ⟨Lc5, hQ5, l5, y5, z5⟩, st5⟩ := X4.privateBack hx (y := (⟨"java/lang/AbstractStringBuilder", "ensureCapacityInternal", "(I)V"⟩ : MethodName)) hown (mvT hZ (wv hw 142 rfl)) (mvT hZ (wv hw 143 rfl)) (own_selp (mvT hZ (wv hw 145 rfl)) (Cond.privateMethod_at (mvP hZ (wv hw 144 rfl) (args := #[]))) (mvT hZ (wv hw 143 rfl)) (by decide)) (Cond.privateMethod_at (mvP hZ (wv hw 144 rfl) (args := #[]))) (mvT hZ (wv hw 146 rfl)) (by decide) (backOf (W := 0) (rm_en1 l Z a0 hw [] bb tb _ qb qb ft h0 n0 O E_b Fv_b Fc_b Fn_b Fm_b V_t E_t g_bb g_tb hy5_0 hy5_1) hZ (wv hw 146 rfl) (wv hw 83 rfl) (by decide) (by decide)) (g := (mkF m 21 LL3 [(.int (nI (qb + 3))), (.ref bb)])) rfl (by rw [hml]; rfl) (Steps.refl _) (a := bb) (by rw [e4]; exact q5) q5' (argsL := [(.int (nI (qb + 3)))]) (rest := []) (lenOf pd28 rfl) rfl (by show 2 * 0 + _ ≤ _; exact Nat.le_of_eq rfl) (B d58_21) (fun _ _ => ⟨rfl, e4, (by decide : 0 + 1 ≤ _), (by decide : 0 + 1100 ≤ _)⟩)
  dsimp only [Pt.U, Pt.locs, Pt.cells, Pt.slots] at X5 l5 y5 z5 st5 hQ5
  rw [l5, y5, z5] at X5; clear l5 y5 z5
  obtain ⟨rfl, Nq5, K5, t5, k25, fd5, gt5, Gv5, Gc5, Gn5, Gm5, Vt5, Et5, hP5⟩ := hQ5
  replace N := Fr.app N Nq5
  have ne_bb_t5 : bb ≠ t5 := Nat.ne_of_lt (Nat.lt_of_lt_of_le E_b.lt gt5)
  have ne_tb_t5 : tb ≠ t5 := Nat.ne_of_lt (Nat.lt_of_lt_of_le V_t.lt gt5)
  have ne_x_t5 : x ≠ t5 := Nat.ne_of_lt (Nat.lt_of_lt_of_le E_x.lt gt5)
  have ne_tx_t5 : tx ≠ t5 := Nat.ne_of_lt (Nat.lt_of_lt_of_le V_tx.lt gt5)
  have g_t5 : n0 ≤ t5 := Nat.le_trans (Old.le O) gt5
  have sz_t5 : h0.size ≤ t5 := Nat.le_trans K.1 gt5
  have nq6 : x ≠ bb := (ne_exa E_x E_b (by decide))
  have nq7 : tx ≠ bb := (Ne.symm (own_nev E_b (wv hw 74 rfl) V_tx))
  replace E_b := E_b.keep K5
  replace V_t := V_t.keep K5 (ninS (Ne.symm n_bt) nin0)
  replace E_t := E_t.keep K5
  replace E_x := E_x.keep K5
  replace Fv_x := Fv_x.keep K5 (ninS nq6 nin0)
  replace Fc_x := Fc_x.keep K5 (ninS nq6 nin0)
  replace V_tx := V_tx.keep K5 (ninS nq7 nin0)
  replace O := O.keep K5 (allS g_bb all0)
  replace K := K.trans K5 (allS (Or.inl (by simp)) all0)
  refine gb m T5 24 LL3 [] (fun _ k => st5.trans k) ?_
  refine sA 25 X5 hx (B d58_24) rfl rfl rfl ?_
  refine sA 26 X5 hx (B d58_25) rfl rfl rfl ?_
  obtain ⟨T8, X8, e8, st8⟩ := getF X5 hx hZ hown (host := "") (Or.inl (wv hw 140 rfl)) Via.refl rfl Gn5 (g := (mkF m 26 LL3 [(.ref bb), (.ref bb)])) rfl rfl (B d58_26)
  refine gb m T8 29 LL3 [(.int (nI qb)), (.ref bb)] (st8) ?_
  refine sA 30 X8 hx (B d58_29) rfl rfl rfl ?_
  have hs9_x : 3 ≤ 300 := by omega
  have hy9_0 : (2 * qb + 2) ≤ 600 := by omega
  have hy9_1 : qb + 3 ≤ (2 * qb + 2) := by omega
  obtain ⟨cq9, q9, q9'⟩ := E_b.cell
  obtain ⟨v9, _, ⟨T9, L9, k9, n9⟩, -, X9, ⟨Lc9, hQ9, l9, y9, z9⟩, st9⟩ := X8.privateBack hx (y := (⟨"java/lang/AbstractStringBuilder", "putStringAt", "(ILjava/lang/String;)V"⟩ : MethodName)) hown (mvT hZ (wv hw 164 rfl)) (mvT hZ (wv hw 165 rfl)) (own_selp (mvT hZ (wv hw 167 rfl)) (Cond.privateMethod_at (mvP hZ (wv hw 166 rfl) (args := #[]))) (mvT hZ (wv hw 165 rfl)) (by decide)) (Cond.privateMethod_at (mvP hZ (wv hw 166 rfl) (args := #[]))) (mvT hZ (wv hw 168 rfl)) (by decide) (backOf (W := 0) (rm_ps10 l Z a0 hw [] bb t5 _ (2 * qb + 2) qb fd5 x tx _ 3 fx dc qb zc fm hS0 T5.heap n0 O E_b Gv5 Gc5 Gn5 Gm5 Vt5 Et5 g_bb g_t5 E_x Fv_x Fc_x V_tx hs9_x ne_tx_t5 hD rfl hy9_0 hy9_1) hZ (wv hw 168 rfl) (wv hw 83 rfl) (by decide) (by decide)) (g := (mkF m 30 LL3 [(.ref x), (.int (nI qb)), (.ref bb)])) rfl (by rw [hml]; rfl) (Steps.refl _) (a := bb) (by rw [e8]; exact q9) q9' (argsL := [(.int (nI qb)), (.ref x)]) (rest := []) (lenOf pd34 rfl) rfl (by show 2 * 0 + _ ≤ _; exact Nat.le_of_eq rfl) (B d58_30) (fun _ _ => ⟨rfl, e8, (by decide : 1 + 0 ≤ _), (by decide : 1100 + 0 ≤ _)⟩)
  dsimp only [Pt.U, Pt.locs, Pt.cells, Pt.slots] at X9 l9 y9 z9 st9 hQ9
  rw [l9, y9, z9] at X9; clear l9 y9 z9
  obtain ⟨rfl, Nq9, K9, k29, fd9, Vt9, hP9⟩ := hQ9
  replace N := Fr.app N Nq9
  replace E_b := E_b.keep K9
  replace V_t := V_t.keep K9 (ninS ne_tb_t5 nin0)
  replace E_t := E_t.keep K9
  replace E_x := E_x.keep K9
  replace Fv_x := Fv_x.keep K9 (ninS ne_x_t5 nin0)
  replace Fc_x := Fc_x.keep K9 (ninS ne_x_t5 nin0)
  replace V_tx := V_tx.keep K9 (ninS ne_tx_t5 nin0)
  replace Gv5 := Gv5.keep K9 (ninS ne_bb_t5 nin0)
  replace Gc5 := Gc5.keep K9 (ninS ne_bb_t5 nin0)
  replace Gn5 := Gn5.keep K9 (ninS ne_bb_t5 nin0)
  replace Gm5 := Gm5.keep K9 (ninS ne_bb_t5 nin0)
  replace Et5 := Et5.keep K9
  replace O := O.keep K9 (allS g_t5 all0)
  replace K := K.trans K9 (allS (Or.inr sz_t5) all0)
  refine gb m T9 33 LL3 [] (fun _ k => st9.trans k) ?_
  refine sA 34 X9 hx (B d58_33) rfl rfl rfl ?_
  refine gb m T9 35 LL3 [(.ref bb), (.ref bb)] (fun _ k => XS.dup X9.here hx rfl (B d58_34) rfl rfl k) ?_
  obtain ⟨T10, X10, e10, st10⟩ := getF X9 hx hZ hown (host := "") (Or.inl (wv hw 140 rfl)) Via.refl rfl Gn5 (g := (mkF m 35 LL3 [(.ref bb), (.ref bb)])) rfl rfl (B d58_35)
  refine gb m T10 38 LL3 [(.int (nI qb)), (.ref bb)] (st10) ?_
  refine sI 39 X10 hx (B d58_38) rfl rfl ?_
  refine gb m T10 40 LL3 [(.int ((nI qb) + (nI 3))), (.ref bb)] (fun _ k => XS.iadd X10.here hx rfl (B d58_39) rfl k) ?_
  rw [show ((nI qb) + (nI 3)) = (nI (qb + 3)) from own_add _ _]
  obtain ⟨T11, h11, X11, e11, W11, st11⟩ := putF X10 hx hZ hown (host := "") (Or.inl (wv hw 140 rfl)) Via.refl e10 Gn5 E_b (Or.inl (wv hw 141 rfl)) (wv hw 74 rfl) (ty := .int) (by decide) rfl rfl (g := (mkF m 40 LL3 [(.int (nI (qb + 3))), (.ref bb)])) rfl rfl (B d58_40)
  replace E_b := E_b.wr W11
  replace V_t := V_t.other W11 (Ne.symm n_bt)
  replace E_t := E_t.wr W11
  replace E_x := E_x.wr W11
  replace Fv_x := Fv_x.other W11 (Or.inl nq6)
  replace Fc_x := Fc_x.other W11 (Or.inl nq6)
  replace V_tx := V_tx.other W11 nq7
  replace Gv5 := Gv5.other W11 (Or.inr (slot_ne (Or.inl (wv hw 88 rfl)) (Or.inl (wv hw 141 rfl)) (by decide) (t := (.array .byte)) (t' := .int) (by decide) (by decide)))
  replace Gc5 := Gc5.other W11 (Or.inr (slot_ne (Or.inl (wv hw 90 rfl)) (Or.inl (wv hw 141 rfl)) (by decide) (t := .byte) (t' := .int) (by decide) (by decide)))
  replace Gm5 := Gm5.other W11 (Or.inr (slot_ne (Or.inl (wv hw 312 rfl)) (Or.inl (wv hw 141 rfl)) (by decide) (t := .boolean) (t' := .int) (by decide) (by decide)))
  replace Et5 := Et5.wr W11
  replace Vt9 := Vt9.other W11 (Ne.symm ne_bb_t5)
  replace Gn5 := Gn5.same W11
  replace O := O.wr W11 g_bb
  replace K := K.wr W11 (Or.inl (by simp))
  replace N := Fr.snoc X11 N g_bb
  refine gb m T11 43 LL3 [] (st11) ?_
  refine sA 44 X11 hx (B d58_43) rfl rfl rfl ?_
  obtain ⟨fs, hr, hrun, hended, hW, hsame⟩ := X11.leave (v := some (.ref bb)) (fun h => by rw [Bd.returns] at h; cases h)
  refine ⟨_, _, retOut X11 hx Bd.returns rfl (Or.inr (Or.inr (Or.inr (Or.inr ⟨rfl, rfl, rfl⟩)))) (B d58_44) hr, hrun, hended, _, _, rfl, ?_, ⟨_, rfl⟩, hW, hsame.mono (by decide) (by decide)⟩
  show Qbd Z bb (some (.ref bb)) 1 (qb + 3) (2 * (2 * qb + 2)) (fun f => (∀ i, i < 2 * qb → f i = ft i) ∧ ∀ i, i < 3 → dec (f (2 * (qb + i))) (f (2 * (qb + i) + 1)) = nI (dc i)) h0 n0 (some (.ref bb)) T11.heap _
  rw [e11]
  exact ⟨rfl, N, K, t5, _, _, sz_t5, Gv5, Gc5, Gn5, Gm5, Vt9, Et5, ⟨fun i hi => ((hP9.2 i hi).trans (hP5 i hi)), hP9.1⟩⟩

theorem d59_0 : decode c59 0 = .ok (.aload_n 0, 1) := by decide +kernel
theorem d59_1 : decode c59 1 = .ok (.aload_n 1, 1) := by decide +kernel
theorem d59_2 : decode c59 2 = .ok (.invokespecial 29, 3) := by decide +kernel
theorem d59_5 : decode c59 5 = .ok (.pop, 1) := by decide +kernel
theorem d59_6 : decode c59 6 = .ok (.aload_n 0, 1) := by decide +kernel
theorem d59_7 : decode c59 7 = .ok (.areturn, 1) := by decide +kernel
theorem pn_ba00 : plainFor (⟨"java/lang/StringBuilder", "append", "(Ljava/lang/String;)Ljava/lang/StringBuilder;"⟩ : MethodName) = true := plainFor_of_name (by first | (simp [plainName, overriddenIn]; done) | decide +kernel)
theorem pd35 : parseMethodDescriptor "(Ljava/lang/String;)Ljava/lang/AbstractStringBuilder;" = some ⟨[(.object "java/lang/String")], some (.object "java/lang/AbstractStringBuilder")⟩ := by decide +kernel
theorem ef_ba00 (m : MethodId) (x0 : Addr) (x1 : Addr) : entryFrame m #[(.ref x0), (.ref x1)] 2 = mkF m 0 #[.val (.ref x0), .val (.ref x1)] [] := by first | (simp [entryFrame, mkF, argsToLocals, Value.category]; done) | rfl
theorem rm_ba00 (l : Launch) (Z : State) (a0 : Array Value) (hw : ∀ d ∈ tables_1, d.before a0 Z = true) (ws : List Jvm.Cond) (bb tb : Addr) (kt : ClassId) (Lb cb : Nat) (ft : Nat → Int32) (x tx : Addr) (kx : ClassId) (xn : Nat) (fx : Nat → Int32) (cn NL : Nat) (zc : Int32) (fm : Value) (hS0 : Sf Z zc fm) (h0 : Heap) (n0 : Nat) (O : Old Z n0 h0) (E_b : Exa Z h0 bb "java/lang/StringBuilder") (Fv_b : Fld Z h0 bb "java/lang/AbstractStringBuilder" "value" "[B" (.ref tb)) (Fc_b : Fld Z h0 bb "java/lang/AbstractStringBuilder" "coder" "B" (.int 0)) (Fn_b : Fld Z h0 bb "java/lang/AbstractStringBuilder" "count" "I" (.int (nI cb))) (Fm_b : Fld Z h0 bb "java/lang/AbstractStringBuilder" "maybeLatin1" "Z" (.int 0)) (V_t : Arv Z h0 tb kt .byte (nI Lb) (cont Lb ft) (.int 0)) (E_t : Exa Z h0 tb "[B") (g_bb : n0 ≤ bb) (g_tb : n0 ≤ tb) (E_x : Exa Z h0 x "java/lang/String") (Fv_x : Fld Z h0 x "java/lang/String" "value" "[B" (.ref tx)) (Fc_x : Fld Z h0 x "java/lang/String" "coder" "B" (.int 0)) (V_tx : Arv Z h0 tx kx .byte (nI xn) (cont xn fx) (.int 0)) (hxn : xn ≤ 300) (hne : tx ≠ tb) (hcn : cb + xn = cn) (hNL : Lb + max (cn - Lb) (Lb + 2) = NL) (hy0 : cb ≤ Lb) (hy1 : Lb < cn) (hy2 : cn ≤ 300) :
    MF l Z h0 (⟨"java/lang/StringBuilder", "append", "(Ljava/lang/String;)Ljava/lang/StringBuilder;"⟩ : MethodName) c59 2 (some (.object "java/lang/StringBuilder")) ws (rk 5 1 1100 76) #[(.ref bb), (.ref x)] (Qbd Z bb (some (.ref bb)) 0 cn NL (fun f => (∀ i, i < cb → f i = ft i) ∧ ∀ i, i < xn → f (cb + i) = fx i) h0 n0) := by
  refine sg n0 [bb] pn_ba00 rfl (fun m => ef_ba00 m bb x) fun p e s m below meth c s₁ Bd hml hZ hh hx B hown hnm X0 e0 N K => ?_
  have n_bt : bb ≠ tb := (own_nev E_b (wv hw 74 rfl) V_t)
  let LL1 : Array Slot := #[.val (.ref bb), .val (.ref x)]
  refine sA 1 X0 hx (B d59_0) rfl rfl rfl ?_
  refine sA 2 X0 hx (B d59_1) rfl rfl rfl ?_
  have hs2_x : xn ≤ 300 := by omega
  have hy2_0 : cb + xn = cn := by omega
  have hy2_1 : Lb + max (cn - Lb) (Lb + 2) = NL := by omega
  have hy2_2 : cb ≤ Lb := by omega
  have hy2_3 : Lb < cn := by omega
  have hy2_4 : cn ≤ 300 := by omega
  obtain ⟨v2, _, ⟨T2, L2, k2, n2⟩, -, X2, ⟨Lc2, hQ2, l2, y2, z2⟩, st2⟩ := superBack X0 hx hZ (y := (⟨"java/lang/AbstractStringBuilder", "append", "(Ljava/lang/String;)Ljava/lang/AbstractStringBuilder;"⟩ : MethodName)) hown (wv hw 134 rfl) (own_same (y := (⟨"java/lang/AbstractStringBuilder", "append", "(Ljava/lang/String;)Ljava/lang/AbstractStringBuilder;"⟩ : MethodName)) (wv hw 145 rfl) rfl (wv hw 135 rfl) (by decide)) (wv hw 135 rfl) (wv hw 136 rfl) (by decide) (backOf (W := 0) (rm_aa00 l Z a0 hw [] bb tb _ Lb cb ft x tx _ xn fx cn NL zc fm hS0 h0 n0 O E_b Fv_b Fc_b Fn_b Fm_b V_t E_t g_bb g_tb E_x Fv_x Fc_x V_tx hs2_x hne hy2_0 hy2_1 hy2_2 hy2_3 hy2_4) hZ (wv hw 138 rfl) (wv hw 83 rfl) (by decide) (by decide)) e0 (Ins.self E_b) (g := (mkF m 2 LL1 [(.ref x), (.ref bb)])) rfl (by rw [hml]; rfl) (wv hw 138 rfl) (argsL := [(.ref x)]) (rest := []) (lenOf pd35 rfl) rfl (by show 2 * 0 + _ ≤ _; exact Nat.le_of_eq rfl) (B d59_2) (fun _ _ => ⟨rfl, e0, (by decide : 0 + 1 ≤ _), (by decide : 0 + 1100 ≤ _)⟩)
  dsimp only [Pt.U, Pt.locs, Pt.cells, Pt.slots] at X2 l2 y2 z2 st2 hQ2
  rw [l2, y2, z2] at X2; clear l2 y2 z2
  obtain ⟨rfl, Nq2, K2, t2, k22, fd2, gt2, Gv2, Gc2, Gn2, Gm2, Vt2, Et2, hP2⟩ := hQ2
  replace N := Fr.app N Nq2
  have sz_t2 : h0.size ≤ t2 := Nat.le_trans K.1 gt2
  have nq3 : x ≠ bb := (ne_exa E_x E_b (by decide))
  have nq4 : tx ≠ bb := (Ne.symm (own_nev E_b (wv hw 74 rfl) V_tx))
  replace E_b := E_b.keep K2
  replace V_t := V_t.keep K2 (ninS (Ne.symm n_bt) nin0)
  replace E_t := E_t.keep K2
  replace E_x := E_x.keep K2
  replace Fv_x := Fv_x.keep K2 (ninS nq3 nin0)
  replace Fc_x := Fc_x.keep K2 (ninS nq3 nin0)
  replace V_tx := V_tx.keep K2 (ninS nq4 nin0)
  replace O := O.keep K2 (allS g_bb all0)
  replace K := K.trans K2 (allS (Or.inl (by simp)) all0)
  refine gb m T2 5 LL1 [(.ref bb)] (fun _ k => st2.trans k) ?_
  refine gb m T2 6 LL1 [] (fun _ k => XS.pop X2.here hx rfl (B d59_5) rfl rfl k) ?_
  refine sA 7 X2 hx (B d59_6) rfl rfl rfl ?_
  obtain ⟨fs, hr, hrun, hended, hW, hsame⟩ := X2.leave (v := some (.ref bb)) (fun h => by rw [Bd.returns] at h; cases h)
  refine ⟨_, _, retOut X2 hx Bd.returns rfl (Or.inr (Or.inr (Or.inr (Or.inr ⟨rfl, rfl, rfl⟩)))) (B d59_7) hr, hrun, hended, _, _, rfl, ?_, ⟨_, rfl⟩, hW, hsame.mono (by decide) (by decide)⟩
  show Qbd Z bb (some (.ref bb)) 0 cn NL (fun f => (∀ i, i < cb → f i = ft i) ∧ ∀ i, i < xn → f (cb + i) = fx i) h0 n0 (some (.ref bb)) T2.heap _
  exact ⟨rfl, N, K, t2, _, _, sz_t2, Gv2, Gc2, Gn2, Gm2, Vt2, Et2, hP2⟩

theorem pn_ba01 : plainFor (⟨"java/lang/StringBuilder", "append", "(Ljava/lang/String;)Ljava/lang/StringBuilder;"⟩ : MethodName) = true := plainFor_of_name (by first | (simp [plainName, overriddenIn]; done) | decide +kernel)
theorem ef_ba01 (m : MethodId) (x0 : Addr) (x1 : Addr) : entryFrame m #[(.ref x0), (.ref x1)] 2 = mkF m 0 #[.val (.ref x0), .val (.ref x1)] [] := by first | (simp [entryFrame, mkF, argsToLocals, Value.category]; done) | rfl
theorem rm_ba01 (l : Launch) (Z : State) (a0 : Array Value) (hw : ∀ d ∈ tables_1, d.before a0 Z = true) (ws : List Jvm.Cond) (bb tb : Addr) (kt : ClassId) (Lb : Nat) (ft : Nat → Int32) (x tx : Addr) (kx : ClassId) (xn : Nat) (fx : Nat → Int32) (NL : Nat) (zc : Int32) (fm : Value) (hS0 : Sf Z zc fm) (h0 : Heap) (n0 : Nat) (O : Old Z n0 h0) (E_b : Exa Z h0 bb "java/lang/StringBuilder") (Fv_b : Fld Z h0 bb "java/lang/AbstractStringBuilder" "value" "[B" (.ref tb)) (Fc_b : Fld Z h0 bb "java/lang/AbstractStringBuilder" "coder" "B" (.int 0)) (Fn_b : Fld Z h0 bb "java/lang/AbstractStringBuilder" "count" "I" (.int (nI 0))) (Fm_b : Fld Z h0 bb "java/lang/AbstractStringBuilder" "maybeLatin1" "Z" (.int 0)) (V_t : Arv Z h0 tb kt .byte (nI Lb) (cont Lb ft) (.int 0)) (E_t : Exa Z h0 tb "[B") (g_bb : n0 ≤ bb) (g_tb : n0 ≤ tb) (E_x : Exa Z h0 x "java/lang/String") (Fv_x : Fld Z h0 x "java/lang/String" "value" "[B" (.ref tx)) (Fc_x : Fld Z h0 x "java/lang/String" "coder" "B" (.int 1)) (V_tx : Arv Z h0 tx kx .byte (nI (2 * xn)) (cont (2 * xn) fx) (.int 0)) (hxn : xn ≤ 300) (hne : tx ≠ tb) (hNL : Lb + max (xn - Lb) (Lb + 2) = NL) (hy0 : Lb < xn) (hy1 : xn ≤ 270) (hy2 : 2 * Lb + 2 ≤ xn) :
    MF l Z h0 (⟨"java/lang/StringBuilder", "append", "(Ljava/lang/String;)Ljava/lang/StringBuilder;"⟩ : MethodName) c59 2 (some (.object "java/lang/StringBuilder")) ws (rk 9 2 2140 130) #[(.ref bb), (.ref x)] (Qbd Z bb (some (.ref bb)) 1 xn (2 * NL) (fun f => ∀ i, i < 2 * xn → f i = fx i) h0 n0) := by
  refine sg n0 [bb] pn_ba01 rfl (fun m => ef_ba01 m bb x) fun p e s m below meth c s₁ Bd hml hZ hh hx B hown hnm X0 e0 N K => ?_
  have n_bt : bb ≠ tb := (own_nev E_b (wv hw 74 rfl) V_t)
  let LL1 : Array Slot := #[.val (.ref bb), .val (.ref x)]
  refine sA 1 X0 hx (B d59_0) rfl rfl rfl ?_
  refine sA 2 X0 hx (B d59_1) rfl rfl rfl ?_
  have hs2_x : xn ≤ 300 := by omega
  have hy2_0 : Lb + max (xn - Lb) (Lb + 2) = NL := by omega
  have hy2_1 : Lb < xn := by omega
  have hy2_2 : xn ≤ 270 := by omega
  have hy2_3 : 2 * Lb + 2 ≤ xn := by omega
  obtain ⟨v2, _, ⟨T2, L2, k2, n2⟩, -, X2, ⟨Lc2, hQ2, l2, y2, z2⟩, st2⟩ := superBack X0 hx hZ (y := (⟨"java/lang/AbstractStringBuilder", "append", "(Ljava/lang/String;)Ljava/lang/AbstractStringBuilder;"⟩ : MethodName)) hown (wv hw 134 rfl) (own_same (y := (⟨"java/lang/AbstractStringBuilder", "append", "(Ljava/lang/String;)Ljava/lang/AbstractStringBuilder;"⟩ : MethodName)) (wv hw 145 rfl) rfl (wv hw 135 rfl) (by decide)) (wv hw 135 rfl) (wv hw 136 rfl) (by decide) (backOf (W := 0) (rm_aa01 l Z a0 hw [] bb tb _ Lb  ft x tx _ xn fx  NL zc fm hS0 h0 n0 O E_b Fv_b Fc_b Fn_b Fm_b V_t E_t g_bb g_tb E_x Fv_x Fc_x V_tx hs2_x hne hy2_0 hy2_1 hy2_2 hy2_3) hZ (wv hw 138 rfl) (wv hw 83 rfl) (by decide) (by decide)) e0 (Ins.self E_b) (g := (mkF m 2 LL1 [(.ref x), (.ref bb)])) rfl (by rw [hml]; rfl) (wv hw 138 rfl) (argsL := [(.ref x)]) (rest := []) (lenOf pd35 rfl) rfl (by show 2 * 0 + _ ≤ _; exact Nat.le_of_eq rfl) (B d59_2) (fun _ _ => ⟨rfl, e0, (by decide : 0 + 2 ≤ _), (by decide : 0 + 2140 ≤ _)⟩)
  dsimp only [Pt.U, Pt.locs, Pt.cells, Pt.slots] at X2 l2 y2 z2 st2 hQ2
  rw [l2, y2, z2] at X2; clear l2 y2 z2
  obtain ⟨rfl, Nq2, K2, t2, k22, fd2, gt2, Gv2, Gc2, Gn2, Gm2, Vt2, Et2, hP2⟩ := hQ2
  replace N := Fr.app N Nq2
  have sz_t2 : h0.size ≤ t2 := Nat.le_trans K.1 gt2
  have nq3 : x ≠ bb := (ne_exa E_x E_b (by decide))
  have nq4 : tx ≠ bb := (Ne.symm (own_nev E_b (wv hw 74 rfl) V_tx))
  replace E_b := E_b.keep K2
  replace V_t := V_t.keep K2 (ninS (Ne.symm n_bt) nin0)
  replace E_t := E_t.keep K2
  replace E_x := E_x.keep K2
  replace Fv_x := Fv_x.keep K2 (ninS nq3 nin0)
  replace Fc_x := Fc_x.keep K2 (ninS nq3 nin0)
  replace V_tx := V_tx.keep K2 (ninS nq4 nin0)
  replace O := O.keep K2 (allS g_bb all0)
  replace K := K.trans K2 (allS (Or.inl (by simp)) all0)
  refine gb m T2 5 LL1 [(.ref bb)] (fun _ k => st2.trans k) ?_
  refine gb m T2 6 LL1 [] (fun _ k => XS.pop X2.here hx rfl (B d59_5) rfl rfl k) ?_
  refine sA 7 X2 hx (B d59_6) rfl rfl rfl ?_
  obtain ⟨fs, hr, hrun, hended, hW, hsame⟩ := X2.leave (v := some (.ref bb)) (fun h => by rw [Bd.returns] at h; cases h)
  refine ⟨_, _, retOut X2 hx Bd.returns rfl (Or.inr (Or.inr (Or.inr (Or.inr ⟨rfl, rfl, rfl⟩)))) (B d59_7) hr, hrun, hended, _, _, rfl, ?_, ⟨_, rfl⟩, hW, hsame.mono (by decide) (by decide)⟩
  show Qbd Z bb (some (.ref bb)) 1 xn (2 * NL) (fun f => ∀ i, i < 2 * xn → f i = fx i) h0 n0 (some (.ref bb)) T2.heap _
  exact ⟨rfl, N, K, t2, _, _, sz_t2, Gv2, Gc2, Gn2, Gm2, Vt2, Et2, hP2⟩

theorem pn_ba10 : plainFor (⟨"java/lang/StringBuilder", "append", "(Ljava/lang/String;)Ljava/lang/StringBuilder;"⟩ : MethodName) = true := plainFor_of_name (by first | (simp [plainName, overriddenIn]; done) | decide +kernel)
theorem ef_ba10 (m : MethodId) (x0 : Addr) (x1 : Addr) : entryFrame m #[(.ref x0), (.ref x1)] 2 = mkF m 0 #[.val (.ref x0), .val (.ref x1)] [] := by first | (simp [entryFrame, mkF, argsToLocals, Value.category]; done) | rfl
theorem rm_ba10 (l : Launch) (Z : State) (a0 : Array Value) (hw : ∀ d ∈ tables_1, d.before a0 Z = true) (ws : List Jvm.Cond) (bb tb : Addr) (kt : ClassId) (qb cb : Nat) (ft : Nat → Int32) (x tx : Addr) (kx : ClassId) (xn : Nat) (fx : Nat → Int32) (dc : Nat → Nat) (zc : Int32) (fm : Value) (hS0 : Sf Z zc fm) (h0 : Heap) (n0 : Nat) (O : Old Z n0 h0) (E_b : Exa Z h0 bb "java/lang/StringBuilder") (Fv_b : Fld Z h0 bb "java/lang/AbstractStringBuilder" "value" "[B" (.ref tb)) (Fc_b : Fld Z h0 bb "java/lang/AbstractStringBuilder" "coder" "B" (.int 1)) (Fn_b : Fld Z h0 bb "java/lang/AbstractStringBuilder" "count" "I" (.int (nI cb))) (Fm_b : Fld Z h0 bb "java/lang/AbstractStringBuilder" "maybeLatin1" "Z" (.int 0)) (V_t : Arv Z h0 tb kt .byte (nI (2 * qb)) (cont (2 * qb) ft) (.int 0)) (E_t : Exa Z h0 tb "[B") (g_bb : n0 ≤ bb) (g_tb : n0 ≤ tb) (E_x : Exa Z h0 x "java/lang/String") (Fv_x : Fld Z h0 x "java/lang/String" "value" "[B" (.ref tx)) (Fc_x : Fld Z h0 x "java/lang/String" "coder" "B" (.int 0)) (V_tx : Arv Z h0 tx kx .byte (nI xn) (cont xn fx) (.int 0)) (hxn : xn ≤ 300) (hne : tx ≠ tb) (hD : Lat 3 fx dc) (hx3 : xn = 3) (hcq : qb = cb) (hy0 : qb ≤ 270) (hy1 : 3 ≤ qb) :
    MF l Z h0 (⟨"java/lang/StringBuilder", "append", "(Ljava/lang/String;)Ljava/lang/StringBuilder;"⟩ : MethodName) c59 2 (some (.object "java/lang/StringBuilder")) ws (rk 8 1 1100 119) #[(.ref bb), (.ref x)] (Qbd Z bb (some (.ref bb)) 1 (qb + 3) (2 * (2 * qb + 2)) (fun f => (∀ i, i < 2 * qb → f i = ft i) ∧ ∀ i, i < 3 → dec (f (2 * (qb + i))) (f (2 * (qb + i) + 1)) = nI (dc i)) h0 n0) := by
  refine sg n0 [bb] pn_ba10 rfl (fun m => ef_ba10 m bb x) fun p e s m below meth c s₁ Bd hml hZ hh hx B hown hnm X0 e0 N K => ?_
  have n_bt : bb ≠ tb := (own_nev E_b (wv hw 74 rfl) V_t)
  subst hx3
  subst hcq
  let LL1 : Array Slot := #[.val (.ref bb), .val (.ref x)]
  refine sA 1 X0 hx (B d59_0) rfl rfl rfl ?_
  refine sA 2 X0 hx (B d59_1) rfl rfl rfl ?_
  have hs2_x : 3 ≤ 300 := by omega
  have hy2_0 : qb ≤ 270 := by omega
  have hy2_1 : 3 ≤ qb := by omega
  obtain ⟨v2, _, ⟨T2, L2, k2, n2⟩, -, X2, ⟨Lc2, hQ2, l2, y2, z2⟩, st2⟩ := superBack X0 hx hZ (y := (⟨"java/lang/AbstractStringBuilder", "append", "(Ljava/lang/String;)Ljava/lang/AbstractStringBuilder;"⟩ : MethodName)) hown (wv hw 134 rfl) (own_same (y := (⟨"java/lang/AbstractStringBuilder", "append", "(Ljava/lang/String;)Ljava/lang/AbstractStringBuilder;"⟩ : MethodName)) (wv hw 145 rfl) rfl (wv hw 135 rfl) (by decide)) (wv hw 135 rfl) (wv hw 136 rfl) (by decide) (backOf (W := 0) (rm_aa10 l Z a0 hw [] bb tb _ qb qb ft x tx _ 3 fx dc zc fm hS0 h0 n0 O E_b Fv_b Fc_b Fn_b Fm_b V_t E_t g_bb g_tb E_x Fv_x Fc_x V_tx hs2_x hne hD rfl rfl hy2_0 hy2_1) hZ (wv hw 138 rfl) (wv hw 83 rfl) (by decide) (by decide)) e0 (Ins.self E_b) (g := (mkF m 2 LL1 [(.ref x), (.ref bb)])) rfl (by rw [hml]; rfl) (wv hw 138 rfl) (argsL := [(.ref x)]) (rest := []) (lenOf pd35 rfl) rfl (by show 2 * 0 + _ ≤ _; exact Nat.le_of_eq rfl) (B d59_2) (fun _ _ => ⟨rfl, e0, (by decide : 0 + 1 ≤ _), (by decide : 0 + 1100 ≤ _)⟩)
  dsimp only [Pt.U, Pt.locs, Pt.cells, Pt.slots] at X2 l2 y2 z2 st2 hQ2
  rw [l2, y2, z2] at X2; clear l2 y2 z2
  obtain ⟨rfl, Nq2, K2, t2, k22, fd2, gt2, Gv2, Gc2, Gn2, Gm2, Vt2, Et2, hP2⟩ := hQ2
  replace N := Fr.app N Nq2
  have sz_t2 : h0.size ≤ t2 := Nat.le_trans K.1 gt2
  have nq3 : x ≠ bb := (ne_exa E_x E_b (by decide))
  have nq4 : tx ≠ bb := (Ne.symm (own_nev E_b (wv hw 74 rfl) V_tx))
  replace E_b := E_b.keep K2
  replace V_t := V_t.keep K2 (ninS (Ne.symm n_bt) nin0)
  replace E_t := E_t.keep K2
  replace E_x := E_x.keep K2
  replace Fv_x := Fv_x.keep K2 (ninS nq3 nin0)
  replace Fc_x := Fc_x.keep K2 (ninS nq3 nin0)
  replace V_tx := V_tx.keep K2 (ninS nq4 nin0)
  replace O := O.keep K2 (allS g_bb all0)
  replace K := K.trans K2 (allS (Or.inl (by simp)) all0)
  refine gb m T2 5 LL1 [(.ref bb)] (fun _ k => st2.trans k) ?_
  refine gb m T2 6 LL1 [] (fun _ k => XS.pop X2.here hx rfl (B d59_5) rfl rfl k) ?_
  refine sA 7 X2 hx (B d59_6) rfl rfl rfl ?_
  obtain ⟨fs, hr, hrun, hended, hW, hsame⟩ := X2.leave (v := some (.ref bb)) (fun h => by rw [Bd.returns] at h; cases h)
  refine ⟨_, _, retOut X2 hx Bd.returns rfl (Or.inr (Or.inr (Or.inr (Or.inr ⟨rfl, rfl, rfl⟩)))) (B d59_7) hr, hrun, hended, _, _, rfl, ?_, ⟨_, rfl⟩, hW, hsame.mono (by decide) (by decide)⟩
  show Qbd Z bb (some (.ref bb)) 1 (qb + 3) (2 * (2 * qb + 2)) (fun f => (∀ i, i < 2 * qb → f i = ft i) ∧ ∀ i, i < 3 → dec (f (2 * (qb + i))) (f (2 * (qb + i) + 1)) = nI (dc i)) h0 n0 (some (.ref bb)) T2.heap _
  exact ⟨rfl, N, K, t2, _, _, sz_t2, Gv2, Gc2, Gn2, Gm2, Vt2, Et2, hP2⟩

theorem d60_0 : decode c60 0 = .ok (.aload_n 0, 1) := by decide +kernel
theorem d60_1 : decode c60 1 = .ok (.getfield 15, 3) := by decide +kernel
theorem d60_4 : decode c60 4 = .ok (.areturn, 1) := by decide +kernel
theorem pn_gv : plainFor (⟨"java/lang/AbstractStringBuilder", "getValue", "()[B"⟩ : MethodName) = true := plainFor_of_name (by first | (simp [plainName, overriddenIn]; done) | decide +kernel)
theorem ef_gv (m : MethodId) (x0 : Addr) : entryFrame m #[(.ref x0)] 1 = mkF m 0 #[.val (.ref x0)] [] := by first | (simp [entryFrame, mkF, argsToLocals, Value.category]; done) | rfl
theorem rm_gv (l : Launch) (Z : State) (a0 : Array Value) (hw : ∀ d ∈ tables_1, d.before a0 Z = true) (ws : List Jvm.Cond) (bb tb : Addr) (h0 : Heap) (n0 : Nat) (O : Old Z n0 h0) (E_b : Exa Z h0 bb "java/lang/StringBuilder") (Fv_b : Fld Z h0 bb "java/lang/AbstractStringBuilder" "value" "[B" (.ref tb)) :
    MF l Z h0 (⟨"java/lang/AbstractStringBuilder", "getValue", "()[B"⟩ : MethodName) c60 1 (some (.array .byte)) ws (rk 0 0 0 0) #[(.ref bb)] (Qpure (some (.ref tb)) h0 n0) := by
  refine sg n0 [] pn_gv rfl (fun m => ef_gv m bb) fun p e s m below meth c s₁ Bd hml hZ hh hx B hown hnm X0 e0 N K => ?_
  let LL1 : Array Slot := #[.val (.ref bb)]
  refine sA 1 X0 hx (B d60_0) rfl rfl rfl ?_
  obtain ⟨T2, X2, e2, st2⟩ := getF X0 hx hZ hown (host := "") (Or.inl (wv hw 87 rfl)) Via.refl e0 Fv_b (g := (mkF m 1 LL1 [(.ref bb)])) rfl rfl (B d60_1)
  refine gb m T2 4 LL1 [(.ref tb)] (st2) ?_
  obtain ⟨fs, hr, hrun, hended, hW, hsame⟩ := X2.leave (v := some (.ref tb)) (fun h => by rw [Bd.returns] at h; cases h)
  refine ⟨_, _, retOut X2 hx Bd.returns rfl (Or.inr (Or.inr (Or.inr (Or.inr ⟨rfl, rfl, rfl⟩)))) (B d60_4) hr, hrun, hended, _, _, rfl, ?_, ⟨_, rfl⟩, hW, hsame.mono (by decide) (by decide)⟩
  show Qpure (some (.ref tb)) h0 n0 (some (.ref tb)) T2.heap _
  rw [e2]
  exact ⟨rfl, N, rfl⟩

theorem d61_0 : decode c61 0 = .ok (.aload_n 0, 1) := by decide +kernel
theorem d61_1 : decode c61 1 = .ok (.getfield 79, 3) := by decide +kernel
theorem d61_4 : decode c61 4 = .ok (.ireturn, 1) := by decide +kernel
theorem pn_alen : plainFor (⟨"java/lang/AbstractStringBuilder", "length", "()I"⟩ : MethodName) = true := plainFor_of_name (by first | (simp [plainName, overriddenIn]; done) | decide +kernel)
theorem ef_alen (m : MethodId) (x0 : Addr) : entryFrame m #[(.ref x0)] 1 = mkF m 0 #[.val (.ref x0)] [] := by first | (simp [entryFrame, mkF, argsToLocals, Value.category]; done) | rfl
theorem rm_alen (l : Launch) (Z : State) (a0 : Array Value) (hw : ∀ d ∈ tables_1, d.before a0 Z = true) (ws : List Jvm.Cond) (bb : Addr) (cb : Nat) (h0 : Heap) (n0 : Nat) (O : Old Z n0 h0) (E_b : Exa Z h0 bb "java/lang/StringBuilder") (Fn_b : Fld Z h0 bb "java/lang/AbstractStringBuilder" "count" "I" (.int (nI cb))) :
    MF l Z h0 (⟨"java/lang/AbstractStringBuilder", "length", "()I"⟩ : MethodName) c61 1 (some .int) ws (rk 0 0 0 0) #[(.ref bb)] (Qpure (some (.int (nI cb))) h0 n0) := by
  refine sg n0 [] pn_alen rfl (fun m => ef_alen m bb) fun p e s m below meth c s₁ Bd hml hZ hh hx B hown hnm X0 e0 N K => ?_
  let LL1 : Array Slot := #[.val (.ref bb)]
  refine sA 1 X0 hx (B d61_0) rfl rfl rfl ?_
  obtain ⟨T2, X2, e2, st2⟩ := getF X0 hx hZ hown (host := "") (Or.inl (wv hw 140 rfl)) Via.refl e0 Fn_b (g := (mkF m 1 LL1 [(.ref bb)])) rfl rfl (B d61_1)
  refine gb m T2 4 LL1 [(.int (nI cb))] (st2) ?_
  obtain ⟨fs, hr, hrun, hended, hW, hsame⟩ := X2.leave (v := some (.int (nI cb))) (fun h => by rw [Bd.returns] at h; cases h)
  refine ⟨_, _, retOut X2 hx Bd.returns rfl (Or.inl ⟨rfl, Or.inl rfl, _, rfl⟩) (B d61_4) hr, hrun, hended, _, _, rfl, ?_, ⟨_, rfl⟩, hW, hsame.mono (by decide) (by decide)⟩
  show Qpure (some (.int (nI cb))) h0 n0 (some (.int (nI cb))) T2.heap _
  rw [e2]
  exact ⟨rfl, N, rfl⟩

theorem d62_0 : decode c62 0 = .ok (.aload_n 0, 1) := by decide +kernel
theorem d62_1 : decode c62 1 = .ok (.invokespecial 343, 3) := by decide +kernel
theorem d62_4 : decode c62 4 = .ok (.ireturn, 1) := by decide +kernel
theorem pn_blen : plainFor (⟨"java/lang/StringBuilder", "length", "()I"⟩ : MethodName) = true := plainFor_of_name (by first | (simp [plainName, overriddenIn]; done) | decide +kernel)
theorem ef_blen (m : MethodId) (x0 : Addr) : entryFrame m #[(.ref x0)] 1 = mkF m 0 #[.val (.ref x0)] [] := by first | (simp [entryFrame, mkF, argsToLocals, Value.category]; done) | rfl
theorem rm_blen (l : Launch) (Z : State) (a0 : Array Value) (hw : ∀ d ∈ tables_1, d.before a0 Z = true) (ws : List Jvm.Cond) (bb : Addr) (cb : Nat) (h0 : Heap) (n0 : Nat) (O : Old Z n0 h0) (E_b : Exa Z h0 bb "java/lang/StringBuilder") (Fn_b : Fld Z h0 bb "java/lang/AbstractStringBuilder" "count" "I" (.int (nI cb))) :
    MF l Z h0 (⟨"java/lang/StringBuilder", "length", "()I"⟩ : MethodName) c62 1 (some .int) ws (rk 1 0 0 12) #[(.ref bb)] (Qpure (some (.int (nI cb))) h0 n0) := by
  refine sg n0 [] pn_blen rfl (fun m => ef_blen m bb) fun p e s m below meth c s₁ Bd hml hZ hh hx B hown hnm X0 e0 N K => ?_
  let LL1 : Array Slot := #[.val (.ref bb)]
  refine sA 1 X0 hx (B d62_0) rfl rfl rfl ?_
  obtain ⟨v2, _, ⟨T2, L2, k2, n2⟩, -, X2, ⟨Lc2, hQ2, l2, y2, z2⟩, st2⟩ := superBack X0 hx hZ (y := (⟨"java/lang/AbstractStringBuilder", "length", "()I"⟩ : MethodName)) hown (wv hw 207 rfl) (own_same (y := (⟨"java/lang/AbstractStringBuilder", "length", "()I"⟩ : MethodName)) (wv hw 145 rfl) rfl (wv hw 203 rfl) (by decide)) (wv hw 203 rfl) (wv hw 136 rfl) (by decide) (backOf (W := 0) (rm_alen l Z a0 hw [] bb cb h0 n0 O E_b Fn_b) hZ (wv hw 208 rfl) (wv hw 83 rfl) (by decide) (by decide)) e0 (Ins.self E_b) (g := (mkF m 1 LL1 [(.ref bb)])) rfl (by rw [hml]; rfl) (wv hw 208 rfl) (argsL := []) (rest := []) (lenOf pd25 rfl) rfl (by show 2 * 0 + _ ≤ _; exact Nat.le_of_eq rfl) (B d62_1) (fun _ _ => ⟨rfl, e0, (by decide : 0 + 0 ≤ _), (by decide : 0 + 0 ≤ _)⟩)
  dsimp only [Pt.U, Pt.locs, Pt.cells, Pt.slots] at X2 l2 y2 z2 st2 hQ2
  rw [l2, y2, z2] at X2; clear l2 y2 z2
  obtain ⟨rfl, Nq2, e2⟩ := hQ2
  replace N := Fr.app N Nq2
  refine gb m T2 4 LL1 [(.int (nI cb))] (fun _ k => st2.trans k) ?_
  obtain ⟨fs, hr, hrun, hended, hW, hsame⟩ := X2.leave (v := some (.int (nI cb))) (fun h => by rw [Bd.returns] at h; cases h)
  refine ⟨_, _, retOut X2 hx Bd.returns rfl (Or.inl ⟨rfl, Or.inl rfl, _, rfl⟩) (B d62_4) hr, hrun, hended, _, _, rfl, ?_, ⟨_, rfl⟩, hW, hsame.mono (by decide) (by decide)⟩
  show Qpure (some (.int (nI cb))) h0 n0 (some (.int (nI cb))) T2.heap _
  rw [e2]
  exact ⟨rfl, N, rfl⟩

theorem d63_0 : decode c63 0 = .ok (.aload_n 0, 1) := by decide +kernel
theorem d63_1 : decode c63 1 = .ok (.invokespecial 1, 3) := by decide +kernel
theorem d63_4 : decode c63 4 = .ok (.aload_n 1, 1) := by decide +kernel
theorem d63_5 : decode c63 5 = .ok (.invokevirtual 552, 3) := by decide +kernel
theorem d63_8 : decode c63 8 = .ok (.astore_n 3, 1) := by decide +kernel
theorem d63_9 : decode c63 9 = .ok (.aload_n 1, 1) := by decide +kernel
theorem d63_10 : decode c63 10 = .ok (.invokevirtual 549, 3) := by decide +kernel
theorem d63_13 : decode c63 13 = .ok (.istore 4, 2) := by decide +kernel
theorem d63_15 : decode c63 15 = .ok (.aload_n 1, 1) := by decide +kernel
theorem d63_16 : decode c63 16 = .ok (.invokevirtual 1047, 3) := by decide +kernel
theorem d63_19 : decode c63 19 = .ok (.ifCond .eq 22, 3) := by decide +kernel
theorem d63_22 : decode c63 22 = .ok (.aload_n 0, 1) := by decide +kernel
theorem d63_23 : decode c63 23 = .ok (.iconst 0, 1) := by decide +kernel
theorem d63_24 : decode c63 24 = .ok (.putfield 15, 3) := by decide +kernel
theorem d63_27 : decode c63 27 = .ok (.aload_n 0, 1) := by decide +kernel
theorem d63_28 : decode c63 28 = .ok (.aload_n 3, 1) := by decide +kernel
theorem d63_29 : decode c63 29 = .ok (.iconst 0, 1) := by decide +kernel
theorem d63_30 : decode c63 30 = .ok (.iload 4, 2) := by decide +kernel
theorem d63_32 : decode c63 32 = .ok (.invokestatic 54, 3) := by decide +kernel
theorem d63_35 : decode c63 35 = .ok (.putfield 9, 3) := by decide +kernel
theorem d63_38 : decode c63 38 = .ok (.goto 59, 3) := by decide +kernel
theorem d63_97 : decode c63 97 = .ok (.return_, 1) := by decide +kernel
theorem pn_sia0 : plainFor (⟨"java/lang/String", "<init>", "(Ljava/lang/AbstractStringBuilder;Ljava/lang/Void;)V"⟩ : MethodName) = true := plainFor_of_name (by first | (simp [plainName, overriddenIn]; done) | decide +kernel)
theorem pd36 : parseMethodDescriptor "()[B" = some ⟨[], some (.array .byte)⟩ := by decide +kernel
theorem ef_sia0 (m : MethodId) (x0 : Addr) (x1 : Addr) : entryFrame m #[(.ref x0), (.ref x1), .null] 5 = mkF m 0 #[.val (.ref x0), .val (.ref x1), .val .null, .unset, .unset] [] := by first | (simp [entryFrame, mkF, argsToLocals, Value.category]; done) | rfl
theorem rm_sia0 (l : Launch) (Z : State) (a0 : Array Value) (hw : ∀ d ∈ tables_1, d.before a0 Z = true) (ws : List Jvm.Cond) (bb tb : Addr) (kt : ClassId) (Lb cb : Nat) (ft : Nat → Int32) (ch : Nat → Nat) (x : Addr) (zc : Int32) (fm : Value) (hS0 : Sf Z zc fm) (h0 : Heap) (n0 : Nat) (O : Old Z n0 h0) (E_b : Exa Z h0 bb "java/lang/StringBuilder") (Fv_b : Fld Z h0 bb "java/lang/AbstractStringBuilder" "value" "[B" (.ref tb)) (Fc_b : Fld Z h0 bb "java/lang/AbstractStringBuilder" "coder" "B" (.int 0)) (Fn_b : Fld Z h0 bb "java/lang/AbstractStringBuilder" "count" "I" (.int (nI cb))) (Fm_b : Fld Z h0 bb "java/lang/AbstractStringBuilder" "maybeLatin1" "Z" (.int 0)) (V_t : Arv Z h0 tb kt .byte (nI Lb) (cont Lb ft) (.int 0)) (E_t : Exa Z h0 tb "[B") (g_bb : n0 ≤ bb) (g_tb : n0 ≤ tb) (E_x : Exa Z h0 x "java/lang/String") (Fv_x : Fld Z h0 x "java/lang/String" "value" "[B" .null) (Fc_x : Fld Z h0 x "java/lang/String" "coder" "B" (.int 0)) (g_x : n0 ≤ x) (hch : ∀ i, ch i < 65536) (hR : Lat cb ft ch) (hy0 : cb < Lb) (hy1 : Lb ≤ 1000) (hy2 : cb ≤ 264) :
    MF l Z h0 (⟨"java/lang/String", "<init>", "(Ljava/lang/AbstractStringBuilder;Ljava/lang/Void;)V"⟩ : MethodName) c63 5 none ws (rk 3 1 530 49) #[(.ref x), (.ref bb), .null] (Qin Z x cb ch h0 n0) := by
  refine sg n0 [x] pn_sia0 rfl (fun m => ef_sia0 m x bb) fun p e s m below meth c s₁ Bd hml hZ hh hx B hown hnm X0 e0 N K => ?_
  have n_bt : bb ≠ tb := (own_nev E_b (wv hw 74 rfl) V_t)
  let LL1 : Array Slot := #[.val (.ref x), .val (.ref bb), .val .null, .unset, .unset]
  refine sA 1 X0 hx (B d63_0) rfl rfl rfl ?_
  obtain ⟨T2, X2, e2, st2⟩ := initO X0 hx hZ hown (wv hw 17 rfl) (wv hw 18 rfl) (wv hw 19 rfl) e0 (g := (mkF m 1 LL1 [(.ref x)])) rfl (by rw [hml]; rfl) rfl (B d63_1) (by decide) (W := 0) (by show 2 * 0 + _ ≤ _; exact Nat.le_of_eq rfl) (by decide)
  refine gb m T2 4 LL1 [] (st2) ?_
  refine sA 5 X2 hx (B d63_4) rfl rfl rfl ?_
  obtain ⟨v3, T3, Lc3, X3, hQ3, st3⟩ := cV LL1 [] X2 hx hZ hown hw e2 hml E_b 196 197 199 198 83 200 rfl rfl rfl rfl rfl rfl (by decide) (rm_gv l Z a0 hw [] bb tb h0 n0 O E_b Fv_b) pd36 rfl rfl (B d63_5) rfl
  obtain ⟨rfl, Nq3, e3⟩ := hQ3
  replace N := Fr.app N Nq3
  refine gb m T3 8 LL1 [(.ref tb)] (st3) ?_
  let LL4 : Array Slot := #[.val (.ref x), .val (.ref bb), .val .null, .val (.ref tb), .unset]
  refine gb m T3 9 LL4 [] (fun _ k => XS.astoreN X3.here hx rfl (B d63_8) rfl rfl (l' := LL4) rfl k) ?_
  refine sA 10 X3 hx (B d63_9) rfl rfl rfl ?_
  obtain ⟨cq5, kq5, q5a, q5b, q5c⟩ := isOf hZ e3 E_b
  obtain ⟨v5, _, ⟨T5, L5, k5, n5⟩, -, X5, ⟨Lc5, hQ5, l5, y5, z5⟩, st5⟩ := X3.virtualBack hx (y := (⟨"java/lang/AbstractStringBuilder", "length", "()I"⟩ : MethodName)) (z := (⟨"java/lang/StringBuilder", "length", "()I"⟩ : MethodName)) hown (mvT hZ (wv hw 201 rfl)) (mvT hZ (wv hw 202 rfl)) (own_nf (y := (⟨"java/lang/AbstractStringBuilder", "length", "()I"⟩ : MethodName)) (args := #[]) (mvT hZ (wv hw 145 rfl)) rfl) (mvT hZ (wv hw 204 rfl)) (mvT hZ (wv hw 205 rfl)) (by decide) (backOf (W := 0) (rm_blen l Z a0 hw [] bb cb h0 n0 O E_b Fn_b) hZ (wv hw 206 rfl) (wv hw 75 rfl) (by decide) (by decide)) q5a q5c (g := (mkF m 10 LL4 [(.ref bb)])) rfl (by rw [hml]; rfl) (Steps.refl _) (argsL := []) (rest := []) (lenOf pd25 rfl) rfl (by show 2 * 0 + _ ≤ _; exact Nat.le_of_eq rfl) (B d63_10) (fun _ _ => ⟨rfl, e3, (by decide : 0 + 0 ≤ _), (by decide : 0 + 0 ≤ _)⟩)
  dsimp only [Pt.U, Pt.locs, Pt.cells, Pt.slots] at X5 l5 y5 z5 st5 hQ5
  rw [l5, y5, z5] at X5; clear l5 y5 z5
  obtain ⟨rfl, Nq5, e5⟩ := hQ5
  replace N := Fr.app N Nq5
  refine gb m T5 13 LL4 [(.int (nI cb))] (fun _ k => st5.trans k) ?_
  let LL6 : Array Slot := #[.val (.ref x), .val (.ref bb), .val .null, .val (.ref tb), .val (.int (nI cb))]
  refine gb m T5 15 LL6 [] (fun _ k => XS.istore X5.here hx rfl (B d63_13) rfl (l' := LL6) rfl k) ?_
  refine sA 16 X5 hx (B d63_15) rfl rfl rfl ?_
  obtain ⟨v7, T7, Lc7, X7, hQ7, st7⟩ := cV LL6 [] X5 hx hZ hown hw e5 hml E_b 209 210 212 211 83 213 rfl rfl rfl rfl rfl rfl (by decide) (rm_bl0 l Z a0 hw [] bb tb _ Lb cb ft zc fm hS0 h0 n0 O E_b Fv_b Fc_b Fn_b Fm_b V_t E_t g_bb g_tb) pd18 rfl rfl (B d63_16) rfl
  obtain ⟨rfl, Nq7, e7⟩ := hQ7
  replace N := Fr.app N Nq7
  refine gb m T7 19 LL6 [(.int (1 : Int32))] (st7) ?_
  refine gb m T7 22 LL6 [] (fun _ k => XS.ifNo X7.here hx rfl (B d63_19) rfl ((if0 _ _).trans (feq (by decide : ¬ ((1 : Int32) = (0 : Int32)))).1) k) ?_
  refine sA 23 X7 hx (B d63_22) rfl rfl rfl ?_
  refine sC 24 (0 : Int32) X7 hx (B d63_23) rfl rfl ?_
  obtain ⟨T9, h9, X9, e9, W9, st9⟩ := putFN X7 hx hZ hown (wv hw 32 rfl) Via.refl e7 Fc_x E_x (Or.inr ⟨(wv hw 33 rfl), rfl, hnm⟩) (wv hw 8 rfl) (ty := .byte) (v' := (.int (0 : Int32))) (by decide) rfl rfl (g := (mkF m 24 LL6 [(.int (0 : Int32)), (.ref x)])) rfl rfl (B d63_24)
  have nq10 : bb ≠ x := (ne_exa E_b E_x (by decide))
  have nq11 : tb ≠ x := (ne_exa E_t E_x (by decide))
  replace E_b := E_b.wr W9
  replace Fv_b := Fv_b.other W9 (Or.inl nq10)
  replace Fc_b := Fc_b.other W9 (Or.inl nq10)
  replace Fn_b := Fn_b.other W9 (Or.inl nq10)
  replace Fm_b := Fm_b.other W9 (Or.inl nq10)
  replace V_t := V_t.other W9 nq11
  replace E_t := E_t.wr W9
  replace E_x := E_x.wr W9
  replace Fv_x := Fv_x.other W9 (Or.inr (slot_ne (Or.inr (wv hw 35 rfl)) (Or.inr (wv hw 33 rfl)) (by decide) (t := (.array .byte)) (t' := .byte) (by decide) (by decide)))
  replace Fc_x := Fc_x.same W9
  replace O := O.wr W9 g_x
  replace K := K.wr W9 (Or.inl (by simp))
  replace N := Fr.snoc X9 N g_x
  refine gb m T9 27 LL6 [] (st9) ?_
  refine sA 28 X9 hx (B d63_27) rfl rfl rfl ?_
  refine sA 29 X9 hx (B d63_28) rfl rfl rfl ?_
  refine sC 30 (0 : Int32) X9 hx (B d63_29) rfl rfl ?_
  refine tI 32 X9 hx (B d63_30) rfl rfl ?_
  have hy12_0 : cb < Lb := by omega
  have hy12_1 : Lb ≤ 1100 := by omega
  have hy12_2 : cb ≤ 530 := by omega
  obtain ⟨v12, T12, Lc12, X12, hQ12, st12⟩ := cS LL6 [(.ref x)] X9 hx hZ hown hw e9 hml 214 109 110 111 rfl rfl rfl rfl (by decide) (rm_cor l Z a0 hw [] tb _ Lb ft cb h9 n0 O V_t hy12_0 hy12_1 hy12_2) pd21 rfl rfl (B d63_32) rfl
  obtain ⟨r12, k212, fd12, rfl, Nq12, K12, gr12, Vr12, Er12, hP12⟩ := hQ12
  replace N := Fr.app N Nq12
  have ne_x_r12 : x ≠ r12 := Nat.ne_of_lt (Nat.lt_of_lt_of_le E_x.lt gr12)
  have sz_r12 : h0.size ≤ r12 := Nat.le_trans K.1 gr12
  replace E_b := E_b.keep K12
  replace Fv_b := Fv_b.keep K12 nin0
  replace Fc_b := Fc_b.keep K12 nin0
  replace Fn_b := Fn_b.keep K12 nin0
  replace Fm_b := Fm_b.keep K12 nin0
  replace V_t := V_t.keep K12 nin0
  replace E_t := E_t.keep K12
  replace E_x := E_x.keep K12
  replace Fv_x := Fv_x.keep K12 nin0
  replace Fc_x := Fc_x.keep K12 nin0
  replace O := O.keep K12 all0
  replace K := K.trans K12 all0
  refine gb m T12 35 LL6 [(.ref r12), (.ref x)] (st12) ?_
  obtain ⟨T13, h13, X13, e13, W13, st13⟩ := putF X12 hx hZ hown (host := "") (Or.inl (wv hw 34 rfl)) Via.refl rfl Fv_x E_x (Or.inr ⟨(wv hw 35 rfl), rfl, hnm⟩) (wv hw 8 rfl) (ty := (.array .byte)) (by decide) rfl rfl (g := (mkF m 35 LL6 [(.ref r12), (.ref x)])) rfl rfl (B d63_35)
  replace E_b := E_b.wr W13
  replace Fv_b := Fv_b.other W13 (Or.inl nq10)
  replace Fc_b := Fc_b.other W13 (Or.inl nq10)
  replace Fn_b := Fn_b.other W13 (Or.inl nq10)
  replace Fm_b := Fm_b.other W13 (Or.inl nq10)
  replace V_t := V_t.other W13 nq11
  replace E_t := E_t.wr W13
  replace E_x := E_x.wr W13
  replace Fc_x := Fc_x.other W13 (Or.inr (slot_ne (Or.inr (wv hw 33 rfl)) (Or.inr (wv hw 35 rfl)) (by decide) (t := .byte) (t' := (.array .byte)) (by decide) (by decide)))
  replace Vr12 := Vr12.other W13 (Ne.symm ne_x_r12)
  replace Er12 := Er12.wr W13
  replace Fv_x := Fv_x.same W13
  replace O := O.wr W13 g_x
  replace K := K.wr W13 (Or.inl (by simp))
  replace N := Fr.snoc X13 N g_x
  refine gb m T13 38 LL6 [] (st13) ?_
  refine gb m T13 97 LL6 [] (fun _ k => XS.goto X13.here hx rfl (pc0 := 38) (pc' := 97) rfl (B d63_38) (by decide) (by decide) k) ?_
  obtain ⟨fs, hr, hrun, hended, hW, hsame⟩ := X13.leave (v := none) (fun _ => rfl)
  refine ⟨_, _, X13.returnOut hx Bd.returns (B d63_97) hr, hrun, hended, _, _, rfl, ?_, ⟨_, rfl⟩, hW, hsame.mono (by decide) (by decide)⟩
  show Qin Z x cb ch h0 n0 (none) T13.heap _
  rw [e13]
  exact ⟨rfl, N, K, r12, _, _, _, _, sz_r12, Fv_x, Fc_x, Vr12, Er12, Or.inl ⟨rfl, rfl, own_L0m hP12 (by omega) hR⟩⟩

theorem d64_0 : decode c64 0 = .ok (.aload_n 0, 1) := by decide +kernel
theorem d64_1 : decode c64 1 = .ok (.aload_n 1, 1) := by decide +kernel
theorem d64_2 : decode c64 2 = .ok (.aconst_null, 1) := by decide +kernel
theorem d64_3 : decode c64 3 = .ok (.invokespecial 489, 3) := by decide +kernel
theorem d64_6 : decode c64 6 = .ok (.return_, 1) := by decide +kernel
theorem pn_sib0 : plainFor (⟨"java/lang/String", "<init>", "(Ljava/lang/StringBuilder;)V"⟩ : MethodName) = true := plainFor_of_name (by first | (simp [plainName, overriddenIn]; done) | decide +kernel)
theorem pd37 : parseMethodDescriptor "(Ljava/lang/AbstractStringBuilder;Ljava/lang/Void;)V" = some ⟨[(.object "java/lang/AbstractStringBuilder"), (.object "java/lang/Void")], none⟩ := by decide +kernel
theorem ef_sib0 (m : MethodId) (x0 : Addr) (x1 : Addr) : entryFrame m #[(.ref x0), (.ref x1)] 2 = mkF m 0 #[.val (.ref x0), .val (.ref x1)] [] := by first | (simp [entryFrame, mkF, argsToLocals, Value.category]; done) | rfl
theorem rm_sib0 (l : Launch) (Z : State) (a0 : Array Value) (hw : ∀ d ∈ tables_1, d.before a0 Z = true) (ws : List Jvm.Cond) (bb tb : Addr) (kt : ClassId) (Lb cb : Nat) (ft : Nat → Int32) (ch : Nat → Nat) (x : Addr) (zc : Int32) (fm : Value) (hS0 : Sf Z zc fm) (h0 : Heap) (n0 : Nat) (O : Old Z n0 h0) (E_b : Exa Z h0 bb "java/lang/StringBuilder") (Fv_b : Fld Z h0 bb "java/lang/AbstractStringBuilder" "value" "[B" (.ref tb)) (Fc_b : Fld Z h0 bb "java/lang/AbstractStringBuilder" "coder" "B" (.int 0)) (Fn_b : Fld Z h0 bb "java/lang/AbstractStringBuilder" "count" "I" (.int (nI cb))) (Fm_b : Fld Z h0 bb "java/lang/AbstractStringBuilder" "maybeLatin1" "Z" (.int 0)) (V_t : Arv Z h0 tb kt .byte (nI Lb) (cont Lb ft) (.int 0)) (E_t : Exa Z h0 tb "[B") (g_bb : n0 ≤ bb) (g_tb : n0 ≤ tb) (E_x : Exa Z h0 x "java/lang/String") (Fv_x : Fld Z h0 x "java/lang/String" "value" "[B" .null) (Fc_x : Fld Z h0 x "java/lang/String" "coder" "B" (.int 0)) (g_x : n0 ≤ x) (hch : ∀ i, ch i < 65536) (hR : Lat cb ft ch) (hy0 : cb < Lb) (hy1 : Lb ≤ 1000) (hy2 : cb ≤ 264) :
    MF l Z h0 (⟨"java/lang/String", "<init>", "(Ljava/lang/StringBuilder;)V"⟩ : MethodName) c64 2 none ws (rk 4 1 530 65) #[(.ref x), (.ref bb)] (Qin Z x cb ch h0 n0) := by
  refine sg n0 [x] pn_sib0 rfl (fun m => ef_sib0 m x bb) fun p e s m below meth c s₁ Bd hml hZ hh hx B hown hnm X0 e0 N K => ?_
  have n_bt : bb ≠ tb := (own_nev E_b (wv hw 74 rfl) V_t)
  let LL1 : Array Slot := #[.val (.ref x), .val (.ref bb)]
  refine sA 1 X0 hx (B d64_0) rfl rfl rfl ?_
  refine sA 2 X0 hx (B d64_1) rfl rfl rfl ?_
  refine gb m s₁ 3 LL1 [.null, (.ref bb), (.ref x)] (fun _ k => XS.aconstNull X0.here hx rfl (B d64_2) k) ?_
  have hy2_0 : cb < Lb := by omega
  have hy2_1 : Lb ≤ 1000 := by omega
  have hy2_2 : cb ≤ 264 := by omega
  obtain ⟨v2, _, ⟨T2, L2, k2, n2⟩, -, X2, ⟨Lc2, hQ2, l2, y2, z2⟩, st2⟩ := X0.specialBack hx (y := (⟨"java/lang/String", "<init>", "(Ljava/lang/AbstractStringBuilder;Ljava/lang/Void;)V"⟩ : MethodName)) rfl hown (mvT hZ (wv hw 193 rfl)) (mvT hZ (wv hw 194 rfl)) (mvT hZ (wv hw 195 rfl)) (by decide) (backOf (W := 0) (rm_sia0 l Z a0 hw [] bb tb _ Lb cb ft ch x zc fm hS0 h0 n0 O E_b Fv_b Fc_b Fn_b Fm_b V_t E_t g_bb g_tb E_x Fv_x Fc_x g_x hch hR hy2_0 hy2_1 hy2_2) hZ (wv hw 195 rfl) (wv hw 9 rfl) (by decide) (by decide)) (g := (mkF m 3 LL1 [.null, (.ref bb), (.ref x)])) rfl (by rw [hml]; rfl) (Steps.refl _) (a := x) (argsL := [(.ref bb), .null]) (rest := []) (lenOf pd37 rfl) rfl (by show 2 * 0 + _ ≤ _; exact Nat.le_of_eq rfl) (B d64_3) (fun _ _ => ⟨rfl, e0, (by decide : 0 + 1 ≤ _), (by decide : 0 + 530 ≤ _)⟩)
  dsimp only [Pt.U, Pt.locs, Pt.cells, Pt.slots] at X2 l2 y2 z2 st2 hQ2
  rw [l2, y2, z2] at X2; clear l2 y2 z2
  obtain ⟨rfl, Nq2, K2, r2, k22, cd2, lb2, fd2, gr2, Gv2, Gc2, Vr2, Er2, hR2⟩ := hQ2
  replace N := Fr.app N Nq2
  have sz_r2 : h0.size ≤ r2 := Nat.le_trans K.1 gr2
  have nq3 : bb ≠ x := (ne_exa E_b E_x (by decide))
  have nq4 : tb ≠ x := (ne_exa E_t E_x (by decide))
  replace E_b := E_b.keep K2
  replace Fv_b := Fv_b.keep K2 (ninS nq3 nin0)
  replace Fc_b := Fc_b.keep K2 (ninS nq3 nin0)
  replace Fn_b := Fn_b.keep K2 (ninS nq3 nin0)
  replace Fm_b := Fm_b.keep K2 (ninS nq3 nin0)
  replace V_t := V_t.keep K2 (ninS nq4 nin0)
  replace E_t := E_t.keep K2
  replace E_x := E_x.keep K2
  replace O := O.keep K2 (allS g_x all0)
  replace K := K.trans K2 (allS (Or.inl (by simp)) all0)
  refine gb m T2 6 LL1 [] (fun _ k => st2.trans k) ?_
  obtain ⟨fs, hr, hrun, hended, hW, hsame⟩ := X2.leave (v := none) (fun _ => rfl)
  refine ⟨_, _, X2.returnOut hx Bd.returns (B d64_6) hr, hrun, hended, _, _, rfl, ?_, ⟨_, rfl⟩, hW, hsame.mono (by decide) (by decide)⟩
  show Qin Z x cb ch h0 n0 (none) T2.heap _
  exact ⟨rfl, N, K, r2, _, _, _, _, sz_r2, Gv2, Gc2, Vr2, Er2, hR2⟩

theorem d65_0 : decode c65 0 = .ok (.new 18, 3) := by decide +kernel
theorem d65_3 : decode c65 3 = .ok (.dup, 1) := by decide +kernel
theorem d65_4 : decode c65 4 = .ok (.aload_n 0, 1) := by decide +kernel
theorem d65_5 : decode c65 5 = .ok (.invokespecial 137, 3) := by decide +kernel
theorem d65_8 : decode c65 8 = .ok (.areturn, 1) := by decide +kernel
theorem pn_tos0 : plainFor (⟨"java/lang/StringBuilder", "toString", "()Ljava/lang/String;"⟩ : MethodName) = true := plainFor_of_name (by first | (simp [plainName, overriddenIn]; done) | decide +kernel)
theorem pd38 : parseMethodDescriptor "(Ljava/lang/StringBuilder;)V" = some ⟨[(.object "java/lang/StringBuilder")], none⟩ := by decide +kernel
theorem ef_tos0 (m : MethodId) (x0 : Addr) : entryFrame m #[(.ref x0)] 1 = mkF m 0 #[.val (.ref x0)] [] := by first | (simp [entryFrame, mkF, argsToLocals, Value.category]; done) | rfl
theorem rm_tos0 (l : Launch) (Z : State) (a0 : Array Value) (hw : ∀ d ∈ tables_1, d.before a0 Z = true) (ws : List Jvm.Cond) (bb tb : Addr) (kt : ClassId) (Lb cb : Nat) (ft : Nat → Int32) (ch : Nat → Nat) (zc : Int32) (fm : Value) (hS0 : Sf Z zc fm) (h0 : Heap) (n0 : Nat) (O : Old Z n0 h0) (E_b : Exa Z h0 bb "java/lang/StringBuilder") (Fv_b : Fld Z h0 bb "java/lang/AbstractStringBuilder" "value" "[B" (.ref tb)) (Fc_b : Fld Z h0 bb "java/lang/AbstractStringBuilder" "coder" "B" (.int 0)) (Fn_b : Fld Z h0 bb "java/lang/AbstractStringBuilder" "count" "I" (.int (nI cb))) (Fm_b : Fld Z h0 bb "java/lang/AbstractStringBuilder" "maybeLatin1" "Z" (.int 0)) (V_t : Arv Z h0 tb kt .byte (nI Lb) (cont Lb ft) (.int 0)) (E_t : Exa Z h0 tb "[B") (g_bb : n0 ≤ bb) (g_tb : n0 ≤ tb) (hch : ∀ i, ch i < 65536) (hR : Lat cb ft ch) (hy0 : cb < Lb) (hy1 : Lb ≤ 1000) (hy2 : cb ≤ 264) :
    MF l Z h0 (⟨"java/lang/StringBuilder", "toString", "()Ljava/lang/String;"⟩ : MethodName) c65 1 (some (.object "java/lang/String")) ws (rk 5 2 534 79) #[(.ref bb)] (Qst Z cb ch h0 n0) := by
  refine sg n0 [] pn_tos0 rfl (fun m => ef_tos0 m bb) fun p e s m below meth c s₁ Bd hml hZ hh hx B hown hnm X0 e0 N K => ?_
  have n_bt : bb ≠ tb := (own_nev E_b (wv hw 74 rfl) V_t)
  let LL1 : Array Slot := #[.val (.ref bb)]
  obtain ⟨T2, h2, X2, e2, E2, A2, D2, -, st2⟩ := newO X0 hx hZ hown (wv hw 189 rfl) (wv hw 8 rfl) (wv hw 9 rfl) e0 (g := (mkF m 0 LL1 [])) rfl (B d65_0) (by decide) (by decide)
  obtain ⟨b2, g2⟩ : ∃ z, z = h0.size := ⟨_, rfl⟩
  rw [← g2] at A2 D2 st2
  have ne_bb_b2 : bb ≠ b2 := Nat.ne_of_lt (Nat.lt_of_lt_of_le E_b.lt (Nat.le_of_eq g2.symm))
  have ne_tb_b2 : tb ≠ b2 := Nat.ne_of_lt (Nat.lt_of_lt_of_le V_t.lt (Nat.le_of_eq g2.symm))
  have g_b2 : n0 ≤ b2 := Nat.le_trans (Old.le O) (Nat.le_of_eq g2.symm)
  have sz_b2 : h0.size ≤ b2 := Nat.le_trans K.1 (Nat.le_of_eq g2.symm)
  replace E_b := E_b.ext E2
  replace Fv_b := Fv_b.ext E2
  replace Fc_b := Fc_b.ext E2
  replace Fn_b := Fn_b.ext E2
  replace Fm_b := Fm_b.ext E2
  replace V_t := V_t.ext E2
  replace E_t := E_t.ext E2
  replace O := O.ext E2
  replace K := K.ext E2
  have E_b2 := A2
  have F_coder_b2 : Fld Z h2 b2 "java/lang/String" "coder" "B" (.int (0 : Int32)) := D2 (Or.inr (wv hw 33 rfl)) (ty := .byte) (by decide)
  have F_value_b2 : Fld Z h2 b2 "java/lang/String" "value" "[B" .null := D2 (Or.inr (wv hw 35 rfl)) (ty := (.array .byte)) (by decide)
  refine gb m T2 3 LL1 [(.ref b2)] (st2) ?_
  refine gb m T2 4 LL1 [(.ref b2), (.ref b2)] (fun _ k => XS.dup X2.here hx rfl (B d65_3) rfl rfl k) ?_
  refine sA 5 X2 hx (B d65_4) rfl rfl rfl ?_
  have hy3_0 : cb < Lb := by omega
  have hy3_1 : Lb ≤ 1000 := by omega
  have hy3_2 : cb ≤ 264 := by omega
  obtain ⟨v3, _, ⟨T3, L3, k3, n3⟩, -, X3, ⟨Lc3, hQ3, l3, y3, z3⟩, st3⟩ := X2.specialBack hx (y := (⟨"java/lang/String", "<init>", "(Ljava/lang/StringBuilder;)V"⟩ : MethodName)) rfl hown (mvT hZ (wv hw 190 rfl)) (mvT hZ (wv hw 191 rfl)) (mvT hZ (wv hw 192 rfl)) (by decide) (backOf (W := 1) (rm_sib0 l Z a0 hw [] bb tb _ Lb cb ft ch b2 zc fm hS0 h2 n0 O E_b Fv_b Fc_b Fn_b Fm_b V_t E_t g_bb g_tb E_b2 F_value_b2 F_coder_b2 g_b2 hch hR hy3_0 hy3_1 hy3_2) hZ (wv hw 192 rfl) (wv hw 9 rfl) (by decide) (by decide)) (g := (mkF m 5 LL1 [(.ref bb), (.ref b2), (.ref b2)])) rfl (by rw [hml]; rfl) (Steps.refl _) (a := b2) (argsL := [(.ref bb)]) (rest := [(.ref b2)]) (lenOf pd38 rfl) rfl (by show 2 * 0 + _ ≤ _; exact Nat.le_of_eq rfl) (B d65_5) (fun _ _ => ⟨rfl, e2, (by decide : 1 + 1 ≤ _), (by decide : 4 + 530 ≤ _)⟩)
  dsimp only [Pt.U, Pt.locs, Pt.cells, Pt.slots] at X3 l3 y3 z3 st3 hQ3
  rw [l3, y3, z3] at X3; clear l3 y3 z3
  obtain ⟨rfl, Nq3, K3, r3, k23, cd3, lb3, fd3, gr3, Gv3, Gc3, Vr3, Er3, hR3⟩ := hQ3
  replace N := Fr.app N Nq3
  have sz_r3 : h0.size ≤ r3 := Nat.le_trans K.1 gr3
  replace E_b := E_b.keep K3
  replace Fv_b := Fv_b.keep K3 (ninS ne_bb_b2 nin0)
  replace Fc_b := Fc_b.keep K3 (ninS ne_bb_b2 nin0)
  replace Fn_b := Fn_b.keep K3 (ninS ne_bb_b2 nin0)
  replace Fm_b := Fm_b.keep K3 (ninS ne_bb_b2 nin0)
  replace V_t := V_t.keep K3 (ninS ne_tb_b2 nin0)
  replace E_t := E_t.keep K3
  replace E_b2 := E_b2.keep K3
  replace O := O.keep K3 (allS g_b2 all0)
  replace K := K.trans K3 (allS (Or.inr sz_b2) all0)
  refine gb m T3 8 LL1 [(.ref b2)] (fun _ k => st3.trans k) ?_
  obtain ⟨fs, hr, hrun, hended, hW, hsame⟩ := X3.leave (v := some (.ref b2)) (fun h => by rw [Bd.returns] at h; cases h)
  refine ⟨_, _, retOut X3 hx Bd.returns rfl (Or.inr (Or.inr (Or.inr (Or.inr ⟨rfl, rfl, rfl⟩)))) (B d65_8) hr, hrun, hended, _, _, rfl, ?_, ⟨_, rfl⟩, hW, hsame.mono (by decide) (by decide)⟩
  show Qst Z cb ch h0 n0 (some (.ref b2)) T3.heap _
  exact ⟨_, _, _, _, _, _, rfl, N, K, sz_b2, sz_r3, E_b2, Gv3, Gc3, Vr3, Er3, hR3⟩

theorem d63_41 : decode c63 41 = .ok (.getstatic 38, 3) := by decide +kernel
theorem d63_44 : decode c63 44 = .ok (.ifCond .eq 35, 3) := by decide +kernel
theorem d63_47 : decode c63 47 = .ok (.aload_n 1, 1) := by decide +kernel
theorem d63_48 : decode c63 48 = .ok (.getfield 1048, 3) := by decide +kernel
theorem d63_51 : decode c63 51 = .ok (.ifCond .eq 28, 3) := by decide +kernel
theorem d63_79 : decode c63 79 = .ok (.aload_n 0, 1) := by decide +kernel
theorem d63_80 : decode c63 80 = .ok (.iconst 1, 1) := by decide +kernel
theorem d63_81 : decode c63 81 = .ok (.putfield 15, 3) := by decide +kernel
theorem d63_84 : decode c63 84 = .ok (.aload_n 0, 1) := by decide +kernel
theorem d63_85 : decode c63 85 = .ok (.aload_n 3, 1) := by decide +kernel
theorem d63_86 : decode c63 86 = .ok (.iconst 0, 1) := by decide +kernel
theorem d63_87 : decode c63 87 = .ok (.iload 4, 2) := by decide +kernel
theorem d63_89 : decode c63 89 = .ok (.iconst 1, 1) := by decide +kernel
theorem d63_90 : decode c63 90 = .ok (.ishl, 1) := by decide +kernel
theorem d63_91 : decode c63 91 = .ok (.invokestatic 54, 3) := by decide +kernel
theorem d63_94 : decode c63 94 = .ok (.putfield 9, 3) := by decide +kernel
theorem pn_sia1 : plainFor (⟨"java/lang/String", "<init>", "(Ljava/lang/AbstractStringBuilder;Ljava/lang/Void;)V"⟩ : MethodName) = true := plainFor_of_name (by first | (simp [plainName, overriddenIn]; done) | decide +kernel)
theorem ef_sia1 (m : MethodId) (x0 : Addr) (x1 : Addr) : entryFrame m #[(.ref x0), (.ref x1), .null] 5 = mkF m 0 #[.val (.ref x0), .val (.ref x1), .val .null, .unset, .unset] [] := by first | (simp [entryFrame, mkF, argsToLocals, Value.category]; done) | rfl
theorem rm_sia1 (l : Launch) (Z : State) (a0 : Array Value) (hw : ∀ d ∈ tables_1, d.before a0 Z = true) (ws : List Jvm.Cond) (bb tb : Addr) (kt : ClassId) (qb cb : Nat) (ft : Nat → Int32) (ch : Nat → Nat) (x : Addr) (zc : Int32) (fm : Value) (hS0 : Sf Z zc fm) (h0 : Heap) (n0 : Nat) (O : Old Z n0 h0) (E_b : Exa Z h0 bb "java/lang/StringBuilder") (Fv_b : Fld Z h0 bb "java/lang/AbstractStringBuilder" "value" "[B" (.ref tb)) (Fc_b : Fld Z h0 bb "java/lang/AbstractStringBuilder" "coder" "B" (.int 1)) (Fn_b : Fld Z h0 bb "java/lang/AbstractStringBuilder" "count" "I" (.int (nI cb))) (Fm_b : Fld Z h0 bb "java/lang/AbstractStringBuilder" "maybeLatin1" "Z" (.int 0)) (V_t : Arv Z h0 tb kt .byte (nI (2 * qb)) (cont (2 * qb) ft) (.int 0)) (E_t : Exa Z h0 tb "[B") (g_bb : n0 ≤ bb) (g_tb : n0 ≤ tb) (E_x : Exa Z h0 x "java/lang/String") (Fv_x : Fld Z h0 x "java/lang/String" "value" "[B" .null) (Fc_x : Fld Z h0 x "java/lang/String" "coder" "B" (.int 0)) (g_x : n0 ≤ x) (hch : ∀ i, ch i < 65536) (hR : Utf cb ft ch) (hy0 : cb < qb) (hy1 : qb ≤ 540) (hy2 : cb ≤ 264) :
    MF l Z h0 (⟨"java/lang/String", "<init>", "(Ljava/lang/AbstractStringBuilder;Ljava/lang/Void;)V"⟩ : MethodName) c63 5 none ws (rk 3 1 530 49) #[(.ref x), (.ref bb), .null] (Qin Z x cb ch h0 n0) := by
  refine sg n0 [x] pn_sia1 rfl (fun m => ef_sia1 m x bb) fun p e s m below meth c s₁ Bd hml hZ hh hx B hown hnm X0 e0 N K => ?_
  have n_bt : bb ≠ tb := (own_nev E_b (wv hw 74 rfl) V_t)
  let LL1 : Array Slot := #[.val (.ref x), .val (.ref bb), .val .null, .unset, .unset]
  refine sA 1 X0 hx (B d63_0) rfl rfl rfl ?_
  obtain ⟨T2, X2, e2, st2⟩ := initO X0 hx hZ hown (wv hw 17 rfl) (wv hw 18 rfl) (wv hw 19 rfl) e0 (g := (mkF m 1 LL1 [(.ref x)])) rfl (by rw [hml]; rfl) rfl (B d63_1) (by decide) (W := 0) (by show 2 * 0 + _ ≤ _; exact Nat.le_of_eq rfl) (by decide)
  refine gb m T2 4 LL1 [] (st2) ?_
  refine sA 5 X2 hx (B d63_4) rfl rfl rfl ?_
  obtain ⟨v3, T3, Lc3, X3, hQ3, st3⟩ := cV LL1 [] X2 hx hZ hown hw e2 hml E_b 196 197 199 198 83 200 rfl rfl rfl rfl rfl rfl (by decide) (rm_gv l Z a0 hw [] bb tb h0 n0 O E_b Fv_b) pd36 rfl rfl (B d63_5) rfl
  obtain ⟨rfl, Nq3, e3⟩ := hQ3
  replace N := Fr.app N Nq3
  refine gb m T3 8 LL1 [(.ref tb)] (st3) ?_
  let LL4 : Array Slot := #[.val (.ref x), .val (.ref bb), .val .null, .val (.ref tb), .unset]
  refine gb m T3 9 LL4 [] (fun _ k => XS.astoreN X3.here hx rfl (B d63_8) rfl rfl (l' := LL4) rfl k) ?_
  refine sA 10 X3 hx (B d63_9) rfl rfl rfl ?_
  obtain ⟨cq5, kq5, q5a, q5b, q5c⟩ := isOf hZ e3 E_b
  obtain ⟨v5, _, ⟨T5, L5, k5, n5⟩, -, X5, ⟨Lc5, hQ5, l5, y5, z5⟩, st5⟩ := X3.virtualBack hx (y := (⟨"java/lang/AbstractStringBuilder", "length", "()I"⟩ : MethodName)) (z := (⟨"java/lang/StringBuilder", "length", "()I"⟩ : MethodName)) hown (mvT hZ (wv hw 201 rfl)) (mvT hZ (wv hw 202 rfl)) (own_nf (y := (⟨"java/lang/AbstractStringBuilder", "length", "()I"⟩ : MethodName)) (args := #[]) (mvT hZ (wv hw 145 rfl)) rfl) (mvT hZ (wv hw 204 rfl)) (mvT hZ (wv hw 205 rfl)) (by decide) (backOf (W := 0) (rm_blen l Z a0 hw [] bb cb h0 n0 O E_b Fn_b) hZ (wv hw 206 rfl) (wv hw 75 rfl) (by decide) (by decide)) q5a q5c (g := (mkF m 10 LL4 [(.ref bb)])) rfl (by rw [hml]; rfl) (Steps.refl _) (argsL := []) (rest := []) (lenOf pd25 rfl) rfl (by show 2 * 0 + _ ≤ _; exact Nat.le_of_eq rfl) (B d63_10) (fun _ _ => ⟨rfl, e3, (by decide : 0 + 0 ≤ _), (by decide : 0 + 0 ≤ _)⟩)
  dsimp only [Pt.U, Pt.locs, Pt.cells, Pt.slots] at X5 l5 y5 z5 st5 hQ5
  rw [l5, y5, z5] at X5; clear l5 y5 z5
  obtain ⟨rfl, Nq5, e5⟩ := hQ5
  replace N := Fr.app N Nq5
  refine gb m T5 13 LL4 [(.int (nI cb))] (fun _ k => st5.trans k) ?_
  let LL6 : Array Slot := #[.val (.ref x), .val (.ref bb), .val .null, .val (.ref tb), .val (.int (nI cb))]
  refine gb m T5 15 LL6 [] (fun _ k => XS.istore X5.here hx rfl (B d63_13) rfl (l' := LL6) rfl k) ?_
  refine sA 16 X5 hx (B d63_15) rfl rfl rfl ?_
  obtain ⟨v7, T7, Lc7, X7, hQ7, st7⟩ := cV LL6 [] X5 hx hZ hown hw e5 hml E_b 209 210 212 211 83 213 rfl rfl rfl rfl rfl rfl (by decide) (rm_bl1 l Z a0 hw [] bb tb _ qb cb ft zc fm hS0 h0 n0 O E_b Fv_b Fc_b Fn_b Fm_b V_t E_t g_bb g_tb) pd18 rfl rfl (B d63_16) rfl
  obtain ⟨rfl, Nq7, e7⟩ := hQ7
  replace N := Fr.app N Nq7
  refine gb m T7 19 LL6 [(.int (0 : Int32))] (st7) ?_
  refine gb m T7 41 LL6 [] (fun _ k => XS.ifYes X7.here hx rfl (pc0 := 19) (pc' := 41) rfl (B d63_19) rfl ((if0 _ _).trans (teq (by decide : (0 : Int32) = (0 : Int32))).1) (by decide) (by decide) k) ?_
  obtain ⟨T9, X9, e9, st9⟩ := getS2 X7 hx hZ hown (host := "") (Or.inl (wv hw 20 rfl)) Via.refl e7 (Sta.ext O.2 hS0.1) (g := (mkF m 41 LL6 [])) rfl (B d63_41)
  refine gb m T9 44 LL6 [(.int zc)] (st9) ?_
  refine gb m T9 47 LL6 [] (fun _ k => XS.ifNo X9.here hx rfl (B d63_44) rfl ((if0 _ _).trans (feq hS0.2.1).1) k) ?_
  refine sA 48 X9 hx (B d63_47) rfl rfl rfl ?_
  obtain ⟨T11, X11, e11, st11⟩ := getF X9 hx hZ hown (host := "") (Or.inl (wv hw 311 rfl)) Via.refl e9 Fm_b (g := (mkF m 48 LL6 [(.ref bb)])) rfl rfl (B d63_48)
  refine gb m T11 51 LL6 [(.int (0 : Int32))] (st11) ?_
  refine gb m T11 79 LL6 [] (fun _ k => XS.ifYes X11.here hx rfl (pc0 := 51) (pc' := 79) rfl (B d63_51) rfl ((if0 _ _).trans (teq (by decide : (0 : Int32) = (0 : Int32))).1) (by decide) (by decide) k) ?_
  refine sA 80 X11 hx (B d63_79) rfl rfl rfl ?_
  refine sC 81 (1 : Int32) X11 hx (B d63_80) rfl rfl ?_
  obtain ⟨T13, h13, X13, e13, W13, st13⟩ := putFN X11 hx hZ hown (wv hw 32 rfl) Via.refl e11 Fc_x E_x (Or.inr ⟨(wv hw 33 rfl), rfl, hnm⟩) (wv hw 8 rfl) (ty := .byte) (v' := (.int (1 : Int32))) (by decide) rfl rfl (g := (mkF m 81 LL6 [(.int (1 : Int32)), (.ref x)])) rfl rfl (B d63_81)
  have nq14 : bb ≠ x := (ne_exa E_b E_x (by decide))
  have nq15 : tb ≠ x := (ne_exa E_t E_x (by decide))
  replace E_b := E_b.wr W13
  replace Fv_b := Fv_b.other W13 (Or.inl nq14)
  replace Fc_b := Fc_b.other W13 (Or.inl nq14)
  replace Fn_b := Fn_b.other W13 (Or.inl nq14)
  replace Fm_b := Fm_b.other W13 (Or.inl nq14)
  replace V_t := V_t.other W13 nq15
  replace E_t := E_t.wr W13
  replace E_x := E_x.wr W13
  replace Fv_x := Fv_x.other W13 (Or.inr (slot_ne (Or.inr (wv hw 35 rfl)) (Or.inr (wv hw 33 rfl)) (by decide) (t := (.array .byte)) (t' := .byte) (by decide) (by decide)))
  replace Fc_x := Fc_x.same W13
  replace O := O.wr W13 g_x
  replace K := K.wr W13 (Or.inl (by simp))
  replace N := Fr.snoc X13 N g_x
  refine gb m T13 84 LL6 [] (st13) ?_
  refine sA 85 X13 hx (B d63_84) rfl rfl rfl ?_
  refine sA 86 X13 hx (B d63_85) rfl rfl rfl ?_
  refine sC 87 (0 : Int32) X13 hx (B d63_86) rfl rfl ?_
  refine tI 89 X13 hx (B d63_87) rfl rfl ?_
  refine sC 90 (1 : Int32) X13 hx (B d63_89) rfl rfl ?_
  refine gb m T13 91 LL6 [(.int ((nI cb) <<< ((1 : Int32) &&& 31))), (.int (0 : Int32)), (.ref tb), (.ref x)] (fun _ k => XS.ishl X13.here hx rfl (B d63_90) rfl k) ?_
  rw [show ((nI cb) <<< ((1 : Int32) &&& 31)) = (nI (2 * cb)) from own_shl1 (a := cb) (by omega)]
  have hy16_0 : (2 * cb) < (2 * qb) := by omega
  have hy16_1 : (2 * qb) ≤ 1100 := by omega
  have hy16_2 : (2 * cb) ≤ 530 := by omega
  obtain ⟨v16, T16, Lc16, X16, hQ16, st16⟩ := cS LL6 [(.ref x)] X13 hx hZ hown hw e13 hml 214 109 110 111 rfl rfl rfl rfl (by decide) (rm_cor l Z a0 hw [] tb _ (2 * qb) ft (2 * cb) h13 n0 O V_t hy16_0 hy16_1 hy16_2) pd21 rfl rfl (B d63_91) rfl
  obtain ⟨r16, k216, fd16, rfl, Nq16, K16, gr16, Vr16, Er16, hP16⟩ := hQ16
  replace N := Fr.app N Nq16
  have ne_x_r16 : x ≠ r16 := Nat.ne_of_lt (Nat.lt_of_lt_of_le E_x.lt gr16)
  have sz_r16 : h0.size ≤ r16 := Nat.le_trans K.1 gr16
  replace E_b := E_b.keep K16
  replace Fv_b := Fv_b.keep K16 nin0
  replace Fc_b := Fc_b.keep K16 nin0
  replace Fn_b := Fn_b.keep K16 nin0
  replace Fm_b := Fm_b.keep K16 nin0
  replace V_t := V_t.keep K16 nin0
  replace E_t := E_t.keep K16
  replace E_x := E_x.keep K16
  replace Fv_x := Fv_x.keep K16 nin0
  replace Fc_x := Fc_x.keep K16 nin0
  replace O := O.keep K16 all0
  replace K := K.trans K16 all0
  refine gb m T16 94 LL6 [(.ref r16), (.ref x)] (st16) ?_
  obtain ⟨T17, h17, X17, e17, W17, st17⟩ := putF X16 hx hZ hown (host := "") (Or.inl (wv hw 34 rfl)) Via.refl rfl Fv_x E_x (Or.inr ⟨(wv hw 35 rfl), rfl, hnm⟩) (wv hw 8 rfl) (ty := (.array .byte)) (by decide) rfl rfl (g := (mkF m 94 LL6 [(.ref r16), (.ref x)])) rfl rfl (B d63_94)
  replace E_b := E_b.wr W17
  replace Fv_b := Fv_b.other W17 (Or.inl nq14)
  replace Fc_b := Fc_b.other W17 (Or.inl nq14)
  replace Fn_b := Fn_b.other W17 (Or.inl nq14)
  replace Fm_b := Fm_b.other W17 (Or.inl nq14)
  replace V_t := V_t.other W17 nq15
  replace E_t := E_t.wr W17
  replace E_x := E_x.wr W17
  replace Fc_x := Fc_x.other W17 (Or.inr (slot_ne (Or.inr (wv hw 33 rfl)) (Or.inr (wv hw 35 rfl)) (by decide) (t := .byte) (t' := (.array .byte)) (by decide) (by decide)))
  replace Vr16 := Vr16.other W17 (Ne.symm ne_x_r16)
  replace Er16 := Er16.wr W17
  replace Fv_x := Fv_x.same W17
  replace O := O.wr W17 g_x
  replace K := K.wr W17 (Or.inl (by simp))
  replace N := Fr.snoc X17 N g_x
  refine gb m T17 97 LL6 [] (st17) ?_
  obtain ⟨fs, hr, hrun, hended, hW, hsame⟩ := X17.leave (v := none) (fun _ => rfl)
  refine ⟨_, _, X17.returnOut hx Bd.returns (B d63_97) hr, hrun, hended, _, _, rfl, ?_, ⟨_, rfl⟩, hW, hsame.mono (by decide) (by decide)⟩
  show Qin Z x cb ch h0 n0 (none) T17.heap _
  rw [e17]
  exact ⟨rfl, N, K, r16, _, _, _, _, sz_r16, Fv_x, Fc_x, Vr16, Er16, Or.inr ⟨rfl, rfl, own_L1m hP16 (by omega) hR⟩⟩

theorem pn_sib1 : plainFor (⟨"java/lang/String", "<init>", "(Ljava/lang/StringBuilder;)V"⟩ : MethodName) = true := plainFor_of_name (by first | (simp [plainName, overriddenIn]; done) | decide +kernel)
theorem ef_sib1 (m : MethodId) (x0 : Addr) (x1 : Addr) : entryFrame m #[(.ref x0), (.ref x1)] 2 = mkF m 0 #[.val (.ref x0), .val (.ref x1)] [] := by first | (simp [entryFrame, mkF, argsToLocals, Value.category]; done) | rfl
theorem rm_sib1 (l : Launch) (Z : State) (a0 : Array Value) (hw : ∀ d ∈ tables_1, d.before a0 Z = true) (ws : List Jvm.Cond) (bb tb : Addr) (kt : ClassId) (qb cb : Nat) (ft : Nat → Int32) (ch : Nat → Nat) (x : Addr) (zc : Int32) (fm : Value) (hS0 : Sf Z zc fm) (h0 : Heap) (n0 : Nat) (O : Old Z n0 h0) (E_b : Exa Z h0 bb "java/lang/StringBuilder") (Fv_b : Fld Z h0 bb "java/lang/AbstractStringBuilder" "value" "[B" (.ref tb)) (Fc_b : Fld Z h0 bb "java/lang/AbstractStringBuilder" "coder" "B" (.int 1)) (Fn_b : Fld Z h0 bb "java/lang/AbstractStringBuilder" "count" "I" (.int (nI cb))) (Fm_b : Fld Z h0 bb "java/lang/AbstractStringBuilder" "maybeLatin1" "Z" (.int 0)) (V_t : Arv Z h0 tb kt .byte (nI (2 * qb)) (cont (2 * qb) ft) (.int 0)) (E_t : Exa Z h0 tb "[B") (g_bb : n0 ≤ bb) (g_tb : n0 ≤ tb) (E_x : Exa Z h0 x "java/lang/String") (Fv_x : Fld Z h0 x "java/lang/String" "value" "[B" .null) (Fc_x : Fld Z h0 x "java/lang/String" "coder" "B" (.int 0)) (g_x : n0 ≤ x) (hch : ∀ i, ch i < 65536) (hR : Utf cb ft ch) (hy0 : cb < qb) (hy1 : qb ≤ 540) (hy2 : cb ≤ 264) :
    MF l Z h0 (⟨"java/lang/String", "<init>", "(Ljava/lang/StringBuilder;)V"⟩ : MethodName) c64 2 none ws (rk 4 1 530 65) #[(.ref x), (.ref bb)] (Qin Z x cb ch h0 n0) := by
  refine sg n0 [x] pn_sib1 rfl (fun m => ef_sib1 m x bb) fun p e s m below meth c s₁ Bd hml hZ hh hx B hown hnm X0 e0 N K => ?_
  have n_bt : bb ≠ tb := (own_nev E_b (wv hw 74 rfl) V_t)
  let LL1 : Array Slot := #[.val (.ref x), .val (.ref bb)]
  refine sA 1 X0 hx (B d64_0) rfl rfl rfl ?_
  refine sA 2 X0 hx (B d64_1) rfl rfl rfl ?_
  refine gb m s₁ 3 LL1 [.null, (.ref bb), (.ref x)] (fun _ k => XS.aconstNull X0.here hx rfl (B d64_2) k) ?_
  have hy2_0 : cb < qb := by omega
  have hy2_1 : qb ≤ 540 := by omega
  have hy2_2 : cb ≤ 264 := by omega
  obtain ⟨v2, _, ⟨T2, L2, k2, n2⟩, -, X2, ⟨Lc2, hQ2, l2, y2, z2⟩, st2⟩ := X0.specialBack hx (y := (⟨"java/lang/String", "<init>", "(Ljava/lang/AbstractStringBuilder;Ljava/lang/Void;)V"⟩ : MethodName)) rfl hown (mvT hZ (wv hw 193 rfl)) (mvT hZ (wv hw 194 rfl)) (mvT hZ (wv hw 195 rfl)) (by decide) (backOf (W := 0) (rm_sia1 l Z a0 hw [] bb tb _ qb cb ft ch x zc fm hS0 h0 n0 O E_b Fv_b Fc_b Fn_b Fm_b V_t E_t g_bb g_tb E_x Fv_x Fc_x g_x hch hR hy2_0 hy2_1 hy2_2) hZ (wv hw 195 rfl) (wv hw 9 rfl) (by decide) (by decide)) (g := (mkF m 3 LL1 [.null, (.ref bb), (.ref x)])) rfl (by rw [hml]; rfl) (Steps.refl _) (a := x) (argsL := [(.ref bb), .null]) (rest := []) (lenOf pd37 rfl) rfl (by show 2 * 0 + _ ≤ _; exact Nat.le_of_eq rfl) (B d64_3) (fun _ _ => ⟨rfl, e0, (by decide : 0 + 1 ≤ _), (by decide : 0 + 530 ≤ _)⟩)
  dsimp only [Pt.U, Pt.locs, Pt.cells, Pt.slots] at X2 l2 y2 z2 st2 hQ2
  rw [l2, y2, z2] at X2; clear l2 y2 z2
  obtain ⟨rfl, Nq2, K2, r2, k22, cd2, lb2, fd2, gr2, Gv2, Gc2, Vr2, Er2, hR2⟩ := hQ2
  replace N := Fr.app N Nq2
  have sz_r2 : h0.size ≤ r2 := Nat.le_trans K.1 gr2
  have nq3 : bb ≠ x := (ne_exa E_b E_x (by decide))
  have nq4 : tb ≠ x := (ne_exa E_t E_x (by decide))
  replace E_b := E_b.keep K2
  replace Fv_b := Fv_b.keep K2 (ninS nq3 nin0)
  replace Fc_b := Fc_b.keep K2 (ninS nq3 nin0)
  replace Fn_b := Fn_b.keep K2 (ninS nq3 nin0)
  replace Fm_b := Fm_b.keep K2 (ninS nq3 nin0)
  replace V_t := V_t.keep K2 (ninS nq4 nin0)
  replace E_t := E_t.keep K2
  replace E_x := E_x.keep K2
  replace O := O.keep K2 (allS g_x all0)
  replace K := K.trans K2 (allS (Or.inl (by simp)) all0)
  refine gb m T2 6 LL1 [] (fun _ k => st2.trans k) ?_
  obtain ⟨fs, hr, hrun, hended, hW, hsame⟩ := X2.leave (v := none) (fun _ => rfl)
  refine ⟨_, _, X2.returnOut hx Bd.returns (B d64_6) hr, hrun, hended, _, _, rfl, ?_, ⟨_, rfl⟩, hW, hsame.mono (by decide) (by decide)⟩
  show Qin Z x cb ch h0 n0 (none) T2.heap _
  exact ⟨rfl, N, K, r2, _, _, _, _, sz_r2, Gv2, Gc2, Vr2, Er2, hR2⟩

theorem pn_tos1 : plainFor (⟨"java/lang/StringBuilder", "toString", "()Ljava/lang/String;"⟩ : MethodName) = true := plainFor_of_name (by first | (simp [plainName, overriddenIn]; done) | decide +kernel)
theorem ef_tos1 (m : MethodId) (x0 : Addr) : entryFrame m #[(.ref x0)] 1 = mkF m 0 #[.val (.ref x0)] [] := by first | (simp [entryFrame, mkF, argsToLocals, Value.category]; done) | rfl
theorem rm_tos1 (l : Launch) (Z : State) (a0 : Array Value) (hw : ∀ d ∈ tables_1, d.before a0 Z = true) (ws : List Jvm.Cond) (bb tb : Addr) (kt : ClassId) (qb cb : Nat) (ft : Nat → Int32) (ch : Nat → Nat) (zc : Int32) (fm : Value) (hS0 : Sf Z zc fm) (h0 : Heap) (n0 : Nat) (O : Old Z n0 h0) (E_b : Exa Z h0 bb "java/lang/StringBuilder") (Fv_b : Fld Z h0 bb "java/lang/AbstractStringBuilder" "value" "[B" (.ref tb)) (Fc_b : Fld Z h0 bb "java/lang/AbstractStringBuilder" "coder" "B" (.int 1)) (Fn_b : Fld Z h0 bb "java/lang/AbstractStringBuilder" "count" "I" (.int (nI cb))) (Fm_b : Fld Z h0 bb "java/lang/AbstractStringBuilder" "maybeLatin1" "Z" (.int 0)) (V_t : Arv Z h0 tb kt .byte (nI (2 * qb)) (cont (2 * qb) ft) (.int 0)) (E_t : Exa Z h0 tb "[B") (g_bb : n0 ≤ bb) (g_tb : n0 ≤ tb) (hch : ∀ i, ch i < 65536) (hR : Utf cb ft ch) (hy0 : cb < qb) (hy1 : qb ≤ 540) (hy2 : cb ≤ 264) :
    MF l Z h0 (⟨"java/lang/StringBuilder", "toString", "()Ljava/lang/String;"⟩ : MethodName) c65 1 (some (.object "java/lang/String")) ws (rk 5 2 534 79) #[(.ref bb)] (Qst Z cb ch h0 n0) := by
  refine sg n0 [] pn_tos1 rfl (fun m => ef_tos1 m bb) fun p e s m below meth c s₁ Bd hml hZ hh hx B hown hnm X0 e0 N K => ?_
  have n_bt : bb ≠ tb := (own_nev E_b (wv hw 74 rfl) V_t)
  let LL1 : Array Slot := #[.val (.ref bb)]
  obtain ⟨T2, h2, X2, e2, E2, A2, D2, -, st2⟩ := newO X0 hx hZ hown (wv hw 189 rfl) (wv hw 8 rfl) (wv hw 9 rfl) e0 (g := (mkF m 0 LL1 [])) rfl (B d65_0) (by decide) (by decide)
  obtain ⟨b2, g2⟩ : ∃ z, z = h0.size := ⟨_, rfl⟩
  rw [← g2] at A2 D2 st2
  have ne_bb_b2 : bb ≠ b2 := Nat.ne_of_lt (Nat.lt_of_lt_of_le E_b.lt (Nat.le_of_eq g2.symm))
  have ne_tb_b2 : tb ≠ b2 := Nat.ne_of_lt (Nat.lt_of_lt_of_le V_t.lt (Nat.le_of_eq g2.symm))
  have g_b2 : n0 ≤ b2 := Nat.le_trans (Old.le O) (Nat.le_of_eq g2.symm)
  have sz_b2 : h0.size ≤ b2 := Nat.le_trans K.1 (Nat.le_of_eq g2.symm)
  replace E_b := E_b.ext E2
  replace Fv_b := Fv_b.ext E2
  replace Fc_b := Fc_b.ext E2
  replace Fn_b := Fn_b.ext E2
  replace Fm_b := Fm_b.ext E2
  replace V_t := V_t.ext E2
  replace E_t := E_t.ext E2
  replace O := O.ext E2
  replace K := K.ext E2
  have E_b2 := A2
  have F_coder_b2 : Fld Z h2 b2 "java/lang/String" "coder" "B" (.int (0 : Int32)) := D2 (Or.inr (wv hw 33 rfl)) (ty := .byte) (by decide)
  have F_value_b2 : Fld Z h2 b2 "java/lang/String" "value" "[B" .null := D2 (Or.inr (wv hw 35 rfl)) (ty := (.array .byte)) (by decide)
  refine gb m T2 3 LL1 [(.ref b2)] (st2) ?_
  refine gb m T2 4 LL1 [(.ref b2), (.ref b2)] (fun _ k => XS.dup X2.here hx rfl (B d65_3) rfl rfl k) ?_
  refine sA 5 X2 hx (B d65_4) rfl rfl rfl ?_
  have hy3_0 : cb < qb := by omega
  have hy3_1 : qb ≤ 540 := by omega
  have hy3_2 : cb ≤ 264 := by omega
  obtain ⟨v3, _, ⟨T3, L3, k3, n3⟩, -, X3, ⟨Lc3, hQ3, l3, y3, z3⟩, st3⟩ := X2.specialBack hx (y := (⟨"java/lang/String", "<init>", "(Ljava/lang/StringBuilder;)V"⟩ : MethodName)) rfl hown (mvT hZ (wv hw 190 rfl)) (mvT hZ (wv hw 191 rfl)) (mvT hZ (wv hw 192 rfl)) (by decide) (backOf (W := 1) (rm_sib1 l Z a0 hw [] bb tb _ qb cb ft ch b2 zc fm hS0 h2 n0 O E_b Fv_b Fc_b Fn_b Fm_b V_t E_t g_bb g_tb E_b2 F_value_b2 F_coder_b2 g_b2 hch hR hy3_0 hy3_1 hy3_2) hZ (wv hw 192 rfl) (wv hw 9 rfl) (by decide) (by decide)) (g := (mkF m 5 LL1 [(.ref bb), (.ref b2), (.ref b2)])) rfl (by rw [hml]; rfl) (Steps.refl _) (a := b2) (argsL := [(.ref bb)]) (rest := [(.ref b2)]) (lenOf pd38 rfl) rfl (by show 2 * 0 + _ ≤ _; exact Nat.le_of_eq rfl) (B d65_5) (fun _ _ => ⟨rfl, e2, (by decide : 1 + 1 ≤ _), (by decide : 4 + 530 ≤ _)⟩)
  dsimp only [Pt.U, Pt.locs, Pt.cells, Pt.slots] at X3 l3 y3 z3 st3 hQ3
  rw [l3, y3, z3] at X3; clear l3 y3 z3
  obtain ⟨rfl, Nq3, K3, r3, k23, cd3, lb3, fd3, gr3, Gv3, Gc3, Vr3, Er3, hR3⟩ := hQ3
  replace N := Fr.app N Nq3
  have sz_r3 : h0.size ≤ r3 := Nat.le_trans K.1 gr3
  replace E_b := E_b.keep K3
  replace Fv_b := Fv_b.keep K3 (ninS ne_bb_b2 nin0)
  replace Fc_b := Fc_b.keep K3 (ninS ne_bb_b2 nin0)
  replace Fn_b := Fn_b.keep K3 (ninS ne_bb_b2 nin0)
  replace Fm_b := Fm_b.keep K3 (ninS ne_bb_b2 nin0)
  replace V_t := V_t.keep K3 (ninS ne_tb_b2 nin0)
  replace E_t := E_t.keep K3
  replace E_b2 := E_b2.keep K3
  replace O := O.keep K3 (allS g_b2 all0)
  replace K := K.trans K3 (allS (Or.inr sz_b2) all0)
  refine gb m T3 8 LL1 [(.ref b2)] (fun _ k => st3.trans k) ?_
  obtain ⟨fs, hr, hrun, hended, hW, hsame⟩ := X3.leave (v := some (.ref b2)) (fun h => by rw [Bd.returns] at h; cases h)
  refine ⟨_, _, retOut X3 hx Bd.returns rfl (Or.inr (Or.inr (Or.inr (Or.inr ⟨rfl, rfl, rfl⟩)))) (B d65_8) hr, hrun, hended, _, _, rfl, ?_, ⟨_, rfl⟩, hW, hsame.mono (by decide) (by decide)⟩
  show Qst Z cb ch h0 n0 (some (.ref b2)) T3.heap _
  exact ⟨_, _, _, _, _, _, rfl, N, K, sz_b2, sz_r3, E_b2, Gv3, Gc3, Vr3, Er3, hR3⟩

theorem own_safe_null {Z : State} {EL : List (String × Nat)} {vm : Vm} {h : Heap} {x : Addr} {a0 : Array Value} {n : Nat} (hal : Z.vm.Alike vm) (E : Exa Z h x "java/lang/String") (wi : (Cond.instantiable "java/lang/String" n).before a0 Z = true) (F : Fld Z h x "java/lang/String" "value" "[B" .null) : Safe Z EL vm h x := fun B => by
  obtain ⟨cell, k, e1, e2, e3, -, -⟩ := E
  obtain ⟨p, -, u, a, -, q, -, S, rfl | rfl⟩ := B
  · cases (show h[q.sa]? = some q.sC from S.ha).symm.trans e1
    obtain ⟨cS, ⟨⟨s1, s2, s3, ⟨cv, kv, iv, s4, s4'⟩, s5, s6, s7, s8, -⟩, -, -⟩, -⟩ := S
    obtain ⟨cell', cf, kf, i, f, f1, f2, -, -, -, -, f7⟩ := F
    cases e1.symm.trans f1
    obtain ⟨kz, z4⟩ := ff_back (Z := Z) hal s4
    cases f2.symm.trans z4
    cases f7.symm.trans s8
  · cases (show h[q.sd]? = some q.SA from S.hd).symm.trans e1
    obtain ⟨cS, ⟨⟨s1, s2, s3, ⟨cv, kv, iv, s4, s4'⟩, ⟨cc, kc, ic, s5, s5'⟩, s6, s7, s8, s9, s10, s11, s12, -⟩, -, -⟩, -⟩ := S
    obtain ⟨hst, k9, hk9, comp, hkind9⟩ := s11
    obtain ⟨t, kt, g1, g2, g3, -, -⟩ := Cond.instantiable_spec wi
    cases e2.symm.trans g1
    obtain ⟨k', hk', ek⟩ := hal.2.2 _ _ g2
    cases hk9.symm.trans hk'
    rw [ek] at hkind9
    have hq : kt.kind = _ := hkind9
    rw [g3] at hq; cases hq

theorem own_wS : ∀ d ∈ Bundle.stringAtoms, d ∈ tables_1 := by decide +kernel
def Qql (Z : State) (x : Addr) (xn : Nat) (ch : Nat → Nat) (h0 : Heap) (n0 : Nat) (v : Option Value) (h : Heap) (L : List Loc) : Prop := ∃ y : Addr, v = some (.ref y) ∧ Fr n0 L ∧ Keep h0 h [] ∧ ((Ej ch xn 256 = xn ∧ x = y) ∨ (Ej ch xn 256 < xn ∧ ∃ (r : Addr) (k' : ClassId) (cd : Int32) (lb : Nat) (f : Nat → Int32), Exa Z h y "java/lang/String" ∧ Fld Z h y "java/lang/String" "value" "[B" (.ref r) ∧ Fld Z h y "java/lang/String" "coder" "B" (.int cd) ∧ Arv Z h r k' .byte (Int32.ofNat lb) (cont lb f) (.int 0) ∧ Rp cd (Ej ch xn 256 + 3) lb f (chq ch (Ej ch xn 256))))
def Qs0 (Z : State) (x : Addr) (h0 : Heap) (n0 : Nat) (v : Option Value) (h : Heap) (L : List Loc) : Prop := v = none ∧ Fr n0 L ∧ Keep h0 h [x] ∧ ∃ (r : Addr) (k' : ClassId) (vs' : List Value), Fld Z h x "java/lang/String" "value" "[B" (.ref r) ∧ Fld Z h x "java/lang/String" "coder" "B" (.int 0) ∧ Arv Z h r k' .byte (Int32.ofNat 0) vs' (.int 0)
def Q1 (n0 : Nat) (v : Option Value) (h : Heap) (L : List Loc) : Prop := v = some (.int 1) ∧ Fr n0 L
theorem own_dots {Z : State} {h : Heap} {b : Addr} {k : ClassId} (V : Arv Z h b k .byte (Int32.ofNat 3) ("...".toList.map (fun c => Value.int (Jvm.Lit.byteI c.toNat.toUInt16))) (.int 0)) : Arv Z h b k .byte (Int32.ofNat 3) (cont 3 (fun _ => 46)) (.int 0) := by
  have e : "...".toList.map (fun c => Value.int (Jvm.Lit.byteI c.toNat.toUInt16)) = cont 3 (fun _ => 46) := by decide +kernel
  rw [← e]; exact V
theorem own_dotsR : Lat 3 (fun _ => 46) (fun _ => 46) := fun i hi => ⟨show (46 : Nat) < 256 by decide, show (46 : Int32) &&& 255 = Int32.ofNat 46 by decide⟩
theorem own_c46 : ∀ i : Nat, (fun _ : Nat => 46) i < 65536 := fun _ => show (46 : Nat) < 65536 by decide
theorem own_c00 : ∀ i : Nat, (fun _ : Nat => 0) i < 65536 := fun _ => show (0 : Nat) < 65536 by decide
theorem own_arv0 {Z : State} {h : Heap} {b : Addr} {k : ClassId} {vs : List Value} (f : Nat → Int32) (V : Arv Z h b k .byte (Int32.ofNat 0) vs (.int 0)) : Arv Z h b k .byte (Int32.ofNat 0) (cont 0 f) (.int 0) := by
  obtain ⟨c, A, q, S, n, H, G⟩ := V
  have e : c.slots.size = 0 := S
  exact ⟨c, A, q, S, n, fun i hi => absurd hi (by omega), fun i hi => absurd hi (by omega)⟩
theorem own_EjltX {ch : Nat → Nat} {n q : Nat} (hn : n = 260) (hc : ∀ i, i < 252 → ch i < 55296) (hq : q < 256) : Ej ch n q < n := by subst hn; exact own_Ejlt hc q hq
theorem own_EjX {ch : Nat → Nat} {n : Nat} (hn : n = 260) (hc : ∀ i, i < 252 → ch i < 55296) : 256 ≤ Ej ch n 256 ∧ Ej ch n 256 ≤ 260 := by subst hn; exact own_Ej256 hc
theorem own_app00 {f g : Nat → Int32} {ch : Nat → Nat} {n : Nat} (h : ∀ i, i < n → g (0 + i) = f i) (A : Lat n f ch) : Lat n g ch := own_L0m (fun i hi => by have := h i hi; rwa [Nat.zero_add] at this) (Nat.le_refl n) A

theorem d66_0 : decode c66 0 = .ok (.iconst 0, 1) := by decide +kernel
theorem d66_1 : decode c66 1 = .ok (.istore_n 1, 1) := by decide +kernel
theorem d66_2 : decode c66 2 = .ok (.iconst 0, 1) := by decide +kernel
theorem d66_3 : decode c66 3 = .ok (.istore_n 2, 1) := by decide +kernel
theorem d66_4 : decode c66 4 = .ok (.iload_n 2, 1) := by decide +kernel
theorem d66_5 : decode c66 5 = .ok (.sipush 256, 3) := by decide +kernel
theorem d66_8 : decode c66 8 = .ok (.if_icmp .ge 28, 3) := by decide +kernel
theorem d66_11 : decode c66 11 = .ok (.iload_n 1, 1) := by decide +kernel
theorem d66_12 : decode c66 12 = .ok (.aload_n 0, 1) := by decide +kernel
theorem d66_13 : decode c66 13 = .ok (.invokevirtual 9, 3) := by decide +kernel
theorem d66_16 : decode c66 16 = .ok (.if_icmp .ge 20, 3) := by decide +kernel
theorem d66_19 : decode c66 19 = .ok (.iload_n 1, 1) := by decide +kernel
theorem d66_20 : decode c66 20 = .ok (.aload_n 0, 1) := by decide +kernel
theorem d66_21 : decode c66 21 = .ok (.iload_n 1, 1) := by decide +kernel
theorem d66_22 : decode c66 22 = .ok (.invokevirtual 15, 3) := by decide +kernel
theorem d66_25 : decode c66 25 = .ok (.invokestatic 19, 3) := by decide +kernel
theorem d66_28 : decode c66 28 = .ok (.iadd, 1) := by decide +kernel
theorem d66_29 : decode c66 29 = .ok (.istore_n 1, 1) := by decide +kernel
theorem d66_30 : decode c66 30 = .ok (.iinc 2 1, 3) := by decide +kernel
theorem d66_33 : decode c66 33 = .ok (.goto (-29), 3) := by decide +kernel
theorem d66_36 : decode c66 36 = .ok (.iload_n 1, 1) := by decide +kernel
theorem d66_37 : decode c66 37 = .ok (.aload_n 0, 1) := by decide +kernel
theorem d66_38 : decode c66 38 = .ok (.invokevirtual 9, 3) := by decide +kernel
theorem d66_41 : decode c66 41 = .ok (.if_icmp .ne 7, 3) := by decide +kernel
theorem d66_44 : decode c66 44 = .ok (.aload_n 0, 1) := by decide +kernel
theorem d66_45 : decode c66 45 = .ok (.goto 27, 3) := by decide +kernel
theorem d66_72 : decode c66 72 = .ok (.areturn, 1) := by decide +kernel
theorem pn_qsU : plainFor (⟨"com/example/helvedir/helvedir/Diagnostic", "quote", "(Ljava/lang/String;)Ljava/lang/String;"⟩ : MethodName) = true := plainFor_of_name (by first | (simp [plainName, overriddenIn]; done) | decide +kernel)
theorem ef_qsU (m : MethodId) (x0 : Addr) : entryFrame m #[(.ref x0)] 3 = mkF m 0 #[.val (.ref x0), .unset, .unset] [] := by first | (simp [entryFrame, mkF, argsToLocals, Value.category]; done) | rfl
theorem rm_qsU (l : Launch) (Z : State) (a0 : Array Value) (hw : ∀ d ∈ tables_1, d.before a0 Z = true) (ws : List Jvm.Cond) (x tx : Addr) (kx : ClassId) (xn : Nat) (fx : Nat → Int32) (cd : Int32) (lb : Nat) (ch : Nat → Nat) (zc : Int32) (fm : Value) (hS0 : Sf Z zc fm) (h0 : Heap) (n0 : Nat) (O : Old Z n0 h0) (E_x : Exa Z h0 x "java/lang/String") (Fv_x : Fld Z h0 x "java/lang/String" "value" "[B" (.ref tx)) (Fc_x : Fld Z h0 x "java/lang/String" "coder" "B" (.int cd)) (V_tx : Arv Z h0 tx kx .byte (nI lb) (cont lb fx) (.int 0)) (hxn : xn ≤ 300) (hch : ∀ i, ch i < 65536) (hR : Rp cd xn lb fx ch) (hy0 : xn ≤ 256) :
    MF l Z h0 (⟨"com/example/helvedir/helvedir/Diagnostic", "quote", "(Ljava/lang/String;)Ljava/lang/String;"⟩ : MethodName) c66 3 (some (.object "java/lang/String")) ws (rk 4 0 0 59) #[(.ref x)] (Qpure (some (.ref x)) h0 n0) := by
  refine sg n0 [] pn_qsU rfl (fun m => ef_qsU m x) fun p e s m below meth c s₁ Bd hml hZ hh hx B hown hnm X0 e0 N K => ?_
  let LL1 : Array Slot := #[.val (.ref x), .unset, .unset]
  refine sC 1 (0 : Int32) X0 hx (B d66_0) rfl rfl ?_
  let LL2 : Array Slot := #[.val (.ref x), .val (.int (0 : Int32)), .unset]
  refine gb m s₁ 2 LL2 [] (fun _ k => XS.istoreN X0.here hx rfl (B d66_1) rfl (l' := LL2) rfl k) ?_
  refine sC 3 (0 : Int32) X0 hx (B d66_2) rfl rfl ?_
  let LL3 : Array Slot := #[.val (.ref x), .val (.int (0 : Int32)), .val (.int (0 : Int32))]
  refine gb m s₁ 4 LL3 [] (fun _ k => XS.istoreN X0.here hx rfl (B d66_3) rfl (l' := LL3) rfl k) ?_
  have LP4 : ∀ (fu4 : Nat) (q0 : Nat) (en0 : Nat) (Tq4 : State) (Lq4 : List Loc), (fu4 + q0 = 256) → (q0 ≤ en0) → (en0 ≤ xn) → (Stand p l e (rk 4 0 0 59) s m #[(.ref x)] below meth c Tq4 Lq4 0 0) → (Tq4.heap = h0) → (Fr n0 Lq4) → Go p e below (fun o U' => ∃ v L, o = .returned v ∧ Qpure (some (.ref x)) h0 n0 v U'.heap L ∧ FrameEnd s o U' L (rk 4 0 0 59).cells (rk 4 0 0 59).slots) Tq4 (mkF m 4 #[.val (.ref x), .val (.int (nI en0)), .val (.int (nI q0))] []) := by
   intro fu4
   induction fu4 with
   | zero =>
    intro q0 en0 Tq4 Lq4 hfu4 hi1 hi2 Xq4 eq4 N 
    refine sI 5 Xq4 hx (B d66_4) rfl rfl ?_
    refine sS 8 (256 : Int32) Xq4 hx (B d66_5) rfl rfl ?_
    refine gb m Tq4 36 #[.val (.ref x), .val (.int (nI en0)), .val (.int (nI q0))] [] (fun _ k => XS.icmpYes Xq4.here hx rfl (pc0 := 8) (pc' := 36) rfl (B d66_8) rfl (flt (mt (own_nlt (a := q0) (b := 256) (by omega) (by omega)).mp (by omega))).2.1 (by decide) (by decide) k) ?_
    refine sI 37 Xq4 hx (B d66_36) rfl rfl ?_
    refine sA 38 Xq4 hx (B d66_37) rfl rfl rfl ?_
    have hs6_x : xn ≤ 300 := by omega
    obtain ⟨v6, T6, Lc6, X6, hQ6, st6⟩ := cV #[.val (.ref x), .val (.int (nI en0)), .val (.int (nI q0))] [(.int (nI en0))] Xq4 hx hZ hown hw eq4 hml E_x 40 41 43 42 9 44 rfl rfl rfl rfl rfl rfl (by decide) (rm_slU l Z a0 hw [] x tx _ xn fx cd lb ch zc fm hS0 h0 n0 O E_x Fv_x Fc_x V_tx hs6_x hch hR) pd25 rfl rfl (B d66_38) rfl
    obtain ⟨rfl, Nq6, e6⟩ := hQ6
    replace N := Fr.app N Nq6
    refine gb m T6 41 #[.val (.ref x), .val (.int (nI en0)), .val (.int (nI q0))] [(.int (nI xn)), (.int (nI en0))] (st6) ?_
    refine gb m T6 44 #[.val (.ref x), .val (.int (nI en0)), .val (.int (nI q0))] [] (fun _ k => XS.icmpNo X6.here hx rfl (B d66_41) rfl (teq ((own_neq (a := en0) (b := xn) (by omega) (by omega)).mpr (by omega))).2 k) ?_
    refine sA 45 X6 hx (B d66_44) rfl rfl rfl ?_
    refine gb m T6 72 #[.val (.ref x), .val (.int (nI en0)), .val (.int (nI q0))] [(.ref x)] (fun _ k => XS.goto X6.here hx rfl (pc0 := 45) (pc' := 72) rfl (B d66_45) (by decide) (by decide) k) ?_
    obtain ⟨fs, hr, hrun, hended, hW, hsame⟩ := X6.leave (v := some (.ref x)) (fun h => by rw [Bd.returns] at h; cases h)
    refine ⟨_, _, retOut X6 hx Bd.returns rfl (Or.inr (Or.inr (Or.inr (Or.inr ⟨rfl, rfl, rfl⟩)))) (B d66_72) hr, hrun, hended, _, _, rfl, ?_, ⟨_, rfl⟩, hW, hsame.mono (by decide) (by decide)⟩
    show Qpure (some (.ref x)) h0 n0 (some (.ref x)) T6.heap _
    rw [e6]
    exact ⟨rfl, N, rfl⟩
   | succ fu4 ih =>
    intro q0 en0 Tq4 Lq4 hfu4 hi1 hi2 Xq4 eq4 N 
    refine sI 5 Xq4 hx (B d66_4) rfl rfl ?_
    refine sS 8 (256 : Int32) Xq4 hx (B d66_5) rfl rfl ?_
    refine gb m Tq4 11 #[.val (.ref x), .val (.int (nI en0)), .val (.int (nI q0))] [] (fun _ k => XS.icmpNo Xq4.here hx rfl (B d66_8) rfl (tlt ((own_nlt (a := q0) (b := 256) (by omega) (by omega)).mpr (by omega))).2.1 k) ?_
    refine sI 12 Xq4 hx (B d66_11) rfl rfl ?_
    refine sA 13 Xq4 hx (B d66_12) rfl rfl rfl ?_
    have hs9_x : xn ≤ 300 := by omega
    obtain ⟨v9, T9, Lc9, X9, hQ9, st9⟩ := cV #[.val (.ref x), .val (.int (nI en0)), .val (.int (nI q0))] [(.int (nI en0))] Xq4 hx hZ hown hw eq4 hml E_x 40 41 43 42 9 44 rfl rfl rfl rfl rfl rfl (by decide) (rm_slU l Z a0 hw [] x tx _ xn fx cd lb ch zc fm hS0 h0 n0 O E_x Fv_x Fc_x V_tx hs9_x hch hR) pd25 rfl rfl (B d66_13) rfl
    obtain ⟨rfl, Nq9, e9⟩ := hQ9
    replace N := Fr.app N Nq9
    refine gb m T9 16 #[.val (.ref x), .val (.int (nI en0)), .val (.int (nI q0))] [(.int (nI xn)), (.int (nI en0))] (st9) ?_
    by_cases hc16_10 : en0 < xn
    ·
     refine gb m T9 19 #[.val (.ref x), .val (.int (nI en0)), .val (.int (nI q0))] [] (fun _ k => XS.icmpNo X9.here hx rfl (B d66_16) rfl (tlt ((own_nlt (a := en0) (b := xn) (by omega) (by omega)).mpr hc16_10)).2.1 k) ?_
     refine sI 20 X9 hx (B d66_19) rfl rfl ?_
     refine sA 21 X9 hx (B d66_20) rfl rfl rfl ?_
     refine sI 22 X9 hx (B d66_21) rfl rfl ?_
     have hs11_x : xn ≤ 300 := by omega
     have hy11_0 : en0 < xn := by omega
     obtain ⟨v11, T11, Lc11, X11, hQ11, st11⟩ := cV #[.val (.ref x), .val (.int (nI en0)), .val (.int (nI q0))] [(.int (nI en0))] X9 hx hZ hown hw e9 hml E_x 50 51 53 52 9 54 rfl rfl rfl rfl rfl rfl (by decide) (rm_cpaU l Z a0 hw [] x tx _ xn fx cd lb ch en0 zc fm hS0 h0 n0 O E_x Fv_x Fc_x V_tx hs11_x hch hR hy11_0) pd6 rfl rfl (B d66_22) rfl
     obtain ⟨rc11, rfl, Nq11, e11, hrc11, hpr11⟩ := hQ11
     replace N := Fr.app N Nq11
     refine gb m T11 25 #[.val (.ref x), .val (.int (nI en0)), .val (.int (nI q0))] [(.int (nI rc11)), (.int (nI en0))] (st11) ?_
     have hy12_0 : rc11 < 2147483648 := by omega
     obtain ⟨v12, T12, Lc12, X12, hQ12, st12⟩ := cS #[.val (.ref x), .val (.int (nI en0)), .val (.int (nI q0))] [(.int (nI en0))] X11 hx hZ hown hw e11 hml 68 69 70 71 rfl rfl rfl rfl (by decide) (rm_cc l Z a0 hw [] rc11   h0 n0 O hy12_0) pd6 rfl rfl (B d66_25) rfl
     obtain ⟨rfl, Nq12, e12⟩ := hQ12
     replace N := Fr.app N Nq12
     refine gb m T12 28 #[.val (.ref x), .val (.int (nI en0)), .val (.int (nI q0))] [(.int (nI (cct rc11))), (.int (nI en0))] (st12) ?_
     refine gb m T12 29 #[.val (.ref x), .val (.int (nI en0)), .val (.int (nI q0))] [(.int ((nI en0) + (nI (cct rc11))))] (fun _ k => XS.iadd X12.here hx rfl (B d66_28) rfl k) ?_
     rw [show ((nI en0) + (nI (cct rc11))) = (nI (en0 + (cct rc11))) from own_add _ _]
     let LL13 : Array Slot := #[.val (.ref x), .val (.int (nI (en0 + (cct rc11)))), .val (.int (nI q0))]
     refine gb m T12 30 LL13 [] (fun _ k => XS.istoreN X12.here hx rfl (B d66_29) rfl (l' := LL13) rfl k) ?_
     refine gb m T12 33 #[.val (.ref x), .val (.int (nI (en0 + (cct rc11)))), .val (.int ((nI q0) + (1 : Int32)))] [] (fun _ k => XS.iinc X12.here hx rfl (B d66_30) rfl (l' := #[.val (.ref x), .val (.int (nI (en0 + (cct rc11)))), .val (.int ((nI q0) + (1 : Int32)))]) rfl k) ?_
     rw [show ((nI q0) + (1 : Int32)) = (nI (q0 + 1)) from own_add _ _]
     refine gb m T12 4 #[.val (.ref x), .val (.int (nI (en0 + (cct rc11)))), .val (.int (nI (q0 + 1)))] [] (fun _ k => XS.goto X12.here hx rfl (pc0 := 33) (pc' := 4) rfl (B d66_33) (by decide) (by decide) k) ?_
     have q9 := own_adv ch xn en0
     have q8 := own_advc hpr11
     exact ih (q0 + 1) (en0 + cct rc11) T12 _ (by omega) (by omega) (by omega) X12 e12 N 
    ·
     refine gb m T9 36 #[.val (.ref x), .val (.int (nI en0)), .val (.int (nI q0))] [] (fun _ k => XS.icmpYes X9.here hx rfl (pc0 := 16) (pc' := 36) rfl (B d66_16) rfl (flt (mt (own_nlt (a := en0) (b := xn) (by omega) (by omega)).mp hc16_10)).2.1 (by decide) (by decide) k) ?_
     refine sI 37 X9 hx (B d66_36) rfl rfl ?_
     refine sA 38 X9 hx (B d66_37) rfl rfl rfl ?_
     have hs14_x : xn ≤ 300 := by omega
     obtain ⟨v14, T14, Lc14, X14, hQ14, st14⟩ := cV #[.val (.ref x), .val (.int (nI en0)), .val (.int (nI q0))] [(.int (nI en0))] X9 hx hZ hown hw e9 hml E_x 40 41 43 42 9 44 rfl rfl rfl rfl rfl rfl (by decide) (rm_slU l Z a0 hw [] x tx _ xn fx cd lb ch zc fm hS0 h0 n0 O E_x Fv_x Fc_x V_tx hs14_x hch hR) pd25 rfl rfl (B d66_38) rfl
     obtain ⟨rfl, Nq14, e14⟩ := hQ14
     replace N := Fr.app N Nq14
     refine gb m T14 41 #[.val (.ref x), .val (.int (nI en0)), .val (.int (nI q0))] [(.int (nI xn)), (.int (nI en0))] (st14) ?_
     refine gb m T14 44 #[.val (.ref x), .val (.int (nI en0)), .val (.int (nI q0))] [] (fun _ k => XS.icmpNo X14.here hx rfl (B d66_41) rfl (teq ((own_neq (a := en0) (b := xn) (by omega) (by omega)).mpr (by omega))).2 k) ?_
     refine sA 45 X14 hx (B d66_44) rfl rfl rfl ?_
     refine gb m T14 72 #[.val (.ref x), .val (.int (nI en0)), .val (.int (nI q0))] [(.ref x)] (fun _ k => XS.goto X14.here hx rfl (pc0 := 45) (pc' := 72) rfl (B d66_45) (by decide) (by decide) k) ?_
     obtain ⟨fs, hr, hrun, hended, hW, hsame⟩ := X14.leave (v := some (.ref x)) (fun h => by rw [Bd.returns] at h; cases h)
     refine ⟨_, _, retOut X14 hx Bd.returns rfl (Or.inr (Or.inr (Or.inr (Or.inr ⟨rfl, rfl, rfl⟩)))) (B d66_72) hr, hrun, hended, _, _, rfl, ?_, ⟨_, rfl⟩, hW, hsame.mono (by decide) (by decide)⟩
     show Qpure (some (.ref x)) h0 n0 (some (.ref x)) T14.heap _
     rw [e14]
     exact ⟨rfl, N, rfl⟩
  exact LP4 256 0 0 s₁ _ (by omega) (Nat.le_refl 0) (Nat.zero_le _) X0 e0 N 

theorem d66_48 : decode c66 48 = .ok (.new 24, 3) := by decide +kernel
theorem d66_51 : decode c66 51 = .ok (.dup, 1) := by decide +kernel
theorem d66_52 : decode c66 52 = .ok (.invokespecial 26, 3) := by decide +kernel
theorem d66_55 : decode c66 55 = .ok (.aload_n 0, 1) := by decide +kernel
theorem d66_56 : decode c66 56 = .ok (.iconst 0, 1) := by decide +kernel
theorem d66_57 : decode c66 57 = .ok (.iload_n 1, 1) := by decide +kernel
theorem d66_58 : decode c66 58 = .ok (.invokevirtual 27, 3) := by decide +kernel
theorem d66_61 : decode c66 61 = .ok (.invokevirtual 31, 3) := by decide +kernel
theorem d66_64 : decode c66 64 = .ok (.ldc 35, 2) := by decide +kernel
theorem d66_66 : decode c66 66 = .ok (.invokevirtual 31, 3) := by decide +kernel
theorem d66_69 : decode c66 69 = .ok (.invokevirtual 37, 3) := by decide +kernel
theorem pn_qlU : plainFor (⟨"com/example/helvedir/helvedir/Diagnostic", "quote", "(Ljava/lang/String;)Ljava/lang/String;"⟩ : MethodName) = true := plainFor_of_name (by first | (simp [plainName, overriddenIn]; done) | decide +kernel)
theorem pd39 : parseMethodDescriptor "(II)Ljava/lang/String;" = some ⟨[.int, .int], some (.object "java/lang/String")⟩ := by decide +kernel
theorem pd40 : parseMethodDescriptor "(Ljava/lang/String;)Ljava/lang/StringBuilder;" = some ⟨[(.object "java/lang/String")], some (.object "java/lang/StringBuilder")⟩ := by decide +kernel
theorem pd41 : parseMethodDescriptor "()Ljava/lang/String;" = some ⟨[], some (.object "java/lang/String")⟩ := by decide +kernel
theorem ef_qlU (m : MethodId) (x0 : Addr) : entryFrame m #[(.ref x0)] 3 = mkF m 0 #[.val (.ref x0), .unset, .unset] [] := by first | (simp [entryFrame, mkF, argsToLocals, Value.category]; done) | rfl
theorem rm_qlU (l : Launch) (Z : State) (a0 : Array Value) (hw : ∀ d ∈ tables_1, d.before a0 Z = true) (ws : List Jvm.Cond) (hEL : EW Z a0 consts_1) (x tx : Addr) (kx : ClassId) (xn : Nat) (fx : Nat → Int32) (cd : Int32) (lb : Nat) (ch : Nat → Nat) (zc : Int32) (fm : Value) (hS0 : Sf Z zc fm) (h0 : Heap) (n0 : Nat) (O : Old Z n0 h0) (E_x : Exa Z h0 x "java/lang/String") (Fv_x : Fld Z h0 x "java/lang/String" "value" "[B" (.ref tx)) (Fc_x : Fld Z h0 x "java/lang/String" "coder" "B" (.int cd)) (V_tx : Arv Z h0 tx kx .byte (nI lb) (cont lb fx) (.int 0)) (hxn : xn ≤ 300) (hch : ∀ i, ch i < 65536) (hR : Rp cd xn lb fx ch) (hx260 : xn = 260) (hlow : ∀ i, i < 252 → ch i < 55296) :
    MetFree l (⟨"com/example/helvedir/helvedir/Diagnostic", "quote", "(Ljava/lang/String;)Ljava/lang/String;"⟩ : MethodName) (head1 (Jvm.Cond.code (⟨"com/example/helvedir/helvedir/Diagnostic", "quote", "(Ljava/lang/String;)Ljava/lang/String;"⟩ : MethodName) prog_2_method_2_code 3 (some (.object "java/lang/String")) :: ws) (rk 10 12 4604 143)) (fun as_ U => as_ = #[(.ref x)] ∧ Z.Warmed39 U.vm ∧ U.heap = h0 ∧ CHv Z consts_1 U.vm h0) (fun _ _ _ _ _ => True) (fun _ U o U' => ∃ v L, o = .returned v ∧ Qql Z x xn ch h0 n0 v U'.heap L ∧ CHr Z consts_1 U.vm U.heap U'.vm U'.heap ∧ ReturnedEndW U o U' L (rk 10 12 4604 143).cells (rk 10 12 4604 143).slots) := by
  refine MetFree.of_bodySF pn_qlU hisR ?_
  intro p e s m args below meth c s₁ Bd hml0 hP hK
  obtain ⟨rfl, hZ, hh, H0⟩ := hP
  have hx := Bd.exec
  have hby := Bd.bytes
  have hml : c.maxLocals = 3 := hml0
  have hown : s.vm.findClass "com/example/helvedir/helvedir/Diagnostic" = some m.cls := findClass_of_methodNamed Bd.named
  have hnm := (name_of_methodNamed Bd.named Bd.method).1
  have X0 : Stand p l e (rk 10 12 4604 143) (s.setVm s.vm) m #[(.ref x)] below meth c s₁ [] 0 0 := Stand.of_body Bd
  have e0 : s₁.heap = h0 := by rw [← hh, Bd.state]; rfl
  replace hZ : Z.Warmed39 (s.setVm s.vm).vm := hZ
  replace hown : (s.setVm s.vm).vm.findClass "com/example/helvedir/helvedir/Diagnostic" = some m.cls := hown
  have N := Fr.nil n0
  have hS : s.Since s.vm s.heap.size := (State.WarmedH.refl s).since _
  have hk : s.heap.size ≤ h0.size := Nat.le_of_eq (by rw [hh])
  have C : CHr Z consts_1 s.vm h0 s.vm h0 := CHr.refl H0
  have K : Keep h0 h0 [] := Keep.refl _ _
  refine gb m s₁ 0 #[.val (.ref x), .unset, .unset] [] (fun _ k => castTop (ef_qlU m x) k) ?_
  let LL1 : Array Slot := #[.val (.ref x), .unset, .unset]
  refine sC 1 (0 : Int32) X0 hx (hb hby d66_0) rfl rfl ?_
  let LL2 : Array Slot := #[.val (.ref x), .val (.int (0 : Int32)), .unset]
  refine gb m s₁ 2 LL2 [] (fun _ k => XS.istoreN X0.here hx rfl (hb hby d66_1) rfl (l' := LL2) rfl k) ?_
  refine sC 3 (0 : Int32) X0 hx (hb hby d66_2) rfl rfl ?_
  let LL3 : Array Slot := #[.val (.ref x), .val (.int (0 : Int32)), .val (.int (0 : Int32))]
  refine gb m s₁ 4 LL3 [] (fun _ k => XS.istoreN X0.here hx rfl (hb hby d66_3) rfl (l' := LL3) rfl k) ?_
  have LP4 : ∀ (fu4 : Nat) (q0 : Nat) (en0 : Nat) (Tq4 : State) (Lq4 : List Loc), (fu4 + q0 = 256) → (en0 = Ej ch xn q0) → (Stand p l e (rk 10 12 4604 143) (s.setVm s.vm) m #[(.ref x)] below meth c Tq4 Lq4 0 0) → (Tq4.heap = h0) → (Fr n0 Lq4) → Go p e below (fun o U' => ∃ v L, o = .returned v ∧ Qql Z x xn ch h0 n0 v U'.heap L ∧ CHr Z consts_1 s.vm s.heap U'.vm U'.heap ∧ ReturnedEndW s o U' L (rk 10 12 4604 143).cells (rk 10 12 4604 143).slots) Tq4 (mkF m 4 #[.val (.ref x), .val (.int (nI en0)), .val (.int (nI q0))] []) := by
   intro fu4
   induction fu4 with
   | zero =>
    intro q0 en0 Tq4 Lq4 hfu4 hEn Xq4 eq4 N 
    refine sI 5 Xq4 hx (hb hby d66_4) rfl rfl ?_
    refine sS 8 (256 : Int32) Xq4 hx (hb hby d66_5) rfl rfl ?_
    refine gb m Tq4 36 #[.val (.ref x), .val (.int (nI en0)), .val (.int (nI q0))] [] (fun _ k => XS.icmpYes Xq4.here hx rfl (pc0 := 8) (pc' := 36) rfl (hb hby d66_8) rfl (flt (mt (own_nlt (a := q0) (b := 256) (by omega) (by omega)).mp (by omega))).2.1 (by decide) (by decide) k) ?_
    have hq256 : q0 = 256 := by omega
    have hE1 : en0 = Ej ch xn 256 := by rw [← hq256]; exact hEn
    have hE2 := own_EjX hx260 hlow
    refine sI 37 Xq4 hx (hb hby d66_36) rfl rfl ?_
    refine sA 38 Xq4 hx (hb hby d66_37) rfl rfl rfl ?_
    have hs6_x : xn ≤ 300 := by omega
    obtain ⟨v6, T6, Lc6, X6, hQ6, st6⟩ := cV #[.val (.ref x), .val (.int (nI en0)), .val (.int (nI q0))] [(.int (nI en0))] Xq4 hx hZ hown hw eq4 hml E_x 40 41 43 42 9 44 rfl rfl rfl rfl rfl rfl (by decide) (rm_slU l Z a0 hw [] x tx _ xn fx cd lb ch zc fm hS0 h0 n0 O E_x Fv_x Fc_x V_tx hs6_x hch hR) pd25 rfl rfl (hb hby d66_38) rfl
    obtain ⟨rfl, Nq6, e6⟩ := hQ6
    replace N := Fr.app N Nq6
    refine gb m T6 41 #[.val (.ref x), .val (.int (nI en0)), .val (.int (nI q0))] [(.int (nI xn)), (.int (nI en0))] (st6) ?_
    by_cases hc41_7 : en0 = xn
    ·
     refine gb m T6 44 #[.val (.ref x), .val (.int (nI en0)), .val (.int (nI q0))] [] (fun _ k => XS.icmpNo X6.here hx rfl (hb hby d66_41) rfl (teq ((own_neq (a := en0) (b := xn) (by omega) (by omega)).mpr hc41_7)).2 k) ?_
     refine sA 45 X6 hx (hb hby d66_44) rfl rfl rfl ?_
     refine gb m T6 72 #[.val (.ref x), .val (.int (nI en0)), .val (.int (nI q0))] [(.ref x)] (fun _ k => XS.goto X6.here hx rfl (pc0 := 45) (pc' := 72) rfl (hb hby d66_45) (by decide) (by decide) k) ?_
     obtain ⟨fs, hr, hrun, hended, q1, q2, q3, q4⟩ := X6.leaveW hS (by rw [e6]; exact hk) (v := some (.ref x)) (fun h => by rw [Bd.returns] at h; cases h)
     refine ⟨_, _, retOut X6 hx Bd.returns rfl (Or.inr (Or.inr (Or.inr (Or.inr ⟨rfl, rfl, rfl⟩)))) (hb hby d66_72) hr, hrun, hended, _, _, rfl, ?_, ?_, q1, q2, q3, q4.mono (by decide) (by decide)⟩
     · show Qql Z x xn ch h0 n0 (some (.ref x)) T6.heap _
       rw [e6]
       exact ⟨x, rfl, N, K, Or.inl ⟨by omega, rfl⟩⟩
     · show CHr Z consts_1 s.vm s.heap T6.vm T6.heap
       rw [e6, hh]
       exact C.trans (CHv.at X6 hZ hEL C.1)
    ·
     refine gb m T6 48 #[.val (.ref x), .val (.int (nI en0)), .val (.int (nI q0))] [] (fun _ k => XS.icmpYes X6.here hx rfl (pc0 := 41) (pc' := 48) rfl (hb hby d66_41) rfl (feq (mt (own_neq (a := en0) (b := xn) (by omega) (by omega)).mp hc41_7)).2 (by decide) (by decide) k) ?_
     obtain ⟨T8, h8, X8, e8, E8, A8, D8, -, st8⟩ := newO X6 hx hZ hown (wv hw 73 rfl) (wv hw 74 rfl) (wv hw 75 rfl) e6 (g := (mkF m 48 #[.val (.ref x), .val (.int (nI en0)), .val (.int (nI q0))] [])) rfl (hb hby d66_48) (by decide) (by decide)
     obtain ⟨b8, g8⟩ : ∃ z, z = h0.size := ⟨_, rfl⟩
     rw [← g8] at A8 D8 st8
     have ne_x_b8 : x ≠ b8 := Nat.ne_of_lt (Nat.lt_of_lt_of_le E_x.lt (Nat.le_of_eq g8.symm))
     have ne_tx_b8 : tx ≠ b8 := Nat.ne_of_lt (Nat.lt_of_lt_of_le V_tx.lt (Nat.le_of_eq g8.symm))
     have g_b8 : n0 ≤ b8 := Nat.le_trans (Old.le O) (Nat.le_of_eq g8.symm)
     have sz_b8 : h0.size ≤ b8 := Nat.le_trans K.1 (Nat.le_of_eq g8.symm)
     have Sf_b8 : Safe Z consts_1 s.vm h0 b8 := Safe.new (Nat.le_of_eq g8.symm)
     replace E_x := E_x.ext E8
     replace Fv_x := Fv_x.ext E8
     replace Fc_x := Fc_x.ext E8
     replace V_tx := V_tx.ext E8
     replace Sf_b8 := Safe.ext E8 C.1 Sf_b8
     replace O := O.ext E8
     replace K := K.ext E8
     replace C := C.trans (CHr.ext E8 C.1)
     replace hk := Nat.le_trans hk E8.1
     have E_b8 := A8
     have F_value_b8 : Fld Z h8 b8 "java/lang/AbstractStringBuilder" "value" "[B" .null := D8 (Or.inl (wv hw 88 rfl)) (ty := (.array .byte)) (by decide)
     have F_coder_b8 : Fld Z h8 b8 "java/lang/AbstractStringBuilder" "coder" "B" (.int (0 : Int32)) := D8 (Or.inl (wv hw 90 rfl)) (ty := .byte) (by decide)
     have F_count_b8 : Fld Z h8 b8 "java/lang/AbstractStringBuilder" "count" "I" (.int (0 : Int32)) := D8 (Or.inl (wv hw 141 rfl)) (ty := .int) (by decide)
     have F_maybeLatin1_b8 : Fld Z h8 b8 "java/lang/AbstractStringBuilder" "maybeLatin1" "Z" (.int (0 : Int32)) := D8 (Or.inl (wv hw 312 rfl)) (ty := .boolean) (by decide)
     refine gb m T8 51 #[.val (.ref x), .val (.int (nI en0)), .val (.int (nI q0))] [(.ref b8)] (st8) ?_
     refine gb m T8 52 #[.val (.ref x), .val (.int (nI en0)), .val (.int (nI q0))] [(.ref b8), (.ref b8)] (fun _ k => XS.dup X8.here hx rfl (hb hby d66_51) rfl rfl k) ?_
     obtain ⟨v9, _, ⟨T9, L9, k9, n9⟩, -, X9, ⟨Lc9, hQ9, l9, y9, z9⟩, st9⟩ := X8.specialBack hx (y := (⟨"java/lang/StringBuilder", "<init>", "()V"⟩ : MethodName)) rfl hown (mvT hZ (wv hw 76 rfl)) (mvT hZ (wv hw 77 rfl)) (mvT hZ (wv hw 78 rfl)) (by decide) (backOf (W := 1) (rm_sbi l Z a0 hw [] b8 zc fm hS0 h8 n0 O E_b8 F_value_b8 F_coder_b8 F_count_b8 F_maybeLatin1_b8 g_b8) hZ (wv hw 78 rfl) (wv hw 75 rfl) (by decide) (by decide)) (g := (mkF m 52 #[.val (.ref x), .val (.int (nI en0)), .val (.int (nI q0))] [(.ref b8), (.ref b8)])) rfl (by rw [hml]; rfl) (Steps.refl _) (a := b8) (argsL := []) (rest := [(.ref b8)]) (lenOf pd31 rfl) rfl (by show 2 * 0 + _ ≤ _; exact Nat.le_of_eq rfl) (hb hby d66_52) (fun _ _ => ⟨rfl, e8, (by decide : 1 + 1 ≤ _), (by decide : 4 + 16 ≤ _)⟩)
     dsimp only [Pt.U, Pt.locs, Pt.cells, Pt.slots] at X9 l9 y9 z9 st9 hQ9
     rw [l9, y9, z9] at X9; clear l9 y9 z9
     obtain ⟨rfl, Nq9, K9, t9, k29, fd9, gt9, Gv9, Gc9, Gn9, Gm9, Vt9, Et9, hP9⟩ := hQ9
     replace N := Fr.app N Nq9
     have ne_b8_t9 : b8 ≠ t9 := Nat.ne_of_lt (Nat.lt_of_lt_of_le E_b8.lt gt9)
     have g_t9 : n0 ≤ t9 := Nat.le_trans (Old.le O) gt9
     have Sf_t9 : Safe Z consts_1 s.vm h8 t9 := Safe.new gt9
     have hs_K9 : ∀ x ∈ ([b8] : List Addr), Safe Z consts_1 s.vm h8 x := (sfS Sf_b8 sf0)
     have Sk_K9 := CHr.keep (Z := Z) (EL := consts_1) (vm := s.vm) K9 hs_K9 C.1
     replace Sf_b8 := Safe.keep K9 hs_K9 C.1 Sf_b8
     replace Sf_t9 := Safe.keep K9 hs_K9 C.1 Sf_t9
     replace E_x := E_x.keep K9
     replace Fv_x := Fv_x.keep K9 (ninS ne_x_b8 nin0)
     replace Fc_x := Fc_x.keep K9 (ninS ne_x_b8 nin0)
     replace V_tx := V_tx.keep K9 (ninS ne_tx_b8 nin0)
     replace E_b8 := E_b8.keep K9
     replace C := C.trans Sk_K9
     replace hk := Nat.le_trans hk K9.1
     replace O := O.keep K9 (allS g_b8 all0)
     replace K := K.trans K9 (allS (Or.inr sz_b8) all0)
     refine gb m T9 55 #[.val (.ref x), .val (.int (nI en0)), .val (.int (nI q0))] [(.ref b8)] (fun _ k => st9.trans k) ?_
     refine sA 56 X9 hx (hb hby d66_55) rfl rfl rfl ?_
     refine sC 57 (0 : Int32) X9 hx (hb hby d66_56) rfl rfl ?_
     refine sI 58 X9 hx (hb hby d66_57) rfl rfl ?_
     have hs10_x : xn ≤ 300 := by omega
     have hy10_0 : en0 < xn := by omega
     have hy10_1 : xn ≤ 260 := by omega
     have hy10_2 : 0 < en0 := by omega
     obtain ⟨v10, T10, Lc10, X10, hQ10, st10⟩ := cV #[.val (.ref x), .val (.int (nI en0)), .val (.int (nI q0))] [(.ref b8)] X9 hx hZ hown hw rfl hml E_x 91 92 94 93 9 95 rfl rfl rfl rfl rfl rfl (by decide) (rm_subU l Z a0 hw [] x tx _ xn fx cd lb ch en0 zc fm hS0 T9.heap n0 O E_x Fv_x Fc_x V_tx hs10_x hch hR hy10_0 hy10_1 hy10_2) pd39 rfl rfl (hb hby d66_58) rfl
     obtain ⟨x10, r10, k210, cd10, lb10, fd10, rfl, Nq10, K10, gx10, gr10, Ex10, Gv10, Gc10, Vr10, Er10, hR10⟩ := hQ10
     replace N := Fr.app N Nq10
     have ne_b8_x10 : b8 ≠ x10 := Nat.ne_of_lt (Nat.lt_of_lt_of_le E_b8.lt gx10)
     have ne_b8_r10 : b8 ≠ r10 := Nat.ne_of_lt (Nat.lt_of_lt_of_le E_b8.lt gr10)
     have ne_t9_r10 : t9 ≠ r10 := Nat.ne_of_lt (Nat.lt_of_lt_of_le Vt9.lt gr10)
     have Sf_x10 : Safe Z consts_1 s.vm T9.heap x10 := Safe.new gx10
     have Sf_r10 : Safe Z consts_1 s.vm T9.heap r10 := Safe.new gr10
     have hs_K10 : ∀ x ∈ ([] : List Addr), Safe Z consts_1 s.vm T9.heap x := sf0
     have Sk_K10 := CHr.keep (Z := Z) (EL := consts_1) (vm := s.vm) K10 hs_K10 C.1
     replace Sf_b8 := Safe.keep K10 hs_K10 C.1 Sf_b8
     replace Sf_t9 := Safe.keep K10 hs_K10 C.1 Sf_t9
     replace Sf_x10 := Safe.keep K10 hs_K10 C.1 Sf_x10
     replace Sf_r10 := Safe.keep K10 hs_K10 C.1 Sf_r10
     replace E_x := E_x.keep K10
     replace Fv_x := Fv_x.keep K10 nin0
     replace Fc_x := Fc_x.keep K10 nin0
     replace V_tx := V_tx.keep K10 nin0
     replace E_b8 := E_b8.keep K10
     replace Gv9 := Gv9.keep K10 nin0
     replace Gc9 := Gc9.keep K10 nin0
     replace Gn9 := Gn9.keep K10 nin0
     replace Gm9 := Gm9.keep K10 nin0
     replace Vt9 := Vt9.keep K10 nin0
     replace Et9 := Et9.keep K10
     replace C := C.trans Sk_K10
     replace hk := Nat.le_trans hk K10.1
     replace O := O.keep K10 all0
     replace K := K.trans K10 all0
     rcases hR10 with ⟨rfl, rfl, hR10⟩ | ⟨rfl, rfl, hR10⟩
     ·
      refine gb m T10 61 #[.val (.ref x), .val (.int (nI en0)), .val (.int (nI q0))] [(.ref x10), (.ref b8)] (st10) ?_
      have hs11_x10 : en0 ≤ 300 := by omega
      have hy11_0 : 0 + en0 = en0 := by omega
      have hy11_1 : 16 + max (en0 - 16) (16 + 2) = en0 := by omega
      have hy11_2 : 0 ≤ 16 := by omega
      have hy11_3 : 16 < en0 := by omega
      have hy11_4 : en0 ≤ 300 := by omega
      obtain ⟨v11, T11, Lc11, X11, hQ11, st11⟩ := cV #[.val (.ref x), .val (.int (nI en0)), .val (.int (nI q0))] [] X10 hx hZ hown hw rfl hml E_b8 129 130 132 131 75 133 rfl rfl rfl rfl rfl rfl (by decide) (rm_ba00 l Z a0 hw [] b8 t9 _ 16 0 fd9 x10 r10 _ en0 fd10 en0 en0 zc fm hS0 T10.heap n0 O E_b8 Gv9 Gc9 Gn9 Gm9 Vt9 Et9 g_b8 g_t9 Ex10 Gv10 Gc10 Vr10 hs11_x10 (Ne.symm ne_t9_r10) hy11_0 hy11_1 hy11_2 hy11_3 hy11_4) pd40 rfl rfl (hb hby d66_61) rfl
      obtain ⟨rfl, Nq11, K11, t11, k211, fd11, gt11, Gv11, Gc11, Gn11, Gm11, Vt11, Et11, hP11⟩ := hQ11
      replace N := Fr.app N Nq11
      have ne_b8_t11 : b8 ≠ t11 := Nat.ne_of_lt (Nat.lt_of_lt_of_le E_b8.lt gt11)
      have g_t11 : n0 ≤ t11 := Nat.le_trans (Old.le O) gt11
      have Sf_t11 : Safe Z consts_1 s.vm T10.heap t11 := Safe.new gt11
      have hs_K11 : ∀ x ∈ ([b8] : List Addr), Safe Z consts_1 s.vm T10.heap x := (sfS Sf_b8 sf0)
      have Sk_K11 := CHr.keep (Z := Z) (EL := consts_1) (vm := s.vm) K11 hs_K11 C.1
      replace Sf_b8 := Safe.keep K11 hs_K11 C.1 Sf_b8
      replace Sf_t9 := Safe.keep K11 hs_K11 C.1 Sf_t9
      replace Sf_x10 := Safe.keep K11 hs_K11 C.1 Sf_x10
      replace Sf_r10 := Safe.keep K11 hs_K11 C.1 Sf_r10
      replace Sf_t11 := Safe.keep K11 hs_K11 C.1 Sf_t11
      replace E_x := E_x.keep K11
      replace Fv_x := Fv_x.keep K11 (ninS ne_x_b8 nin0)
      replace Fc_x := Fc_x.keep K11 (ninS ne_x_b8 nin0)
      replace V_tx := V_tx.keep K11 (ninS ne_tx_b8 nin0)
      replace E_b8 := E_b8.keep K11
      replace Vt9 := Vt9.keep K11 (ninS (Ne.symm ne_b8_t9) nin0)
      replace Et9 := Et9.keep K11
      replace Ex10 := Ex10.keep K11
      replace Gv10 := Gv10.keep K11 (ninS (Ne.symm ne_b8_x10) nin0)
      replace Gc10 := Gc10.keep K11 (ninS (Ne.symm ne_b8_x10) nin0)
      replace Vr10 := Vr10.keep K11 (ninS (Ne.symm ne_b8_r10) nin0)
      replace Er10 := Er10.keep K11
      replace C := C.trans Sk_K11
      replace hk := Nat.le_trans hk K11.1
      replace O := O.keep K11 (allS g_b8 all0)
      replace K := K.trans K11 (allS (Or.inr sz_b8) all0)
      refine gb m T11 64 #[.val (.ref x), .val (.int (nI en0)), .val (.int (nI q0))] [(.ref b8)] (st11) ?_
      obtain ⟨sa12, T12, h12, k112, sb12, kc12, X12, e12, E12, hS12, hk12, hZ12, hown12, Es12, Fc12, Fv12, Va12, -, -, C12, -, ne12, st12⟩ := ldcCH X11 hx hZ hown (wv hw 181 rfl) (fun d hd => hw d (own_wS d hd)) rfl hS hk hEL (by decide +kernel) C.1 (text := "...") (z := nI 3) ⟨by decide +kernel, rfl⟩ (by decide) (by decide +kernel) (g := (mkF m 64 #[.val (.ref x), .val (.int (nI en0)), .val (.int (nI q0))] [(.ref b8)])) rfl (hb hby d66_64) (n := 12) (by decide +kernel) (by decide) (by decide) (by decide)
      replace Sf_b8 := CHr.safe C12 E_b8.lt Sf_b8
      have nx12_b8 := ne12 _ Sf_b8
      replace Sf_t9 := CHr.safe C12 Vt9.lt Sf_t9
      replace Sf_x10 := CHr.safe C12 Ex10.lt Sf_x10
      replace Sf_r10 := CHr.safe C12 Vr10.lt Sf_r10
      replace Sf_t11 := CHr.safe C12 Vt11.lt Sf_t11
      have nx12_t11 := ne12 _ Sf_t11
      replace E_x := E_x.ext E12
      replace Fv_x := Fv_x.ext E12
      replace Fc_x := Fc_x.ext E12
      replace V_tx := V_tx.ext E12
      replace E_b8 := E_b8.ext E12
      replace Vt9 := Vt9.ext E12
      replace Et9 := Et9.ext E12
      replace Ex10 := Ex10.ext E12
      replace Gv10 := Gv10.ext E12
      replace Gc10 := Gc10.ext E12
      replace Vr10 := Vr10.ext E12
      replace Er10 := Er10.ext E12
      replace Gv11 := Gv11.ext E12
      replace Gc11 := Gc11.ext E12
      replace Gn11 := Gn11.ext E12
      replace Gm11 := Gm11.ext E12
      replace Vt11 := Vt11.ext E12
      replace Et11 := Et11.ext E12
      replace O := O.ext E12
      replace K := K.ext E12
      replace C := C.trans C12
      replace hk := hk12
      replace hS := hS12
      replace hZ := hZ12
      replace hown := hown12
      refine gb m T12 66 #[.val (.ref x), .val (.int (nI en0)), .val (.int (nI q0))] [(.ref sa12), (.ref b8)] (st12) ?_
      replace Va12 := own_dots Va12
      have hA1 := own_app00 hP11.2 hR10
      have hs13_sa12 : 3 ≤ 300 := by omega
      have hy13_0 : en0 + 3 = (en0 + 3) := by omega
      have hy13_1 : en0 + max ((en0 + 3) - en0) (en0 + 2) = (2 * en0 + 2) := by omega
      have hy13_2 : en0 ≤ en0 := by omega
      have hy13_3 : en0 < (en0 + 3) := by omega
      have hy13_4 : (en0 + 3) ≤ 300 := by omega
      obtain ⟨v13, T13, Lc13, X13, hQ13, st13⟩ := cV #[.val (.ref x), .val (.int (nI en0)), .val (.int (nI q0))] [] X12 hx hZ hown hw e12 hml E_b8 129 130 132 131 75 133 rfl rfl rfl rfl rfl rfl (by decide) (rm_ba00 l Z a0 hw [] b8 t11 _ en0 en0 fd11 sa12 sb12 _ 3 (fun _ => 46) (en0 + 3) (2 * en0 + 2) zc fm hS0 h12 n0 O E_b8 Gv11 Gc11 Gn11 Gm11 Vt11 Et11 g_b8 g_t11 Es12 Fv12 Fc12 Va12 hs13_sa12 (Ne.symm nx12_t11.2) hy13_0 hy13_1 hy13_2 hy13_3 hy13_4) pd40 rfl rfl (hb hby d66_66) rfl
      obtain ⟨rfl, Nq13, K13, t13, k213, fd13, gt13, Gv13, Gc13, Gn13, Gm13, Vt13, Et13, hP13⟩ := hQ13
      replace N := Fr.app N Nq13
      have g_t13 : n0 ≤ t13 := Nat.le_trans (Old.le O) gt13
      have Sf_t13 : Safe Z consts_1 T12.vm h12 t13 := Safe.new gt13
      have hs_K13 : ∀ x ∈ ([b8] : List Addr), Safe Z consts_1 T12.vm h12 x := (sfS Sf_b8 sf0)
      have Sk_K13 := CHr.keep (Z := Z) (EL := consts_1) (vm := T12.vm) K13 hs_K13 C.1
      replace Sf_b8 := Safe.keep K13 hs_K13 C.1 Sf_b8
      replace Sf_t9 := Safe.keep K13 hs_K13 C.1 Sf_t9
      replace Sf_x10 := Safe.keep K13 hs_K13 C.1 Sf_x10
      replace Sf_r10 := Safe.keep K13 hs_K13 C.1 Sf_r10
      replace Sf_t11 := Safe.keep K13 hs_K13 C.1 Sf_t11
      replace Sf_t13 := Safe.keep K13 hs_K13 C.1 Sf_t13
      replace E_x := E_x.keep K13
      replace Fv_x := Fv_x.keep K13 (ninS ne_x_b8 nin0)
      replace Fc_x := Fc_x.keep K13 (ninS ne_x_b8 nin0)
      replace V_tx := V_tx.keep K13 (ninS ne_tx_b8 nin0)
      replace E_b8 := E_b8.keep K13
      replace Vt9 := Vt9.keep K13 (ninS (Ne.symm ne_b8_t9) nin0)
      replace Et9 := Et9.keep K13
      replace Ex10 := Ex10.keep K13
      replace Gv10 := Gv10.keep K13 (ninS (Ne.symm ne_b8_x10) nin0)
      replace Gc10 := Gc10.keep K13 (ninS (Ne.symm ne_b8_x10) nin0)
      replace Vr10 := Vr10.keep K13 (ninS (Ne.symm ne_b8_r10) nin0)
      replace Er10 := Er10.keep K13
      replace Vt11 := Vt11.keep K13 (ninS (Ne.symm ne_b8_t11) nin0)
      replace Et11 := Et11.keep K13
      replace Es12 := Es12.keep K13
      replace Fc12 := Fc12.keep K13 (ninS (Ne.symm nx12_b8.1) nin0)
      replace Fv12 := Fv12.keep K13 (ninS (Ne.symm nx12_b8.1) nin0)
      replace Va12 := Va12.keep K13 (ninS (Ne.symm nx12_b8.2) nin0)
      replace C := C.trans Sk_K13
      replace hk := Nat.le_trans hk K13.1
      replace O := O.keep K13 (allS g_b8 all0)
      replace K := K.trans K13 (allS (Or.inr sz_b8) all0)
      refine gb m T13 69 #[.val (.ref x), .val (.int (nI en0)), .val (.int (nI q0))] [(.ref b8)] (st13) ?_
      have hA2 := own_app0 hP13.1 hP13.2 hA1 own_dotsR
      have hy14_0 : (en0 + 3) < (2 * en0 + 2) := by omega
      have hy14_1 : (2 * en0 + 2) ≤ 1000 := by omega
      have hy14_2 : (en0 + 3) ≤ 264 := by omega
      obtain ⟨v14, T14, Lc14, X14, hQ14, st14⟩ := cV #[.val (.ref x), .val (.int (nI en0)), .val (.int (nI q0))] [] X13 hx hZ hown hw rfl hml E_b8 184 185 187 186 75 188 rfl rfl rfl rfl rfl rfl (by decide) (rm_tos0 l Z a0 hw [] b8 t13 _ (2 * en0 + 2) (en0 + 3) fd13 (chq ch en0)  zc fm hS0 T13.heap n0 O E_b8 Gv13 Gc13 Gn13 Gm13 Vt13 Et13 g_b8 g_t13 (own_chq hch en0) hA2 hy14_0 hy14_1 hy14_2) pd41 rfl rfl (hb hby d66_69) rfl
      obtain ⟨x14, r14, k214, cd14, lb14, fd14, rfl, Nq14, K14, gx14, gr14, Ex14, Gv14, Gc14, Vr14, Er14, hR14⟩ := hQ14
      replace N := Fr.app N Nq14
      have Sf_x14 : Safe Z consts_1 T12.vm T13.heap x14 := Safe.new gx14
      have Sf_r14 : Safe Z consts_1 T12.vm T13.heap r14 := Safe.new gr14
      have hs_K14 : ∀ x ∈ ([] : List Addr), Safe Z consts_1 T12.vm T13.heap x := sf0
      have Sk_K14 := CHr.keep (Z := Z) (EL := consts_1) (vm := T12.vm) K14 hs_K14 C.1
      replace Sf_b8 := Safe.keep K14 hs_K14 C.1 Sf_b8
      replace Sf_t9 := Safe.keep K14 hs_K14 C.1 Sf_t9
      replace Sf_x10 := Safe.keep K14 hs_K14 C.1 Sf_x10
      replace Sf_r10 := Safe.keep K14 hs_K14 C.1 Sf_r10
      replace Sf_t11 := Safe.keep K14 hs_K14 C.1 Sf_t11
      replace Sf_t13 := Safe.keep K14 hs_K14 C.1 Sf_t13
      replace Sf_x14 := Safe.keep K14 hs_K14 C.1 Sf_x14
      replace Sf_r14 := Safe.keep K14 hs_K14 C.1 Sf_r14
      replace E_x := E_x.keep K14
      replace Fv_x := Fv_x.keep K14 nin0
      replace Fc_x := Fc_x.keep K14 nin0
      replace V_tx := V_tx.keep K14 nin0
      replace E_b8 := E_b8.keep K14
      replace Vt9 := Vt9.keep K14 nin0
      replace Et9 := Et9.keep K14
      replace Ex10 := Ex10.keep K14
      replace Gv10 := Gv10.keep K14 nin0
      replace Gc10 := Gc10.keep K14 nin0
      replace Vr10 := Vr10.keep K14 nin0
      replace Er10 := Er10.keep K14
      replace Vt11 := Vt11.keep K14 nin0
      replace Et11 := Et11.keep K14
      replace Es12 := Es12.keep K14
      replace Fc12 := Fc12.keep K14 nin0
      replace Fv12 := Fv12.keep K14 nin0
      replace Va12 := Va12.keep K14 nin0
      replace Gv13 := Gv13.keep K14 nin0
      replace Gc13 := Gc13.keep K14 nin0
      replace Gn13 := Gn13.keep K14 nin0
      replace Gm13 := Gm13.keep K14 nin0
      replace Vt13 := Vt13.keep K14 nin0
      replace Et13 := Et13.keep K14
      replace C := C.trans Sk_K14
      replace hk := Nat.le_trans hk K14.1
      replace O := O.keep K14 all0
      replace K := K.trans K14 all0
      refine gb m T14 72 #[.val (.ref x), .val (.int (nI en0)), .val (.int (nI q0))] [(.ref x14)] (st14) ?_
      obtain ⟨fs, hr, hrun, hended, q1, q2, q3, q4⟩ := X14.leaveW hS hk (v := some (.ref x14)) (fun h => by rw [Bd.returns] at h; cases h)
      refine ⟨_, _, retOut X14 hx Bd.returns rfl (Or.inr (Or.inr (Or.inr (Or.inr ⟨rfl, rfl, rfl⟩)))) (hb hby d66_72) hr, hrun, hended, _, _, rfl, ?_, ?_, q1, q2, q3, q4.mono (by decide) (by decide)⟩
      · show Qql Z x xn ch h0 n0 (some (.ref x14)) T14.heap _
        exact ⟨x14, rfl, N, K, Or.inr ⟨by omega, _, _, _, _, _, Ex14, Gv14, Gc14, Vr14, by rw [← hE1]; exact hR14⟩⟩
      · show CHr Z consts_1 s.vm s.heap T14.vm T14.heap
        rw [hh]
        exact C.trans (CHv.at X14 hZ hEL C.1)
     ·
      refine gb m T10 61 #[.val (.ref x), .val (.int (nI en0)), .val (.int (nI q0))] [(.ref x10), (.ref b8)] (st10) ?_
      have hs15_x10 : en0 ≤ 300 := by omega
      have hy15_0 : 16 + max (en0 - 16) (16 + 2) = en0 := by omega
      have hy15_1 : 16 < en0 := by omega
      have hy15_2 : en0 ≤ 270 := by omega
      have hy15_3 : 2 * 16 + 2 ≤ en0 := by omega
      obtain ⟨v15, T15, Lc15, X15, hQ15, st15⟩ := cV #[.val (.ref x), .val (.int (nI en0)), .val (.int (nI q0))] [] X10 hx hZ hown hw rfl hml E_b8 129 130 132 131 75 133 rfl rfl rfl rfl rfl rfl (by decide) (rm_ba01 l Z a0 hw [] b8 t9 _ 16  fd9 x10 r10 _ en0 fd10  en0 zc fm hS0 T10.heap n0 O E_b8 Gv9 Gc9 Gn9 Gm9 Vt9 Et9 g_b8 g_t9 Ex10 Gv10 Gc10 Vr10 hs15_x10 (Ne.symm ne_t9_r10) hy15_0 hy15_1 hy15_2 hy15_3) pd40 rfl rfl (hb hby d66_61) rfl
      obtain ⟨rfl, Nq15, K15, t15, k215, fd15, gt15, Gv15, Gc15, Gn15, Gm15, Vt15, Et15, hP15⟩ := hQ15
      replace N := Fr.app N Nq15
      have ne_b8_t15 : b8 ≠ t15 := Nat.ne_of_lt (Nat.lt_of_lt_of_le E_b8.lt gt15)
      have g_t15 : n0 ≤ t15 := Nat.le_trans (Old.le O) gt15
      have Sf_t15 : Safe Z consts_1 s.vm T10.heap t15 := Safe.new gt15
      have hs_K15 : ∀ x ∈ ([b8] : List Addr), Safe Z consts_1 s.vm T10.heap x := (sfS Sf_b8 sf0)
      have Sk_K15 := CHr.keep (Z := Z) (EL := consts_1) (vm := s.vm) K15 hs_K15 C.1
      replace Sf_b8 := Safe.keep K15 hs_K15 C.1 Sf_b8
      replace Sf_t9 := Safe.keep K15 hs_K15 C.1 Sf_t9
      replace Sf_x10 := Safe.keep K15 hs_K15 C.1 Sf_x10
      replace Sf_r10 := Safe.keep K15 hs_K15 C.1 Sf_r10
      replace Sf_t15 := Safe.keep K15 hs_K15 C.1 Sf_t15
      replace E_x := E_x.keep K15
      replace Fv_x := Fv_x.keep K15 (ninS ne_x_b8 nin0)
      replace Fc_x := Fc_x.keep K15 (ninS ne_x_b8 nin0)
      replace V_tx := V_tx.keep K15 (ninS ne_tx_b8 nin0)
      replace E_b8 := E_b8.keep K15
      replace Vt9 := Vt9.keep K15 (ninS (Ne.symm ne_b8_t9) nin0)
      replace Et9 := Et9.keep K15
      replace Ex10 := Ex10.keep K15
      replace Gv10 := Gv10.keep K15 (ninS (Ne.symm ne_b8_x10) nin0)
      replace Gc10 := Gc10.keep K15 (ninS (Ne.symm ne_b8_x10) nin0)
      replace Vr10 := Vr10.keep K15 (ninS (Ne.symm ne_b8_r10) nin0)
      replace Er10 := Er10.keep K15
      replace C := C.trans Sk_K15
      replace hk := Nat.le_trans hk K15.1
      replace O := O.keep K15 (allS g_b8 all0)
      replace K := K.trans K15 (allS (Or.inr sz_b8) all0)
      refine gb m T15 64 #[.val (.ref x), .val (.int (nI en0)), .val (.int (nI q0))] [(.ref b8)] (st15) ?_
      obtain ⟨sa16, T16, h16, k116, sb16, kc16, X16, e16, E16, hS16, hk16, hZ16, hown16, Es16, Fc16, Fv16, Va16, -, -, C16, -, ne16, st16⟩ := ldcCH X15 hx hZ hown (wv hw 181 rfl) (fun d hd => hw d (own_wS d hd)) rfl hS hk hEL (by decide +kernel) C.1 (text := "...") (z := nI 3) ⟨by decide +kernel, rfl⟩ (by decide) (by decide +kernel) (g := (mkF m 64 #[.val (.ref x), .val (.int (nI en0)), .val (.int (nI q0))] [(.ref b8)])) rfl (hb hby d66_64) (n := 12) (by decide +kernel) (by decide) (by decide) (by decide)
      replace Sf_b8 := CHr.safe C16 E_b8.lt Sf_b8
      have nx16_b8 := ne16 _ Sf_b8
      replace Sf_t9 := CHr.safe C16 Vt9.lt Sf_t9
      replace Sf_x10 := CHr.safe C16 Ex10.lt Sf_x10
      replace Sf_r10 := CHr.safe C16 Vr10.lt Sf_r10
      replace Sf_t15 := CHr.safe C16 Vt15.lt Sf_t15
      have nx16_t15 := ne16 _ Sf_t15
      replace E_x := E_x.ext E16
      replace Fv_x := Fv_x.ext E16
      replace Fc_x := Fc_x.ext E16
      replace V_tx := V_tx.ext E16
      replace E_b8 := E_b8.ext E16
      replace Vt9 := Vt9.ext E16
      replace Et9 := Et9.ext E16
      replace Ex10 := Ex10.ext E16
      replace Gv10 := Gv10.ext E16
      replace Gc10 := Gc10.ext E16
      replace Vr10 := Vr10.ext E16
      replace Er10 := Er10.ext E16
      replace Gv15 := Gv15.ext E16
      replace Gc15 := Gc15.ext E16
      replace Gn15 := Gn15.ext E16
      replace Gm15 := Gm15.ext E16
      replace Vt15 := Vt15.ext E16
      replace Et15 := Et15.ext E16
      replace O := O.ext E16
      replace K := K.ext E16
      replace C := C.trans C16
      replace hk := hk16
      replace hS := hS16
      replace hZ := hZ16
      replace hown := hown16
      refine gb m T16 66 #[.val (.ref x), .val (.int (nI en0)), .val (.int (nI q0))] [(.ref sa16), (.ref b8)] (st16) ?_
      replace Va16 := own_dots Va16
      have hA1 := own_L1m hP15 (Nat.le_refl _) hR10
      have hs17_sa16 : 3 ≤ 300 := by omega
      have hy17_0 : en0 ≤ 270 := by omega
      have hy17_1 : 3 ≤ en0 := by omega
      obtain ⟨v17, T17, Lc17, X17, hQ17, st17⟩ := cV #[.val (.ref x), .val (.int (nI en0)), .val (.int (nI q0))] [] X16 hx hZ hown hw e16 hml E_b8 129 130 132 131 75 133 rfl rfl rfl rfl rfl rfl (by decide) (rm_ba10 l Z a0 hw [] b8 t15 _ en0 en0 fd15 sa16 sb16 _ 3 (fun _ => 46) (fun _ => 46) zc fm hS0 h16 n0 O E_b8 Gv15 Gc15 Gn15 Gm15 Vt15 Et15 g_b8 g_t15 Es16 Fv16 Fc16 Va16 hs17_sa16 (Ne.symm nx16_t15.2) own_dotsR rfl rfl hy17_0 hy17_1) pd40 rfl rfl (hb hby d66_66) rfl
      obtain ⟨rfl, Nq17, K17, t17, k217, fd17, gt17, Gv17, Gc17, Gn17, Gm17, Vt17, Et17, hP17⟩ := hQ17
      replace N := Fr.app N Nq17
      have g_t17 : n0 ≤ t17 := Nat.le_trans (Old.le O) gt17
      have Sf_t17 : Safe Z consts_1 T16.vm h16 t17 := Safe.new gt17
      have hs_K17 : ∀ x ∈ ([b8] : List Addr), Safe Z consts_1 T16.vm h16 x := (sfS Sf_b8 sf0)
      have Sk_K17 := CHr.keep (Z := Z) (EL := consts_1) (vm := T16.vm) K17 hs_K17 C.1
      replace Sf_b8 := Safe.keep K17 hs_K17 C.1 Sf_b8
      replace Sf_t9 := Safe.keep K17 hs_K17 C.1 Sf_t9
      replace Sf_x10 := Safe.keep K17 hs_K17 C.1 Sf_x10
      replace Sf_r10 := Safe.keep K17 hs_K17 C.1 Sf_r10
      replace Sf_t15 := Safe.keep K17 hs_K17 C.1 Sf_t15
      replace Sf_t17 := Safe.keep K17 hs_K17 C.1 Sf_t17
      replace E_x := E_x.keep K17
      replace Fv_x := Fv_x.keep K17 (ninS ne_x_b8 nin0)
      replace Fc_x := Fc_x.keep K17 (ninS ne_x_b8 nin0)
      replace V_tx := V_tx.keep K17 (ninS ne_tx_b8 nin0)
      replace E_b8 := E_b8.keep K17
      replace Vt9 := Vt9.keep K17 (ninS (Ne.symm ne_b8_t9) nin0)
      replace Et9 := Et9.keep K17
      replace Ex10 := Ex10.keep K17
      replace Gv10 := Gv10.keep K17 (ninS (Ne.symm ne_b8_x10) nin0)
      replace Gc10 := Gc10.keep K17 (ninS (Ne.symm ne_b8_x10) nin0)
      replace Vr10 := Vr10.keep K17 (ninS (Ne.symm ne_b8_r10) nin0)
      replace Er10 := Er10.keep K17
      replace Vt15 := Vt15.keep K17 (ninS (Ne.symm ne_b8_t15) nin0)
      replace Et15 := Et15.keep K17
      replace Es16 := Es16.keep K17
      replace Fc16 := Fc16.keep K17 (ninS (Ne.symm nx16_b8.1) nin0)
      replace Fv16 := Fv16.keep K17 (ninS (Ne.symm nx16_b8.1) nin0)
      replace Va16 := Va16.keep K17 (ninS (Ne.symm nx16_b8.2) nin0)
      replace C := C.trans Sk_K17
      replace hk := Nat.le_trans hk K17.1
      replace O := O.keep K17 (allS g_b8 all0)
      replace K := K.trans K17 (allS (Or.inr sz_b8) all0)
      refine gb m T17 69 #[.val (.ref x), .val (.int (nI en0)), .val (.int (nI q0))] [(.ref b8)] (st17) ?_
      have hA2 := own_app1 hP17.1 hP17.2 hA1
      have hy18_0 : (en0 + 3) < (2 * en0 + 2) := by omega
      have hy18_1 : (2 * en0 + 2) ≤ 540 := by omega
      have hy18_2 : (en0 + 3) ≤ 264 := by omega
      obtain ⟨v18, T18, Lc18, X18, hQ18, st18⟩ := cV #[.val (.ref x), .val (.int (nI en0)), .val (.int (nI q0))] [] X17 hx hZ hown hw rfl hml E_b8 184 185 187 186 75 188 rfl rfl rfl rfl rfl rfl (by decide) (rm_tos1 l Z a0 hw [] b8 t17 _ (2 * en0 + 2) (en0 + 3) fd17 (chq ch en0)  zc fm hS0 T17.heap n0 O E_b8 Gv17 Gc17 Gn17 Gm17 Vt17 Et17 g_b8 g_t17 (own_chq hch en0) hA2 hy18_0 hy18_1 hy18_2) pd41 rfl rfl (hb hby d66_69) rfl
      obtain ⟨x18, r18, k218, cd18, lb18, fd18, rfl, Nq18, K18, gx18, gr18, Ex18, Gv18, Gc18, Vr18, Er18, hR18⟩ := hQ18
      replace N := Fr.app N Nq18
      have Sf_x18 : Safe Z consts_1 T16.vm T17.heap x18 := Safe.new gx18
      have Sf_r18 : Safe Z consts_1 T16.vm T17.heap r18 := Safe.new gr18
      have hs_K18 : ∀ x ∈ ([] : List Addr), Safe Z consts_1 T16.vm T17.heap x := sf0
      have Sk_K18 := CHr.keep (Z := Z) (EL := consts_1) (vm := T16.vm) K18 hs_K18 C.1
      replace Sf_b8 := Safe.keep K18 hs_K18 C.1 Sf_b8
      replace Sf_t9 := Safe.keep K18 hs_K18 C.1 Sf_t9
      replace Sf_x10 := Safe.keep K18 hs_K18 C.1 Sf_x10
      replace Sf_r10 := Safe.keep K18 hs_K18 C.1 Sf_r10
      replace Sf_t15 := Safe.keep K18 hs_K18 C.1 Sf_t15
      replace Sf_t17 := Safe.keep K18 hs_K18 C.1 Sf_t17
      replace Sf_x18 := Safe.keep K18 hs_K18 C.1 Sf_x18
      replace Sf_r18 := Safe.keep K18 hs_K18 C.1 Sf_r18
      replace E_x := E_x.keep K18
      replace Fv_x := Fv_x.keep K18 nin0
      replace Fc_x := Fc_x.keep K18 nin0
      replace V_tx := V_tx.keep K18 nin0
      replace E_b8 := E_b8.keep K18
      replace Vt9 := Vt9.keep K18 nin0
      replace Et9 := Et9.keep K18
      replace Ex10 := Ex10.keep K18
      replace Gv10 := Gv10.keep K18 nin0
      replace Gc10 := Gc10.keep K18 nin0
      replace Vr10 := Vr10.keep K18 nin0
      replace Er10 := Er10.keep K18
      replace Vt15 := Vt15.keep K18 nin0
      replace Et15 := Et15.keep K18
      replace Es16 := Es16.keep K18
      replace Fc16 := Fc16.keep K18 nin0
      replace Fv16 := Fv16.keep K18 nin0
      replace Va16 := Va16.keep K18 nin0
      replace Gv17 := Gv17.keep K18 nin0
      replace Gc17 := Gc17.keep K18 nin0
      replace Gn17 := Gn17.keep K18 nin0
      replace Gm17 := Gm17.keep K18 nin0
      replace Vt17 := Vt17.keep K18 nin0
      replace Et17 := Et17.keep K18
      replace C := C.trans Sk_K18
      replace hk := Nat.le_trans hk K18.1
      replace O := O.keep K18 all0
      replace K := K.trans K18 all0
      refine gb m T18 72 #[.val (.ref x), .val (.int (nI en0)), .val (.int (nI q0))] [(.ref x18)] (st18) ?_
      obtain ⟨fs, hr, hrun, hended, q1, q2, q3, q4⟩ := X18.leaveW hS hk (v := some (.ref x18)) (fun h => by rw [Bd.returns] at h; cases h)
      refine ⟨_, _, retOut X18 hx Bd.returns rfl (Or.inr (Or.inr (Or.inr (Or.inr ⟨rfl, rfl, rfl⟩)))) (hb hby d66_72) hr, hrun, hended, _, _, rfl, ?_, ?_, q1, q2, q3, q4.mono (by decide) (by decide)⟩
      · show Qql Z x xn ch h0 n0 (some (.ref x18)) T18.heap _
        exact ⟨x18, rfl, N, K, Or.inr ⟨by omega, _, _, _, _, _, Ex18, Gv18, Gc18, Vr18, by rw [← hE1]; exact hR18⟩⟩
      · show CHr Z consts_1 s.vm s.heap T18.vm T18.heap
        rw [hh]
        exact C.trans (CHv.at X18 hZ hEL C.1)
   | succ fu4 ih =>
    intro q0 en0 Tq4 Lq4 hfu4 hEn Xq4 eq4 N 
    refine sI 5 Xq4 hx (hb hby d66_4) rfl rfl ?_
    refine sS 8 (256 : Int32) Xq4 hx (hb hby d66_5) rfl rfl ?_
    refine gb m Tq4 11 #[.val (.ref x), .val (.int (nI en0)), .val (.int (nI q0))] [] (fun _ k => XS.icmpNo Xq4.here hx rfl (hb hby d66_8) rfl (tlt ((own_nlt (a := q0) (b := 256) (by omega) (by omega)).mpr (by omega))).2.1 k) ?_
    have hlt : en0 < xn := by rw [hEn]; exact own_EjltX hx260 hlow (by omega)
    refine sI 12 Xq4 hx (hb hby d66_11) rfl rfl ?_
    refine sA 13 Xq4 hx (hb hby d66_12) rfl rfl rfl ?_
    have hs20_x : xn ≤ 300 := by omega
    obtain ⟨v20, T20, Lc20, X20, hQ20, st20⟩ := cV #[.val (.ref x), .val (.int (nI en0)), .val (.int (nI q0))] [(.int (nI en0))] Xq4 hx hZ hown hw eq4 hml E_x 40 41 43 42 9 44 rfl rfl rfl rfl rfl rfl (by decide) (rm_slU l Z a0 hw [] x tx _ xn fx cd lb ch zc fm hS0 h0 n0 O E_x Fv_x Fc_x V_tx hs20_x hch hR) pd25 rfl rfl (hb hby d66_13) rfl
    obtain ⟨rfl, Nq20, e20⟩ := hQ20
    replace N := Fr.app N Nq20
    refine gb m T20 16 #[.val (.ref x), .val (.int (nI en0)), .val (.int (nI q0))] [(.int (nI xn)), (.int (nI en0))] (st20) ?_
    refine gb m T20 19 #[.val (.ref x), .val (.int (nI en0)), .val (.int (nI q0))] [] (fun _ k => XS.icmpNo X20.here hx rfl (hb hby d66_16) rfl (tlt ((own_nlt (a := en0) (b := xn) (by omega) (by omega)).mpr (by omega))).2.1 k) ?_
    refine sI 20 X20 hx (hb hby d66_19) rfl rfl ?_
    refine sA 21 X20 hx (hb hby d66_20) rfl rfl rfl ?_
    refine sI 22 X20 hx (hb hby d66_21) rfl rfl ?_
    have hs22_x : xn ≤ 300 := by omega
    have hy22_0 : en0 < xn := by omega
    obtain ⟨v22, T22, Lc22, X22, hQ22, st22⟩ := cV #[.val (.ref x), .val (.int (nI en0)), .val (.int (nI q0))] [(.int (nI en0))] X20 hx hZ hown hw e20 hml E_x 50 51 53 52 9 54 rfl rfl rfl rfl rfl rfl (by decide) (rm_cpaU l Z a0 hw [] x tx _ xn fx cd lb ch en0 zc fm hS0 h0 n0 O E_x Fv_x Fc_x V_tx hs22_x hch hR hy22_0) pd6 rfl rfl (hb hby d66_22) rfl
    obtain ⟨rc22, rfl, Nq22, e22, hrc22, hpr22⟩ := hQ22
    replace N := Fr.app N Nq22
    refine gb m T22 25 #[.val (.ref x), .val (.int (nI en0)), .val (.int (nI q0))] [(.int (nI rc22)), (.int (nI en0))] (st22) ?_
    have hy23_0 : rc22 < 2147483648 := by omega
    obtain ⟨v23, T23, Lc23, X23, hQ23, st23⟩ := cS #[.val (.ref x), .val (.int (nI en0)), .val (.int (nI q0))] [(.int (nI en0))] X22 hx hZ hown hw e22 hml 68 69 70 71 rfl rfl rfl rfl (by decide) (rm_cc l Z a0 hw [] rc22   h0 n0 O hy23_0) pd6 rfl rfl (hb hby d66_25) rfl
    obtain ⟨rfl, Nq23, e23⟩ := hQ23
    replace N := Fr.app N Nq23
    refine gb m T23 28 #[.val (.ref x), .val (.int (nI en0)), .val (.int (nI q0))] [(.int (nI (cct rc22))), (.int (nI en0))] (st23) ?_
    refine gb m T23 29 #[.val (.ref x), .val (.int (nI en0)), .val (.int (nI q0))] [(.int ((nI en0) + (nI (cct rc22))))] (fun _ k => XS.iadd X23.here hx rfl (hb hby d66_28) rfl k) ?_
    rw [show ((nI en0) + (nI (cct rc22))) = (nI (en0 + (cct rc22))) from own_add _ _]
    let LL24 : Array Slot := #[.val (.ref x), .val (.int (nI (en0 + (cct rc22)))), .val (.int (nI q0))]
    refine gb m T23 30 LL24 [] (fun _ k => XS.istoreN X23.here hx rfl (hb hby d66_29) rfl (l' := LL24) rfl k) ?_
    refine gb m T23 33 #[.val (.ref x), .val (.int (nI (en0 + (cct rc22)))), .val (.int ((nI q0) + (1 : Int32)))] [] (fun _ k => XS.iinc X23.here hx rfl (hb hby d66_30) rfl (l' := #[.val (.ref x), .val (.int (nI (en0 + (cct rc22)))), .val (.int ((nI q0) + (1 : Int32)))]) rfl k) ?_
    rw [show ((nI q0) + (1 : Int32)) = (nI (q0 + 1)) from own_add _ _]
    refine gb m T23 4 #[.val (.ref x), .val (.int (nI (en0 + (cct rc22)))), .val (.int (nI (q0 + 1)))] [] (fun _ k => XS.goto X23.here hx rfl (pc0 := 33) (pc' := 4) rfl (hb hby d66_33) (by decide) (by decide) k) ?_
    exact ih (q0 + 1) (en0 + cct rc22) T23 _ (by omega) ((own_advc hpr22).trans (congrArg (adv ch xn) hEn)) X23 e23 N 
  exact LP4 256 0 0 s₁ _ (by omega) rfl X0 e0 N 

theorem d27_8 : decode c27 8 = .ok (.aload_n 0, 1) := by decide +kernel
theorem d27_9 : decode c27 9 = .ok (.ldc 7, 2) := by decide +kernel
theorem d27_11 : decode c27 11 = .ok (.getfield 9, 3) := by decide +kernel
theorem d27_14 : decode c27 14 = .ok (.putfield 9, 3) := by decide +kernel
theorem d27_17 : decode c27 17 = .ok (.aload_n 0, 1) := by decide +kernel
theorem d27_18 : decode c27 18 = .ok (.ldc 7, 2) := by decide +kernel
theorem d27_20 : decode c27 20 = .ok (.getfield 15, 3) := by decide +kernel
theorem d27_23 : decode c27 23 = .ok (.putfield 15, 3) := by decide +kernel
theorem d27_26 : decode c27 26 = .ok (.return_, 1) := by decide +kernel
theorem pn_sv0 : plainFor (⟨"java/lang/String", "<init>", "([CIILjava/lang/Void;)V"⟩ : MethodName) = true := plainFor_of_name (by first | (simp [plainName, overriddenIn]; done) | decide +kernel)
theorem ef_sv0 (m : MethodId) (x0 : Addr) (x1 : Addr) (x3 : Int32) : entryFrame m #[(.ref x0), (.ref x1), (.int (0 : Int32)), (.int x3), .null] 6 = mkF m 0 #[.val (.ref x0), .val (.ref x1), .val (.int (0 : Int32)), .val (.int x3), .val .null, .unset] [] := by first | (simp [entryFrame, mkF, argsToLocals, Value.category]; done) | rfl
theorem rm_sv0 (l : Launch) (Z : State) (a0 : Array Value) (hw : ∀ d ∈ tables_1, d.before a0 Z = true) (ws : List Jvm.Cond) (hEL : EW Z a0 consts_1) (x ca : Addr) (kc : ClassId) (fz : Nat → Int32) (zc : Int32) (fm : Value) (hS0 : Sf Z zc fm) (h0 : Heap) (n0 : Nat) (O : Old Z n0 h0) (E_x : Exa Z h0 x "java/lang/String") (Fv_x : Fld Z h0 x "java/lang/String" "value" "[B" .null) (Fc_x : Fld Z h0 x "java/lang/String" "coder" "B" (.int 0)) (g_x : n0 ≤ x) (V_c : Arv Z h0 ca kc .char (nI 0) (cont 0 fz) (.int 0)) :
    MetFree l (⟨"java/lang/String", "<init>", "([CIILjava/lang/Void;)V"⟩ : MethodName) (head1 (Jvm.Cond.code (⟨"java/lang/String", "<init>", "([CIILjava/lang/Void;)V"⟩ : MethodName) jdk_42_method_149_code 6 none :: ws) (rk 1 4 8 12)) (fun as_ U => as_ = #[(.ref x), (.ref ca), (.int (0 : Int32)), (.int (nI 0)), .null] ∧ Z.Warmed39 U.vm ∧ U.heap = h0 ∧ CHv Z consts_1 U.vm h0) (fun _ _ _ _ _ => True) (fun _ U o U' => ∃ v L, o = .returned v ∧ Qs0 Z x h0 n0 v U'.heap L ∧ CHr Z consts_1 U.vm U.heap U'.vm U'.heap ∧ ReturnedEndW U o U' L (rk 1 4 8 12).cells (rk 1 4 8 12).slots) := by
  refine MetFree.of_bodySF pn_sv0 hisR ?_
  intro p e s m args below meth c s₁ Bd hml0 hP hK
  obtain ⟨rfl, hZ, hh, H0⟩ := hP
  have hx := Bd.exec
  have hby := Bd.bytes
  have hml : c.maxLocals = 6 := hml0
  have hown : s.vm.findClass "java/lang/String" = some m.cls := findClass_of_methodNamed Bd.named
  have hnm := (name_of_methodNamed Bd.named Bd.method).1
  have X0 : Stand p l e (rk 1 4 8 12) (s.setVm s.vm) m #[(.ref x), (.ref ca), (.int (0 : Int32)), (.int (nI 0)), .null] below meth c s₁ [] 0 0 := Stand.of_body Bd
  have e0 : s₁.heap = h0 := by rw [← hh, Bd.state]; rfl
  replace hZ : Z.Warmed39 (s.setVm s.vm).vm := hZ
  replace hown : (s.setVm s.vm).vm.findClass "java/lang/String" = some m.cls := hown
  have N := Fr.nil n0
  have hS : s.Since s.vm s.heap.size := (State.WarmedH.refl s).since _
  have hk : s.heap.size ≤ h0.size := Nat.le_of_eq (by rw [hh])
  have C : CHr Z consts_1 s.vm h0 s.vm h0 := CHr.refl H0
  have K : Keep h0 h0 [x] := Keep.refl _ _
  refine gb m s₁ 0 #[.val (.ref x), .val (.ref ca), .val (.int (0 : Int32)), .val (.int (nI 0)), .val .null, .unset] [] (fun _ k => castTop (ef_sv0 m x ca (nI 0)) k) ?_
  have Sf_x : Safe Z consts_1 s.vm h0 x := own_safe_null hZ.alike E_x (wv hw 8 rfl) Fv_x
  let LL1 : Array Slot := #[.val (.ref x), .val (.ref ca), .val (.int (0 : Int32)), .val (.int (nI 0)), .val .null, .unset]
  refine sA 1 X0 hx (hb hby d27_0) rfl rfl rfl ?_
  obtain ⟨T2, X2, e2, st2⟩ := initO X0 hx hZ hown (wv hw 17 rfl) (wv hw 18 rfl) (wv hw 19 rfl) e0 (g := (mkF m 1 LL1 [(.ref x)])) rfl (by rw [hml]; rfl) rfl (hb hby d27_1) (by decide) (W := 0) (by show 2 * 0 + _ ≤ _; exact Nat.le_of_eq rfl) (by decide)
  refine gb m T2 4 LL1 [] (st2) ?_
  refine sI 5 X2 hx (hb hby d27_4) rfl rfl ?_
  refine gb m T2 8 LL1 [] (fun _ k => XS.ifNo X2.here hx rfl (hb hby d27_5) rfl ((if0 _ _).trans (teq ((own_neq (a := 0) (b := 0) (by omega) (by omega)).mpr (by omega))).2) k) ?_
  refine sA 9 X2 hx (hb hby d27_8) rfl rfl rfl ?_
  obtain ⟨sa4, T4, h4, k14, sb4, kc4, X4, e4, E4, hS4, hk4, hZ4, hown4, Es4, Fc4, Fv4, Va4, -, -, C4, -, ne4, st4⟩ := ldcCH X2 hx hZ hown (wv hw 330 rfl) (fun d hd => hw d (own_wS d hd)) e2 hS hk hEL (by decide +kernel) C.1 (text := "") (z := nI 0) ⟨by decide +kernel, rfl⟩ (by decide) (by decide +kernel) (g := (mkF m 9 LL1 [(.ref x)])) rfl (hb hby d27_9) (n := 0) (by decide +kernel) (by decide) (by decide) (by decide)
  replace Sf_x := CHr.safe C4 E_x.lt Sf_x
  have nx4_x := ne4 _ Sf_x
  replace E_x := E_x.ext E4
  replace Fv_x := Fv_x.ext E4
  replace Fc_x := Fc_x.ext E4
  replace V_c := V_c.ext E4
  replace O := O.ext E4
  replace K := K.ext E4
  replace C := C.trans C4
  replace hk := hk4
  replace hS := hS4
  replace hZ := hZ4
  replace hown := hown4
  refine gb m T4 11 LL1 [(.ref sa4), (.ref x)] (st4) ?_
  obtain ⟨T5, X5, e5, st5⟩ := getF X4 hx hZ hown (host := "") (Or.inl (wv hw 34 rfl)) Via.refl e4 Fv4 (g := (mkF m 11 LL1 [(.ref sa4), (.ref x)])) rfl rfl (hb hby d27_11)
  refine gb m T5 14 LL1 [(.ref sb4), (.ref x)] (st5) ?_
  obtain ⟨T6, h6, X6, e6, W6, st6⟩ := putF X5 hx hZ hown (host := "") (Or.inl (wv hw 34 rfl)) Via.refl e5 Fv_x E_x (Or.inr ⟨(wv hw 35 rfl), rfl, hnm⟩) (wv hw 8 rfl) (ty := (.array .byte)) (by decide) rfl rfl (g := (mkF m 14 LL1 [(.ref sb4), (.ref x)])) rfl rfl (hb hby d27_14)
  have Sa_W6 := Sf_x
  replace Sf_x := Safe.wr W6 Sa_W6 C.1 Sf_x
  have nq7 : ca ≠ x := (Ne.symm (own_nev E_x (wv hw 8 rfl) V_c))
  replace E_x := E_x.wr W6
  replace Fc_x := Fc_x.other W6 (Or.inr (slot_ne (Or.inr (wv hw 33 rfl)) (Or.inr (wv hw 35 rfl)) (by decide) (t := .byte) (t' := (.array .byte)) (by decide) (by decide)))
  replace V_c := V_c.other W6 nq7
  replace Es4 := Es4.wr W6
  replace Fc4 := Fc4.other W6 (Or.inl (Ne.symm nx4_x.1))
  replace Fv4 := Fv4.other W6 (Or.inl (Ne.symm nx4_x.1))
  replace Va4 := Va4.other W6 (Ne.symm nx4_x.2)
  replace C := C.trans (CHr.wr W6 Sa_W6 C.1)
  replace hk := Nat.le_trans hk (Keep.of_wr W6).1
  replace Fv_x := Fv_x.same W6
  replace O := O.wr W6 g_x
  replace K := K.wr W6 (Or.inl (by simp))
  replace N := Fr.snoc X6 N g_x
  refine gb m T6 17 LL1 [] (st6) ?_
  refine sA 18 X6 hx (hb hby d27_17) rfl rfl rfl ?_
  obtain ⟨sa8, T8, h8, k18, sb8, kc8, X8, e8, E8, hS8, hk8, hZ8, hown8, Es8, Fc8, Fv8, Va8, -, -, C8, -, ne8, st8⟩ := ldcCH X6 hx hZ hown (wv hw 330 rfl) (fun d hd => hw d (own_wS d hd)) e6 hS hk hEL (by decide +kernel) C.1 (text := "") (z := nI 0) ⟨by decide +kernel, rfl⟩ (by decide) (by decide +kernel) (g := (mkF m 18 LL1 [(.ref x)])) rfl (hb hby d27_18) (n := 0) (by decide +kernel) (by decide) (by decide) (by decide)
  replace Sf_x := CHr.safe C8 E_x.lt Sf_x
  have nx8_x := ne8 _ Sf_x
  replace E_x := E_x.ext E8
  replace Fv_x := Fv_x.ext E8
  replace Fc_x := Fc_x.ext E8
  replace V_c := V_c.ext E8
  replace Es4 := Es4.ext E8
  replace Fc4 := Fc4.ext E8
  replace Fv4 := Fv4.ext E8
  replace Va4 := Va4.ext E8
  replace O := O.ext E8
  replace K := K.ext E8
  replace C := C.trans C8
  replace hk := hk8
  replace hS := hS8
  replace hZ := hZ8
  replace hown := hown8
  refine gb m T8 20 LL1 [(.ref sa8), (.ref x)] (st8) ?_
  obtain ⟨T9, X9, e9, st9⟩ := getF X8 hx hZ hown (host := "") (Or.inl (wv hw 32 rfl)) Via.refl e8 Fc8 (g := (mkF m 20 LL1 [(.ref sa8), (.ref x)])) rfl rfl (hb hby d27_20)
  refine gb m T9 23 LL1 [(.int (0 : Int32)), (.ref x)] (st9) ?_
  obtain ⟨T10, h10, X10, e10, W10, st10⟩ := putFN X9 hx hZ hown (wv hw 32 rfl) Via.refl e9 Fc_x E_x (Or.inr ⟨(wv hw 33 rfl), rfl, hnm⟩) (wv hw 8 rfl) (ty := .byte) (v' := (.int (0 : Int32))) (by decide) rfl rfl (g := (mkF m 23 LL1 [(.int (0 : Int32)), (.ref x)])) rfl rfl (hb hby d27_23)
  have Sa_W10 := Sf_x
  replace Sf_x := Safe.wr W10 Sa_W10 C.1 Sf_x
  replace E_x := E_x.wr W10
  replace Fv_x := Fv_x.other W10 (Or.inr (slot_ne (Or.inr (wv hw 35 rfl)) (Or.inr (wv hw 33 rfl)) (by decide) (t := (.array .byte)) (t' := .byte) (by decide) (by decide)))
  replace V_c := V_c.other W10 nq7
  replace Es4 := Es4.wr W10
  replace Fc4 := Fc4.other W10 (Or.inl (Ne.symm nx4_x.1))
  replace Fv4 := Fv4.other W10 (Or.inl (Ne.symm nx4_x.1))
  replace Va4 := Va4.other W10 (Ne.symm nx4_x.2)
  replace Es8 := Es8.wr W10
  replace Fc8 := Fc8.other W10 (Or.inl (Ne.symm nx8_x.1))
  replace Fv8 := Fv8.other W10 (Or.inl (Ne.symm nx8_x.1))
  replace Va8 := Va8.other W10 (Ne.symm nx8_x.2)
  replace C := C.trans (CHr.wr W10 Sa_W10 C.1)
  replace hk := Nat.le_trans hk (Keep.of_wr W10).1
  replace Fc_x := Fc_x.same W10
  replace O := O.wr W10 g_x
  replace K := K.wr W10 (Or.inl (by simp))
  replace N := Fr.snoc X10 N g_x
  refine gb m T10 26 LL1 [] (st10) ?_
  obtain ⟨fs, hr, hrun, hended, q1, q2, q3, q4⟩ := X10.leaveW hS (by rw [e10]; exact hk) (v := none) (fun _ => rfl)
  refine ⟨_, _, X10.returnOut hx Bd.returns (hb hby d27_26) hr, hrun, hended, _, _, rfl, ?_, ?_, q1, q2, q3, q4.mono (by decide) (by decide)⟩
  · show Qs0 Z x h0 n0 (none) T10.heap _
    rw [e10]
    exact ⟨rfl, N, K, sb4, _, _, Fv_x, Fc_x, Va4⟩
  · show CHr Z consts_1 s.vm s.heap T10.vm T10.heap
    rw [e10, hh]
    exact C.trans (CHv.at X10 hZ hEL C.1)

theorem pn_sc0 : plainFor (⟨"java/lang/String", "<init>", "([C)V"⟩ : MethodName) = true := plainFor_of_name (by first | (simp [plainName, overriddenIn]; done) | decide +kernel)
theorem ef_sc0 (m : MethodId) (x0 : Addr) (x1 : Addr) : entryFrame m #[(.ref x0), (.ref x1)] 2 = mkF m 0 #[.val (.ref x0), .val (.ref x1)] [] := by first | (simp [entryFrame, mkF, argsToLocals, Value.category]; done) | rfl
theorem rm_sc0 (l : Launch) (Z : State) (a0 : Array Value) (hw : ∀ d ∈ tables_1, d.before a0 Z = true) (ws : List Jvm.Cond) (hEL : EW Z a0 consts_1) (x ca : Addr) (kc : ClassId) (fz : Nat → Int32) (zc : Int32) (fm : Value) (hS0 : Sf Z zc fm) (h0 : Heap) (n0 : Nat) (O : Old Z n0 h0) (E_x : Exa Z h0 x "java/lang/String") (Fv_x : Fld Z h0 x "java/lang/String" "value" "[B" .null) (Fc_x : Fld Z h0 x "java/lang/String" "coder" "B" (.int 0)) (g_x : n0 ≤ x) (V_c : Arv Z h0 ca kc .char (nI 0) (cont 0 fz) (.int 0)) :
    MetFree l (⟨"java/lang/String", "<init>", "([C)V"⟩ : MethodName) (head1 (Jvm.Cond.code (⟨"java/lang/String", "<init>", "([C)V"⟩ : MethodName) jdk_42_method_3_code 2 none :: ws) (rk 2 4 8 29)) (fun as_ U => as_ = #[(.ref x), (.ref ca)] ∧ Z.Warmed39 U.vm ∧ U.heap = h0 ∧ CHv Z consts_1 U.vm h0) (fun _ _ _ _ _ => True) (fun _ U o U' => ∃ v L, o = .returned v ∧ Qs0 Z x h0 n0 v U'.heap L ∧ CHr Z consts_1 U.vm U.heap U'.vm U'.heap ∧ ReturnedEndW U o U' L (rk 2 4 8 29).cells (rk 2 4 8 29).slots) := by
  refine MetFree.of_bodySF pn_sc0 hisR ?_
  intro p e s m args below meth c s₁ Bd hml0 hP hK
  obtain ⟨rfl, hZ, hh, H0⟩ := hP
  have hx := Bd.exec
  have hby := Bd.bytes
  have hml : c.maxLocals = 2 := hml0
  have hown : s.vm.findClass "java/lang/String" = some m.cls := findClass_of_methodNamed Bd.named
  have hnm := (name_of_methodNamed Bd.named Bd.method).1
  have X0 : Stand p l e (rk 2 4 8 29) (s.setVm s.vm) m #[(.ref x), (.ref ca)] below meth c s₁ [] 0 0 := Stand.of_body Bd
  have e0 : s₁.heap = h0 := by rw [← hh, Bd.state]; rfl
  replace hZ : Z.Warmed39 (s.setVm s.vm).vm := hZ
  replace hown : (s.setVm s.vm).vm.findClass "java/lang/String" = some m.cls := hown
  have N := Fr.nil n0
  have hS : s.Since s.vm s.heap.size := (State.WarmedH.refl s).since _
  have hk : s.heap.size ≤ h0.size := Nat.le_of_eq (by rw [hh])
  have C : CHr Z consts_1 s.vm h0 s.vm h0 := CHr.refl H0
  have K : Keep h0 h0 [x] := Keep.refl _ _
  refine gb m s₁ 0 #[.val (.ref x), .val (.ref ca)] [] (fun _ k => castTop (ef_sc0 m x ca) k) ?_
  have Sf_x : Safe Z consts_1 s.vm h0 x := own_safe_null hZ.alike E_x (wv hw 8 rfl) Fv_x
  let LL1 : Array Slot := #[.val (.ref x), .val (.ref ca)]
  refine sA 1 X0 hx (hb hby d28_0) rfl rfl rfl ?_
  refine sA 2 X0 hx (hb hby d28_1) rfl rfl rfl ?_
  refine sC 3 (0 : Int32) X0 hx (hb hby d28_2) rfl rfl ?_
  refine sA 4 X0 hx (hb hby d28_3) rfl rfl rfl ?_
  obtain ⟨cl2, Ar2, q2, S2, N2', H2, G2⟩ := id V_c
  refine gb m s₁ 5 LL1 [(.int (nI 0)), (.int (0 : Int32)), (.ref ca), (.ref x)] (fun t k => X0.arraylength hx (by rw [e0]; exact Ar2.1) (State.isArrayOf_alike hZ.alike Ar2.2.1) (g := (mkF m 4 LL1 [(.ref ca), (.int (0 : Int32)), (.ref ca), (.ref x)])) rfl rfl (hb hby d28_4) t (by rw [len_of S2 N2']; exact k)) ?_
  refine gb m s₁ 6 LL1 [.null, (.int (nI 0)), (.int (0 : Int32)), (.ref ca), (.ref x)] (fun _ k => XS.aconstNull X0.here hx rfl (hb hby d28_5) k) ?_
  obtain ⟨v3, _, ⟨T3, L3, k3, n3⟩, -, X3, hS3, hg3, ⟨Lc3, hQ3, l3, y3, z3, C3⟩, st3⟩ := X0.specialBackS hx (y := (⟨"java/lang/String", "<init>", "([CIILjava/lang/Void;)V"⟩ : MethodName)) rfl hown (mvT hZ (wv hw 13 rfl)) (mvT hZ (wv hw 14 rfl)) (mvT hZ (wv hw 16 rfl)) (by decide) (backOfSH (W := 0) (s := s) (EL := consts_1) (rm_sv0 l Z a0 hw [] hEL x ca _ fz zc fm hS0 h0 n0 O E_x Fv_x Fc_x g_x V_c) hZ (wv hw 16 rfl) (wv hw 9 rfl) (by decide) (by decide) hEL C.1) (g := (mkF m 6 LL1 [.null, (.int (nI 0)), (.int (0 : Int32)), (.ref ca), (.ref x)])) rfl (by rw [hml]; rfl) (Steps.refl _) (a := x) (argsL := [(.ref ca), (.int (0 : Int32)), (.int (nI 0)), .null]) (rest := []) (lenOf pd13 rfl) rfl (by show 2 * 0 + _ ≤ _; exact Nat.le_of_eq rfl) (hb hby d28_6) (fun _ _ => ⟨rfl, e0, (by decide : 0 + 4 ≤ _), (by decide : 0 + 8 ≤ _)⟩)
  dsimp only [Pt.U, Pt.locs, Pt.cells, Pt.slots] at X3 l3 y3 z3 st3 hQ3 hS3 hg3 C3
  rw [l3, y3, z3] at X3; clear l3 y3 z3
  have hown3 : (s.setVm T3.vm).vm.findClass "java/lang/String" = some m.cls := by rw [show (s.setVm T3.vm).vm = T3.vm from rfl, hS3.1.alike.findClass]; exact hown
  have hZ3 : Z.Warmed39 (s.setVm T3.vm).vm := State.Warmed39.trans (t := s.setVm s.vm) hZ hS3.1
  have ag3 := Stand.againW (s := s) X3 hS hS3 (Nat.le_trans (by rw [e0]; exact hk) hg3)
  replace X3 := ag3.1
  replace hS := ag3.2
  replace Sf_x := CHr.safe C3 E_x.lt Sf_x
  obtain ⟨rfl, Nq3, K3, r3, k23, vs3, Gv3, Gc3, Vr3⟩ := hQ3
  replace N := Fr.app N Nq3
  have nq4 : ca ≠ x := (Ne.symm (own_nev E_x (wv hw 8 rfl) V_c))
  replace E_x := E_x.keep K3
  replace V_c := V_c.keep K3 (ninS nq4 nin0)
  replace O := O.keep K3 (allS g_x all0)
  replace K := K.trans K3 (allS (Or.inl (by simp)) all0)
  replace Vr3 := own_arv0 (fun _ => 0) Vr3
  replace C := C.trans C3
  replace hZ := hZ3
  replace hown := hown3
  replace hk := Nat.le_refl T3.heap.size
  refine gb m T3 9 LL1 [] (fun _ k => st3.trans k) ?_
  obtain ⟨fs, hr, hrun, hended, q1, q2, q3, q4⟩ := X3.leaveW hS hk (v := none) (fun _ => rfl)
  refine ⟨_, _, X3.returnOut hx Bd.returns (hb hby d28_9) hr, hrun, hended, _, _, rfl, ?_, ?_, q1, q2, q3, q4.mono (by decide) (by decide)⟩
  · show Qs0 Z x h0 n0 (none) T3.heap _
    exact ⟨rfl, N, K, r3, _, _, Gv3, Gc3, Vr3⟩
  · show CHr Z consts_1 s.vm s.heap T3.vm T3.heap
    rw [hh]
    exact C.trans (CHv.at X3 hZ hEL C.1)

theorem own_isch (x : Int32) : ∃ r : Nat, nar .char x = Int32.ofNat r ∧ r < 65536 := by
  have h : ∀ u : UInt16, u.toUInt32.toInt32 = Int32.ofNat u.toNat := fun u => by
    apply Int32.toBitVec_inj.mp
    apply BitVec.eq_of_toNat_eq
    show u.toUInt32.toNat = (BitVec.ofNat 32 u.toNat).toNat
    have := u.toNat_lt
    rw [UInt16.toNat_toUInt32, BitVec.toNat_ofNat]; omega
  exact ⟨x.toUInt32.toUInt16.toNat, h _, UInt16.toNat_lt _⟩
theorem own_mask (x : Int32) : ∃ k : Nat, k < 252 ∧ (x &&& (2147483647 : Int32)) % (252 : Int32) = Int32.ofNat k := by
  have e := Jvm.Kit.i32_mask x 2147483647 (k := 31) (by decide) (by decide)
  refine ⟨((x &&& (2147483647 : Int32)) % (252 : Int32)).toInt.toNat, ?_, ?_⟩
  · rw [Int32.toInt_mod]; rw [show (252 : Int32).toInt = 252 from rfl]; have : 0 ≤ (x &&& (2147483647 : Int32)).toInt := by rw [e]; omega
    rw [Int.tmod_eq_emod_of_nonneg this]; omega
  · apply Int32.toInt_inj.mp
    have : 0 ≤ (x &&& (2147483647 : Int32)).toInt := by rw [e]; omega
    rw [Int32.toInt_mod, show (252 : Int32).toInt = 252 from rfl, Int.tmod_eq_emod_of_nonneg this, Int32.toInt_ofNat_of_lt (by show _ < 2 ^ 31; omega)]; omega
theorem own_mark (x : Int32) : ∃ k : Nat, k < 256 ∧ (x &&& (255 : Int32)).toUInt32.toUInt16.toUInt32.toInt32 = Int32.ofNat k := by
  obtain ⟨r, e, -⟩ := own_isch (x &&& 255)
  have h := Jvm.Kit.i32_mask x 255 (k := 8) (by decide) (by decide)
  have q : x &&& 255 = Int32.ofNat (x &&& 255).toInt.toNat := by
    apply Int32.toInt_inj.mp
    rw [Int32.toInt_ofNat_of_lt (by show _ < 2 ^ 31; omega)]; omega
  have w := own_i2cN (c := (x &&& 255).toInt.toNat) (by omega)
  rw [← q] at w
  exact ⟨(x &&& 255).toInt.toNat, by omega, w.trans q⟩
theorem own_chars {Z : State} {h : Heap} {a : Addr} {k : ClassId} {n : Nat} {f : Nat → Int32} (hn : n < 2147483648) (V : Arv Z h a k .char (Int32.ofNat n) (cont n f) (.int 0)) : ∃ t : Nat → Nat, (∀ i, t i < 65536) ∧ Arv Z h a k .char (Int32.ofNat n) (cont n (chf t)) (.int 0) := by
  refine ⟨fun i => if i < n then (f i).toInt.toNat % 65536 else 0, fun i => by dsimp only; split <;> omega, own_cong V fun i hi => ?_⟩
  obtain ⟨c, A, q, S, nn, H, G⟩ := V
  have g := G i (by rw [S, own_nat hn]; exact hi)
  rw [own_cget hi] at g
  have g2 : 0 ≤ (f i) ∧ (f i) ≤ 65535 := by simpa [fits] using g
  rw [Int32.le_iff_toInt_le, Int32.le_iff_toInt_le] at g2
  have e0 : (0 : Int32).toInt = 0 := rfl
  have e1 : (65535 : Int32).toInt = 65535 := rfl
  show f i = Int32.ofNat (if i < n then (f i).toInt.toNat % 65536 else 0)
  rw [if_pos hi]
  apply Int32.toInt_inj.mp
  rw [Int32.toInt_ofNat_of_lt (by show _ < 2 ^ 31; omega)]; omega
def cq (kk mk : Nat) (t : Nat → Nat) : Nat → Nat := fun i => if i < 252 then (if i = kk then mk else 0) else t (i - 252)
theorem own_cqb {kk mk : Nat} {t : Nat → Nat} (hm : mk < 256) (ht : ∀ i, t i < 65536) : (∀ i, cq kk mk t i < 65536) ∧ (∀ i, i < 252 → cq kk mk t i < 55296) ∧ ∀ j, j < 8 → cq kk mk t (252 + j) = t j := by
  refine ⟨fun i => ?_, fun i hi => ?_, fun j hj => ?_⟩
  · unfold cq; split
    · split <;> omega
    · exact ht _
  · unfold cq; rw [if_pos hi]; split <;> omega
  · unfold cq; rw [if_neg (by omega), show 252 + j - 252 = j by omega]
theorem own_c260 {kk mk : Nat} {t : Nat → Nat} {fz g0 g1 g2 g3 g4 g5 g6 g7 g8 : Nat → Int32} (hm : mk < 256) (hk : kk < 252) (ht : ∀ i, t i < 65536) (hz : fz = fun _ => 0) (h0 : g0 = upd fz kk (nar .char (Int32.ofNat mk))) (h1 : g1 = upd g0 252 (nar .char (Int32.ofNat (t 0)))) (h2 : g2 = upd g1 253 (nar .char (Int32.ofNat (t 1)))) (h3 : g3 = upd g2 254 (nar .char (Int32.ofNat (t 2)))) (h4 : g4 = upd g3 255 (nar .char (Int32.ofNat (t 3)))) (h5 : g5 = upd g4 256 (nar .char (Int32.ofNat (t 4)))) (h6 : g6 = upd g5 257 (nar .char (Int32.ofNat (t 5)))) (h7 : g7 = upd g6 258 (nar .char (Int32.ofNat (t 6)))) (h8 : g8 = upd g7 259 (nar .char (Int32.ofNat (t 7)))) : ∀ i, i < 260 → g8 i = chf (cq kk mk t) i := by
  intro i hi
  subst h8 h7 h6 h5 h4 h3 h2 h1 h0 hz
  simp only [own_narc (ht _), own_narc (show mk < 65536 by omega)]
  unfold upd chf cq
  by_cases q : i < 252
  · rw [if_neg (by omega), if_neg (by omega), if_neg (by omega), if_neg (by omega), if_neg (by omega), if_neg (by omega), if_neg (by omega), if_neg (by omega), if_pos q]
    split
    · rfl
    · rfl
  · rw [if_neg q]
    have c : i = 252 ∨ i = 253 ∨ i = 254 ∨ i = 255 ∨ i = 256 ∨ i = 257 ∨ i = 258 ∨ i = 259 := by omega
    rcases c with rfl | rfl | rfl | rfl | rfl | rfl | rfl | rfl <;> simp
theorem own_stA {t : Nat → Nat} {i : Nat} (h : ¬ i < 8) : i = stp t i := by unfold stp; rw [if_pos (by omega)]
theorem own_stB {t : Nat → Nat} {i : Nat} (h : i < 8) (q : ¬ (i + 1 < 8 ∧ hiS (t i) = true ∧ loS (t (i + 1)) = true)) : i + 1 = stp t i := by
  unfold stp adv; rw [if_neg (by omega), if_neg]; unfold pr; simp only [Bool.and_eq_true, decide_eq_true_eq]; intro z; exact q ⟨z.1.1, z.1.2, z.2⟩
theorem own_stC {t : Nat → Nat} {i : Nat} (h : i + 1 < 8) (h1 : ¬ hiS (t i) = false) (h2 : ¬ loS (t (i + 1)) = false) : i + 2 = stp t i := by
  unfold stp adv; rw [if_neg (by omega), if_pos]; unfold pr; simp at h1 h2; simp [h, h1, h2]
theorem own_stle {t : Nat → Nat} {i : Nat} (h : i ≤ 8) : stp t i ≤ 8 ∧ i ≤ stp t i := by
  have := own_adv t 8 i
  unfold stp; split <;> omega
theorem own_st4 {t : Nat → Nat} : 4 ≤ stp t (stp t (stp t (stp t 0))) := by
  have a0 := own_adv t 8 0
  have s1 : stp t 0 = adv t 8 0 := rfl
  have a1 := own_adv t 8 (stp t 0)
  have s2 : stp t (stp t 0) = adv t 8 (stp t 0) := by show (if 8 ≤ stp t 0 then _ else _) = _; rw [if_neg (by omega)]
  have a2 := own_adv t 8 (stp t (stp t 0))
  have s3 : stp t (stp t (stp t 0)) = adv t 8 (stp t (stp t 0)) := by show (if 8 ≤ stp t (stp t 0) then _ else _) = _; rw [if_neg (by omega)]
  have a3 := own_adv t 8 (stp t (stp t (stp t 0)))
  have s4 : stp t (stp t (stp t (stp t 0))) = adv t 8 (stp t (stp t (stp t 0))) := by show (if 8 ≤ stp t (stp t (stp t 0)) then _ else _) = _; rw [if_neg (by omega)]
  omega

theorem d67_0 : decode c67 0 = .ok (.lload_n 0, 1) := by decide +kernel
theorem d67_1 : decode c67 1 = .ok (.ldc2_w 7, 3) := by decide +kernel
theorem d67_4 : decode c67 4 = .ok (.land, 1) := by decide +kernel
theorem d67_5 : decode c67 5 = .ok (.l2i, 1) := by decide +kernel
theorem d67_6 : decode c67 6 = .ok (.istore_n 3, 1) := by decide +kernel
theorem d67_7 : decode c67 7 = .ok (.iload_n 2, 1) := by decide +kernel
theorem d67_8 : decode c67 8 = .ok (.iconst 3, 1) := by decide +kernel
theorem d67_9 : decode c67 9 = .ok (.iand, 1) := by decide +kernel
theorem d67_10 : decode c67 10 = .ok (.istore 4, 2) := by decide +kernel
theorem d67_12 : decode c67 12 = .ok (.iload 4, 2) := by decide +kernel
theorem d67_14 : decode c67 14 = .ok (.ifCond .ne 6, 3) := by decide +kernel
theorem d67_17 : decode c67 17 = .ok (.iload_n 3, 1) := by decide +kernel
theorem d67_18 : decode c67 18 = .ok (.i2c, 1) := by decide +kernel
theorem d67_19 : decode c67 19 = .ok (.ireturn, 1) := by decide +kernel
theorem d67_20 : decode c67 20 = .ok (.iload 4, 2) := by decide +kernel
theorem d67_22 : decode c67 22 = .ok (.iconst 1, 1) := by decide +kernel
theorem d67_23 : decode c67 23 = .ok (.if_icmp .ne 13, 3) := by decide +kernel
theorem d67_26 : decode c67 26 = .ok (.ldc 9, 2) := by decide +kernel
theorem d67_28 : decode c67 28 = .ok (.iload_n 3, 1) := by decide +kernel
theorem d67_29 : decode c67 29 = .ok (.sipush 1023, 3) := by decide +kernel
theorem d67_32 : decode c67 32 = .ok (.iand, 1) := by decide +kernel
theorem d67_33 : decode c67 33 = .ok (.ior, 1) := by decide +kernel
theorem d67_34 : decode c67 34 = .ok (.i2c, 1) := by decide +kernel
theorem d67_35 : decode c67 35 = .ok (.ireturn, 1) := by decide +kernel
theorem d67_36 : decode c67 36 = .ok (.iload 4, 2) := by decide +kernel
theorem d67_38 : decode c67 38 = .ok (.iconst 2, 1) := by decide +kernel
theorem d67_39 : decode c67 39 = .ok (.if_icmp .ne 13, 3) := by decide +kernel
theorem d67_42 : decode c67 42 = .ok (.ldc 10, 2) := by decide +kernel
theorem d67_44 : decode c67 44 = .ok (.iload_n 3, 1) := by decide +kernel
theorem d67_45 : decode c67 45 = .ok (.sipush 1023, 3) := by decide +kernel
theorem d67_48 : decode c67 48 = .ok (.iand, 1) := by decide +kernel
theorem d67_49 : decode c67 49 = .ok (.ior, 1) := by decide +kernel
theorem d67_50 : decode c67 50 = .ok (.i2c, 1) := by decide +kernel
theorem d67_51 : decode c67 51 = .ok (.ireturn, 1) := by decide +kernel
theorem d67_52 : decode c67 52 = .ok (.iload_n 3, 1) := by decide +kernel
theorem d67_53 : decode c67 53 = .ok (.bipush 127, 2) := by decide +kernel
theorem d67_55 : decode c67 55 = .ok (.iand, 1) := by decide +kernel
theorem d67_56 : decode c67 56 = .ok (.i2c, 1) := by decide +kernel
theorem d67_57 : decode c67 57 = .ok (.ireturn, 1) := by decide +kernel
theorem pn_chr : plainFor (⟨"com/example/helvedir/helvedir/DiagnosticQuotePinLaw", "ch", "(JI)C"⟩ : MethodName) = true := plainFor_of_name (by first | (simp [plainName, overriddenIn]; done) | decide +kernel)
theorem ef_chr (m : MethodId) (x0 : Int64) (x1 : Int32) : entryFrame m #[(.long x0), (.int x1)] 5 = mkF m 0 #[.val (.long x0), .second, .val (.int x1), .unset, .unset] [] := by first | (simp [entryFrame, mkF, argsToLocals, Value.category]; done) | rfl
theorem rm_chr (l : Launch) (Z : State) (a0 : Array Value) (hw : ∀ d ∈ tables_1, d.before a0 Z = true) (ws : List Jvm.Cond) (xj : Int64) (xk : Int32) (h0 : Heap) (n0 : Nat) (O : Old Z n0 h0)  :
    MF l Z h0 (⟨"com/example/helvedir/helvedir/DiagnosticQuotePinLaw", "ch", "(JI)C"⟩ : MethodName) c67 5 (some .char) ws (rk 0 0 0 0) #[(.long xj), (.int xk)] (Qch h0 n0) := by
  refine sg n0 [] pn_chr rfl (fun m => ef_chr m xj xk) fun p e s m below meth c s₁ Bd hml hZ hh hx B hown hnm X0 e0 N K => ?_
  let LL1 : Array Slot := #[.val (.long xj), .second, .val (.int xk), .unset, .unset]
  refine gb m s₁ 1 LL1 [(.long xj)] (fun _ k => XS.lloadN X0.here hx rfl (B d67_0) rfl k) ?_
  refine gb m s₁ 4 LL1 [(.long (65535 : Int64)), (.long xj)] (X0.ldc2Long hx hown (mvT hZ (wv hw 5 rfl)) (g := (mkF m 1 LL1 [(.long xj)])) rfl (B d67_1)) ?_
  refine gb m s₁ 5 LL1 [(.long (xj &&& (65535 : Int64)))] (fun _ k => XS.land X0.here hx rfl (B d67_4) rfl k) ?_
  refine gb m s₁ 6 LL1 [(.int ((xj &&& (65535 : Int64)).toInt32))] (fun _ k => XS.l2i X0.here hx rfl (B d67_5) rfl k) ?_
  let LL2 : Array Slot := #[.val (.long xj), .second, .val (.int xk), .val (.int ((xj &&& (65535 : Int64)).toInt32)), .unset]
  refine gb m s₁ 7 LL2 [] (fun _ k => XS.istoreN X0.here hx rfl (B d67_6) rfl (l' := LL2) rfl k) ?_
  refine sI 8 X0 hx (B d67_7) rfl rfl ?_
  refine sC 9 (3 : Int32) X0 hx (B d67_8) rfl rfl ?_
  refine gb m s₁ 10 LL2 [(.int (xk &&& (3 : Int32)))] (fun _ k => XS.iand X0.here hx rfl (B d67_9) rfl k) ?_
  let LL3 : Array Slot := #[.val (.long xj), .second, .val (.int xk), .val (.int ((xj &&& (65535 : Int64)).toInt32)), .val (.int (xk &&& (3 : Int32)))]
  refine gb m s₁ 12 LL3 [] (fun _ k => XS.istore X0.here hx rfl (B d67_10) rfl (l' := LL3) rfl k) ?_
  refine tI 14 X0 hx (B d67_12) rfl rfl ?_
  by_cases hc14_4 : (xk &&& (3 : Int32)) = (0 : Int32)
  ·
   refine gb m s₁ 17 LL3 [] (fun _ k => XS.ifNo X0.here hx rfl (B d67_14) rfl ((if0 _ _).trans (teq hc14_4).2) k) ?_
   refine sI 18 X0 hx (B d67_17) rfl rfl ?_
   refine gb m s₁ 19 LL3 [(.int (((xj &&& (65535 : Int64)).toInt32).toUInt32.toUInt16.toUInt32.toInt32))] (fun _ k => XS.i2c X0.here hx rfl (B d67_18) rfl k) ?_
   obtain ⟨fs, hr, hrun, hended, hW, hsame⟩ := X0.leave (v := some (.int (nar .char (((xj &&& (65535 : Int64)).toInt32).toUInt32.toUInt16.toUInt32.toInt32)))) (fun h => by rw [Bd.returns] at h; cases h)
   refine ⟨_, _, retN X0 hx (t := .char) Bd.returns (by simp) (B d67_19) hr, hrun, hended, _, _, rfl, ?_, ⟨_, rfl⟩, hW, hsame.mono (by decide) (by decide)⟩
   show Qch h0 n0 (some (.int (nar .char (((xj &&& (65535 : Int64)).toInt32).toUInt32.toUInt16.toUInt32.toInt32)))) s₁.heap _
   rw [e0]
   obtain ⟨r9, e9, b9⟩ := own_isch (((xj &&& (65535 : Int64)).toInt32).toUInt32.toUInt16.toUInt32.toInt32)
   exact ⟨r9, congrArg (fun z => some (Value.int z)) e9, N, rfl, b9⟩
  ·
   refine gb m s₁ 20 LL3 [] (fun _ k => XS.ifYes X0.here hx rfl (pc0 := 14) (pc' := 20) rfl (B d67_14) rfl ((if0 _ _).trans (feq hc14_4).2) (by decide) (by decide) k) ?_
   refine tI 22 X0 hx (B d67_20) rfl rfl ?_
   refine sC 23 (1 : Int32) X0 hx (B d67_22) rfl rfl ?_
   by_cases hc23_5 : (xk &&& (3 : Int32)) = (1 : Int32)
   ·
    refine gb m s₁ 26 LL3 [] (fun _ k => XS.icmpNo X0.here hx rfl (B d67_23) rfl (teq hc23_5).2 k) ?_
    refine gb m s₁ 28 LL3 [(.int (55296 : Int32))] (X0.ldcInt hx hown (mvT hZ (wv hw 221 rfl)) (g := (mkF m 26 LL3 [])) rfl (B d67_26)) ?_
    refine sI 29 X0 hx (B d67_28) rfl rfl ?_
    refine sS 32 (1023 : Int32) X0 hx (B d67_29) rfl rfl ?_
    refine gb m s₁ 33 LL3 [(.int (((xj &&& (65535 : Int64)).toInt32) &&& (1023 : Int32))), (.int (55296 : Int32))] (fun _ k => XS.iand X0.here hx rfl (B d67_32) rfl k) ?_
    refine gb m s₁ 34 LL3 [(.int ((55296 : Int32) ||| (((xj &&& (65535 : Int64)).toInt32) &&& (1023 : Int32))))] (fun _ k => XS.ior X0.here hx rfl (B d67_33) rfl k) ?_
    refine gb m s₁ 35 LL3 [(.int (((55296 : Int32) ||| (((xj &&& (65535 : Int64)).toInt32) &&& (1023 : Int32))).toUInt32.toUInt16.toUInt32.toInt32))] (fun _ k => XS.i2c X0.here hx rfl (B d67_34) rfl k) ?_
    obtain ⟨fs, hr, hrun, hended, hW, hsame⟩ := X0.leave (v := some (.int (nar .char (((55296 : Int32) ||| (((xj &&& (65535 : Int64)).toInt32) &&& (1023 : Int32))).toUInt32.toUInt16.toUInt32.toInt32)))) (fun h => by rw [Bd.returns] at h; cases h)
    refine ⟨_, _, retN X0 hx (t := .char) Bd.returns (by simp) (B d67_35) hr, hrun, hended, _, _, rfl, ?_, ⟨_, rfl⟩, hW, hsame.mono (by decide) (by decide)⟩
    show Qch h0 n0 (some (.int (nar .char (((55296 : Int32) ||| (((xj &&& (65535 : Int64)).toInt32) &&& (1023 : Int32))).toUInt32.toUInt16.toUInt32.toInt32)))) s₁.heap _
    rw [e0]
    obtain ⟨r9, e9, b9⟩ := own_isch (((55296 : Int32) ||| (((xj &&& (65535 : Int64)).toInt32) &&& (1023 : Int32))).toUInt32.toUInt16.toUInt32.toInt32)
    exact ⟨r9, congrArg (fun z => some (Value.int z)) e9, N, rfl, b9⟩
   ·
    refine gb m s₁ 36 LL3 [] (fun _ k => XS.icmpYes X0.here hx rfl (pc0 := 23) (pc' := 36) rfl (B d67_23) rfl (feq hc23_5).2 (by decide) (by decide) k) ?_
    refine tI 38 X0 hx (B d67_36) rfl rfl ?_
    refine sC 39 (2 : Int32) X0 hx (B d67_38) rfl rfl ?_
    by_cases hc39_6 : (xk &&& (3 : Int32)) = (2 : Int32)
    ·
     refine gb m s₁ 42 LL3 [] (fun _ k => XS.icmpNo X0.here hx rfl (B d67_39) rfl (teq hc39_6).2 k) ?_
     refine gb m s₁ 44 LL3 [(.int (56320 : Int32))] (X0.ldcInt hx hown (mvT hZ (wv hw 232 rfl)) (g := (mkF m 42 LL3 [])) rfl (B d67_42)) ?_
     refine sI 45 X0 hx (B d67_44) rfl rfl ?_
     refine sS 48 (1023 : Int32) X0 hx (B d67_45) rfl rfl ?_
     refine gb m s₁ 49 LL3 [(.int (((xj &&& (65535 : Int64)).toInt32) &&& (1023 : Int32))), (.int (56320 : Int32))] (fun _ k => XS.iand X0.here hx rfl (B d67_48) rfl k) ?_
     refine gb m s₁ 50 LL3 [(.int ((56320 : Int32) ||| (((xj &&& (65535 : Int64)).toInt32) &&& (1023 : Int32))))] (fun _ k => XS.ior X0.here hx rfl (B d67_49) rfl k) ?_
     refine gb m s₁ 51 LL3 [(.int (((56320 : Int32) ||| (((xj &&& (65535 : Int64)).toInt32) &&& (1023 : Int32))).toUInt32.toUInt16.toUInt32.toInt32))] (fun _ k => XS.i2c X0.here hx rfl (B d67_50) rfl k) ?_
     obtain ⟨fs, hr, hrun, hended, hW, hsame⟩ := X0.leave (v := some (.int (nar .char (((56320 : Int32) ||| (((xj &&& (65535 : Int64)).toInt32) &&& (1023 : Int32))).toUInt32.toUInt16.toUInt32.toInt32)))) (fun h => by rw [Bd.returns] at h; cases h)
     refine ⟨_, _, retN X0 hx (t := .char) Bd.returns (by simp) (B d67_51) hr, hrun, hended, _, _, rfl, ?_, ⟨_, rfl⟩, hW, hsame.mono (by decide) (by decide)⟩
     show Qch h0 n0 (some (.int (nar .char (((56320 : Int32) ||| (((xj &&& (65535 : Int64)).toInt32) &&& (1023 : Int32))).toUInt32.toUInt16.toUInt32.toInt32)))) s₁.heap _
     rw [e0]
     obtain ⟨r9, e9, b9⟩ := own_isch (((56320 : Int32) ||| (((xj &&& (65535 : Int64)).toInt32) &&& (1023 : Int32))).toUInt32.toUInt16.toUInt32.toInt32)
     exact ⟨r9, congrArg (fun z => some (Value.int z)) e9, N, rfl, b9⟩
    ·
     refine gb m s₁ 52 LL3 [] (fun _ k => XS.icmpYes X0.here hx rfl (pc0 := 39) (pc' := 52) rfl (B d67_39) rfl (feq hc39_6).2 (by decide) (by decide) k) ?_
     refine sI 53 X0 hx (B d67_52) rfl rfl ?_
     refine sB 55 (127 : Int32) X0 hx (B d67_53) rfl rfl ?_
     refine gb m s₁ 56 LL3 [(.int (((xj &&& (65535 : Int64)).toInt32) &&& (127 : Int32)))] (fun _ k => XS.iand X0.here hx rfl (B d67_55) rfl k) ?_
     refine gb m s₁ 57 LL3 [(.int ((((xj &&& (65535 : Int64)).toInt32) &&& (127 : Int32)).toUInt32.toUInt16.toUInt32.toInt32))] (fun _ k => XS.i2c X0.here hx rfl (B d67_56) rfl k) ?_
     obtain ⟨fs, hr, hrun, hended, hW, hsame⟩ := X0.leave (v := some (.int (nar .char ((((xj &&& (65535 : Int64)).toInt32) &&& (127 : Int32)).toUInt32.toUInt16.toUInt32.toInt32)))) (fun h => by rw [Bd.returns] at h; cases h)
     refine ⟨_, _, retN X0 hx (t := .char) Bd.returns (by simp) (B d67_57) hr, hrun, hended, _, _, rfl, ?_, ⟨_, rfl⟩, hW, hsame.mono (by decide) (by decide)⟩
     show Qch h0 n0 (some (.int (nar .char ((((xj &&& (65535 : Int64)).toInt32) &&& (127 : Int32)).toUInt32.toUInt16.toUInt32.toInt32)))) s₁.heap _
     rw [e0]
     obtain ⟨r9, e9, b9⟩ := own_isch ((((xj &&& (65535 : Int64)).toInt32) &&& (127 : Int32)).toUInt32.toUInt16.toUInt32.toInt32)
     exact ⟨r9, congrArg (fun z => some (Value.int z)) e9, N, rfl, b9⟩

theorem d68_0 : decode c68 0 = .ok (.iload_n 1, 1) := by decide +kernel
theorem d68_1 : decode c68 1 = .ok (.bipush 8, 2) := by decide +kernel
theorem d68_3 : decode c68 3 = .ok (.if_icmp .lt 5, 3) := by decide +kernel
theorem d68_6 : decode c68 6 = .ok (.iload_n 1, 1) := by decide +kernel
theorem d68_7 : decode c68 7 = .ok (.ireturn, 1) := by decide +kernel
theorem d68_8 : decode c68 8 = .ok (.iload_n 1, 1) := by decide +kernel
theorem d68_9 : decode c68 9 = .ok (.iconst 1, 1) := by decide +kernel
theorem d68_10 : decode c68 10 = .ok (.iadd, 1) := by decide +kernel
theorem d68_11 : decode c68 11 = .ok (.bipush 8, 2) := by decide +kernel
theorem d68_13 : decode c68 13 = .ok (.if_icmp .ge 27, 3) := by decide +kernel
theorem d68_16 : decode c68 16 = .ok (.aload_n 0, 1) := by decide +kernel
theorem d68_17 : decode c68 17 = .ok (.iload_n 1, 1) := by decide +kernel
theorem d68_18 : decode c68 18 = .ok (.caload, 1) := by decide +kernel
theorem d68_19 : decode c68 19 = .ok (.invokestatic 13, 3) := by decide +kernel
theorem d68_22 : decode c68 22 = .ok (.ifCond .eq 18, 3) := by decide +kernel
theorem d68_25 : decode c68 25 = .ok (.aload_n 0, 1) := by decide +kernel
theorem d68_26 : decode c68 26 = .ok (.iload_n 1, 1) := by decide +kernel
theorem d68_27 : decode c68 27 = .ok (.iconst 1, 1) := by decide +kernel
theorem d68_28 : decode c68 28 = .ok (.iadd, 1) := by decide +kernel
theorem d68_29 : decode c68 29 = .ok (.caload, 1) := by decide +kernel
theorem d68_30 : decode c68 30 = .ok (.invokestatic 19, 3) := by decide +kernel
theorem d68_33 : decode c68 33 = .ok (.ifCond .eq 7, 3) := by decide +kernel
theorem d68_36 : decode c68 36 = .ok (.iload_n 1, 1) := by decide +kernel
theorem d68_37 : decode c68 37 = .ok (.iconst 2, 1) := by decide +kernel
theorem d68_38 : decode c68 38 = .ok (.iadd, 1) := by decide +kernel
theorem d68_39 : decode c68 39 = .ok (.ireturn, 1) := by decide +kernel
theorem d68_40 : decode c68 40 = .ok (.iload_n 1, 1) := by decide +kernel
theorem d68_41 : decode c68 41 = .ok (.iconst 1, 1) := by decide +kernel
theorem d68_42 : decode c68 42 = .ok (.iadd, 1) := by decide +kernel
theorem d68_43 : decode c68 43 = .ok (.ireturn, 1) := by decide +kernel
theorem pn_stp : plainFor (⟨"com/example/helvedir/helvedir/DiagnosticQuotePinLaw", "step", "([CI)I"⟩ : MethodName) = true := plainFor_of_name (by first | (simp [plainName, overriddenIn]; done) | decide +kernel)
theorem ef_stp (m : MethodId) (x0 : Addr) (x1 : Int32) : entryFrame m #[(.ref x0), (.int x1)] 2 = mkF m 0 #[.val (.ref x0), .val (.int x1)] [] := by first | (simp [entryFrame, mkF, argsToLocals, Value.category]; done) | rfl
theorem rm_stp (l : Launch) (Z : State) (a0 : Array Value) (hw : ∀ d ∈ tables_1, d.before a0 Z = true) (ws : List Jvm.Cond) (ca : Addr) (kc : ClassId) (tf : Nat → Nat) (xi : Nat) (h0 : Heap) (n0 : Nat) (O : Old Z n0 h0) (V_c : Arv Z h0 ca kc .char (nI 8) (cont 8 (chf tf)) (.int 0)) (hch : ∀ i, tf i < 65536) (hy0 : xi ≤ 8) :
    MF l Z h0 (⟨"com/example/helvedir/helvedir/DiagnosticQuotePinLaw", "step", "([CI)I"⟩ : MethodName) c68 2 (some .int) ws (rk 1 0 0 12) #[(.ref ca), (.int (nI xi))] (Qpure (some (.int (nI (stp tf xi)))) h0 n0) := by
  refine sg n0 [] pn_stp rfl (fun m => ef_stp m ca (nI xi)) fun p e s m below meth c s₁ Bd hml hZ hh hx B hown hnm X0 e0 N K => ?_
  have hci := hch xi
  have hcj := hch (xi + 1)
  let LL1 : Array Slot := #[.val (.ref ca), .val (.int (nI xi))]
  refine sI 1 X0 hx (B d68_0) rfl rfl ?_
  refine sB 3 (8 : Int32) X0 hx (B d68_1) rfl rfl ?_
  by_cases hc3_2 : xi < 8
  ·
   refine gb m s₁ 8 LL1 [] (fun _ k => XS.icmpYes X0.here hx rfl (pc0 := 3) (pc' := 8) rfl (B d68_3) rfl (tlt ((own_nlt (a := xi) (b := 8) (by omega) (by omega)).mpr hc3_2)).1 (by decide) (by decide) k) ?_
   refine sI 9 X0 hx (B d68_8) rfl rfl ?_
   refine sC 10 (1 : Int32) X0 hx (B d68_9) rfl rfl ?_
   refine gb m s₁ 11 LL1 [(.int ((nI xi) + (1 : Int32)))] (fun _ k => XS.iadd X0.here hx rfl (B d68_10) rfl k) ?_
   rw [show ((nI xi) + (1 : Int32)) = (nI (xi + 1)) from own_add _ _]
   refine sB 13 (8 : Int32) X0 hx (B d68_11) rfl rfl ?_
   by_cases hc13_3 : (xi + 1) < 8
   ·
    refine gb m s₁ 16 LL1 [] (fun _ k => XS.icmpNo X0.here hx rfl (B d68_13) rfl (tlt ((own_nlt (a := (xi + 1)) (b := 8) (by omega) (by omega)).mpr hc13_3)).2.1 k) ?_
    refine sA 17 X0 hx (B d68_16) rfl rfl rfl ?_
    refine sI 18 X0 hx (B d68_17) rfl rfl ?_
    obtain ⟨cl4, Ar4, q4, S4, N4', H4, G4⟩ := id V_c
    refine gb m s₁ 19 LL1 [(.int (nI (tf xi)))] (X0.caload hx (j := (nI xi)) (v := (.int (nI (tf xi)))) (by rw [e0]; exact Ar4.1) (State.isArrayOf_alike hZ.alike Ar4.2.1) Ar4.2.2 (inb_of S4 ⟨own_neg (a := xi) (by omega), (own_nlt (a := xi) (b := 8) (by omega) (by omega)).mpr (by omega)⟩) (Has.at H4 (inb_of S4 ⟨own_neg (a := xi) (by omega), (own_nlt (a := xi) (b := 8) (by omega) (by omega)).mpr (by omega)⟩) (own_at (n := 8) (i := xi) (f := (chf tf)) (by omega) (by omega))) (g := (mkF m 18 LL1 [(.int (nI xi)), (.ref ca)])) rfl rfl (B d68_18)) ?_
    have hy5_0 : (tf xi) < 65536 := by omega
    obtain ⟨v5, T5, Lc5, X5, hQ5, st5⟩ := cS LL1 [] X0 hx hZ hown hw e0 hml 218 219 3 220 rfl rfl rfl rfl (by decide) (rm_high l Z a0 hw [] (tf xi) h0 n0 O hy5_0) pd15 rfl rfl (B d68_19) rfl
    obtain ⟨rfl, Nq5, e5⟩ := hQ5
    replace N := Fr.app N Nq5
    refine gb m T5 22 LL1 [(.int (b2i (hiS (tf xi))))] (st5) ?_
    by_cases hc22_6 : (hiS (tf xi)) = false
    ·
     refine gb m T5 40 LL1 [] (fun _ k => XS.ifYes X5.here hx rfl (pc0 := 22) (pc' := 40) rfl (B d68_22) rfl ((if0 _ _).trans (teq (own_b2i.mpr hc22_6)).1) (by decide) (by decide) k) ?_
     refine sI 41 X5 hx (B d68_40) rfl rfl ?_
     refine sC 42 (1 : Int32) X5 hx (B d68_41) rfl rfl ?_
     refine gb m T5 43 LL1 [(.int ((nI xi) + (1 : Int32)))] (fun _ k => XS.iadd X5.here hx rfl (B d68_42) rfl k) ?_
     rw [show ((nI xi) + (1 : Int32)) = (nI (xi + 1)) from own_add _ _]
     obtain ⟨fs, hr, hrun, hended, hW, hsame⟩ := X5.leave (v := some (.int (nI (xi + 1)))) (fun h => by rw [Bd.returns] at h; cases h)
     refine ⟨_, _, retOut X5 hx Bd.returns rfl (Or.inl ⟨rfl, Or.inl rfl, _, rfl⟩) (B d68_43) hr, hrun, hended, _, _, rfl, ?_, ⟨_, rfl⟩, hW, hsame.mono (by decide) (by decide)⟩
     show Qpure (some (.int (nI (stp tf xi)))) h0 n0 (some (.int (nI (xi + 1)))) T5.heap _
     rw [e5]
     exact ⟨congrArg (fun z => some (Value.int (nI z))) (own_stB (by omega) (fun z => absurd z.2.1 (by rw [hc22_6]; decide))), N, rfl⟩
    ·
     refine gb m T5 25 LL1 [] (fun _ k => XS.ifNo X5.here hx rfl (B d68_22) rfl ((if0 _ _).trans (feq (mt own_b2i.mp hc22_6)).1) k) ?_
     refine sA 26 X5 hx (B d68_25) rfl rfl rfl ?_
     refine sI 27 X5 hx (B d68_26) rfl rfl ?_
     refine sC 28 (1 : Int32) X5 hx (B d68_27) rfl rfl ?_
     refine gb m T5 29 LL1 [(.int ((nI xi) + (1 : Int32))), (.ref ca)] (fun _ k => XS.iadd X5.here hx rfl (B d68_28) rfl k) ?_
     rw [show ((nI xi) + (1 : Int32)) = (nI (xi + 1)) from own_add _ _]
     obtain ⟨cl7, Ar7, q7, S7, N7', H7, G7⟩ := id V_c
     refine gb m T5 30 LL1 [(.int (nI (tf (xi + 1))))] (X5.caload hx (j := (nI (xi + 1))) (v := (.int (nI (tf (xi + 1))))) (by rw [e5]; exact Ar7.1) (State.isArrayOf_alike hZ.alike Ar7.2.1) Ar7.2.2 (inb_of S7 ⟨own_neg (a := (xi + 1)) (by omega), (own_nlt (a := (xi + 1)) (b := 8) (by omega) (by omega)).mpr (by omega)⟩) (Has.at H7 (inb_of S7 ⟨own_neg (a := (xi + 1)) (by omega), (own_nlt (a := (xi + 1)) (b := 8) (by omega) (by omega)).mpr (by omega)⟩) (own_at (n := 8) (i := (xi + 1)) (f := (chf tf)) (by omega) (by omega))) (g := (mkF m 29 LL1 [(.int (nI (xi + 1))), (.ref ca)])) rfl rfl (B d68_29)) ?_
     have hy8_0 : (tf (xi + 1)) < 65536 := by omega
     obtain ⟨v8, T8, Lc8, X8, hQ8, st8⟩ := cS LL1 [] X5 hx hZ hown hw e5 hml 314 315 3 316 rfl rfl rfl rfl (by decide) (rm_low l Z a0 hw [] (tf (xi + 1)) h0 n0 O hy8_0) pd15 rfl rfl (B d68_30) rfl
     obtain ⟨rfl, Nq8, e8⟩ := hQ8
     replace N := Fr.app N Nq8
     refine gb m T8 33 LL1 [(.int (b2i (loS (tf (xi + 1)))))] (st8) ?_
     by_cases hc33_9 : (loS (tf (xi + 1))) = false
     ·
      refine gb m T8 40 LL1 [] (fun _ k => XS.ifYes X8.here hx rfl (pc0 := 33) (pc' := 40) rfl (B d68_33) rfl ((if0 _ _).trans (teq (own_b2i.mpr hc33_9)).1) (by decide) (by decide) k) ?_
      refine sI 41 X8 hx (B d68_40) rfl rfl ?_
      refine sC 42 (1 : Int32) X8 hx (B d68_41) rfl rfl ?_
      refine gb m T8 43 LL1 [(.int ((nI xi) + (1 : Int32)))] (fun _ k => XS.iadd X8.here hx rfl (B d68_42) rfl k) ?_
      rw [show ((nI xi) + (1 : Int32)) = (nI (xi + 1)) from own_add _ _]
      obtain ⟨fs, hr, hrun, hended, hW, hsame⟩ := X8.leave (v := some (.int (nI (xi + 1)))) (fun h => by rw [Bd.returns] at h; cases h)
      refine ⟨_, _, retOut X8 hx Bd.returns rfl (Or.inl ⟨rfl, Or.inl rfl, _, rfl⟩) (B d68_43) hr, hrun, hended, _, _, rfl, ?_, ⟨_, rfl⟩, hW, hsame.mono (by decide) (by decide)⟩
      show Qpure (some (.int (nI (stp tf xi)))) h0 n0 (some (.int (nI (xi + 1)))) T8.heap _
      rw [e8]
      exact ⟨congrArg (fun z => some (Value.int (nI z))) (own_stB (by omega) (fun z => absurd z.2.2 (by rw [hc33_9]; decide))), N, rfl⟩
     ·
      refine gb m T8 36 LL1 [] (fun _ k => XS.ifNo X8.here hx rfl (B d68_33) rfl ((if0 _ _).trans (feq (mt own_b2i.mp hc33_9)).1) k) ?_
      refine sI 37 X8 hx (B d68_36) rfl rfl ?_
      refine sC 38 (2 : Int32) X8 hx (B d68_37) rfl rfl ?_
      refine gb m T8 39 LL1 [(.int ((nI xi) + (2 : Int32)))] (fun _ k => XS.iadd X8.here hx rfl (B d68_38) rfl k) ?_
      rw [show ((nI xi) + (2 : Int32)) = (nI (xi + 2)) from own_add _ _]
      obtain ⟨fs, hr, hrun, hended, hW, hsame⟩ := X8.leave (v := some (.int (nI (xi + 2)))) (fun h => by rw [Bd.returns] at h; cases h)
      refine ⟨_, _, retOut X8 hx Bd.returns rfl (Or.inl ⟨rfl, Or.inl rfl, _, rfl⟩) (B d68_39) hr, hrun, hended, _, _, rfl, ?_, ⟨_, rfl⟩, hW, hsame.mono (by decide) (by decide)⟩
      show Qpure (some (.int (nI (stp tf xi)))) h0 n0 (some (.int (nI (xi + 2)))) T8.heap _
      rw [e8]
      exact ⟨congrArg (fun z => some (Value.int (nI z))) (own_stC (by omega) hc22_6 hc33_9), N, rfl⟩
   ·
    refine gb m s₁ 40 LL1 [] (fun _ k => XS.icmpYes X0.here hx rfl (pc0 := 13) (pc' := 40) rfl (B d68_13) rfl (flt (mt (own_nlt (a := (xi + 1)) (b := 8) (by omega) (by omega)).mp hc13_3)).2.1 (by decide) (by decide) k) ?_
    refine sI 41 X0 hx (B d68_40) rfl rfl ?_
    refine sC 42 (1 : Int32) X0 hx (B d68_41) rfl rfl ?_
    refine gb m s₁ 43 LL1 [(.int ((nI xi) + (1 : Int32)))] (fun _ k => XS.iadd X0.here hx rfl (B d68_42) rfl k) ?_
    rw [show ((nI xi) + (1 : Int32)) = (nI (xi + 1)) from own_add _ _]
    obtain ⟨fs, hr, hrun, hended, hW, hsame⟩ := X0.leave (v := some (.int (nI (xi + 1)))) (fun h => by rw [Bd.returns] at h; cases h)
    refine ⟨_, _, retOut X0 hx Bd.returns rfl (Or.inl ⟨rfl, Or.inl rfl, _, rfl⟩) (B d68_43) hr, hrun, hended, _, _, rfl, ?_, ⟨_, rfl⟩, hW, hsame.mono (by decide) (by decide)⟩
    show Qpure (some (.int (nI (stp tf xi)))) h0 n0 (some (.int (nI (xi + 1)))) s₁.heap _
    rw [e0]
    exact ⟨congrArg (fun z => some (Value.int (nI z))) (own_stB (by omega) (fun z => absurd z.1 (by omega))), N, rfl⟩
  ·
   refine gb m s₁ 6 LL1 [] (fun _ k => XS.icmpNo X0.here hx rfl (B d68_3) rfl (flt (mt (own_nlt (a := xi) (b := 8) (by omega) (by omega)).mp hc3_2)).1 k) ?_
   refine sI 7 X0 hx (B d68_6) rfl rfl ?_
   obtain ⟨fs, hr, hrun, hended, hW, hsame⟩ := X0.leave (v := some (.int (nI xi))) (fun h => by rw [Bd.returns] at h; cases h)
   refine ⟨_, _, retOut X0 hx Bd.returns rfl (Or.inl ⟨rfl, Or.inl rfl, _, rfl⟩) (B d68_7) hr, hrun, hended, _, _, rfl, ?_, ⟨_, rfl⟩, hW, hsame.mono (by decide) (by decide)⟩
   show Qpure (some (.int (nI (stp tf xi)))) h0 n0 (some (.int (nI xi))) s₁.heap _
   rw [e0]
   exact ⟨congrArg (fun z => some (Value.int (nI z))) (own_stA (by omega)), N, rfl⟩

theorem d69_0 : decode c69 0 = .ok (.aload_n 0, 1) := by decide +kernel
theorem d69_1 : decode c69 1 = .ok (.aload_n 1, 1) := by decide +kernel
theorem d69_2 : decode c69 2 = .ok (.if_acmp .ne 5, 3) := by decide +kernel
theorem d69_5 : decode c69 5 = .ok (.iconst 1, 1) := by decide +kernel
theorem d69_6 : decode c69 6 = .ok (.ireturn, 1) := by decide +kernel
theorem pn_eq : plainFor (⟨"java/lang/String", "equals", "(Ljava/lang/Object;)Z"⟩ : MethodName) = true := plainFor_of_name (by first | (simp [plainName, overriddenIn]; done) | decide +kernel)
theorem ef_eq (m : MethodId) (x0 : Addr) (x1 : Addr) : entryFrame m #[(.ref x0), (.ref x1)] 3 = mkF m 0 #[.val (.ref x0), .val (.ref x1), .unset] [] := by first | (simp [entryFrame, mkF, argsToLocals, Value.category]; done) | rfl
theorem rm_eq (l : Launch) (Z : State) (a0 : Array Value) (hw : ∀ d ∈ tables_1, d.before a0 Z = true) (ws : List Jvm.Cond) (x : Addr) (h0 : Heap) (n0 : Nat) (O : Old Z n0 h0)  :
    MF l Z h0 (⟨"java/lang/String", "equals", "(Ljava/lang/Object;)Z"⟩ : MethodName) c69 3 (some .boolean) ws (rk 0 0 0 0) #[(.ref x), (.ref x)] (Qpure (some (.int 1)) h0 n0) := by
  refine sg n0 [] pn_eq rfl (fun m => ef_eq m x x) fun p e s m below meth c s₁ Bd hml hZ hh hx B hown hnm X0 e0 N K => ?_
  let LL1 : Array Slot := #[.val (.ref x), .val (.ref x), .unset]
  refine sA 1 X0 hx (B d69_0) rfl rfl rfl ?_
  refine sA 2 X0 hx (B d69_1) rfl rfl rfl ?_
  refine gb m s₁ 5 LL1 [] (fun _ k => Jvm.RoadKit.acmp (g := (mkF m 2 LL1 [(.ref x), (.ref x)])) X0 hx rfl rfl rfl (pc0 := 2) (pc' := 5) (same := true) rfl (B d69_2) rfl (decide_eq_true rfl) (by decide) (by decide) k) ?_
  refine sC 6 (1 : Int32) X0 hx (B d69_5) rfl rfl ?_
  obtain ⟨fs, hr, hrun, hended, hW, hsame⟩ := X0.leave (v := some (.int (1 : Int32))) (fun h => by rw [Bd.returns] at h; cases h)
  refine ⟨_, _, retN X0 hx (t := .boolean) Bd.returns (by simp) (B d69_6) hr, hrun, hended, _, _, rfl, ?_, ⟨_, rfl⟩, hW, hsame.mono (by decide) (by decide)⟩
  show Qpure (some (.int 1)) h0 n0 (some (.int (1 : Int32))) s₁.heap _
  rw [e0]
  exact ⟨rfl, N, rfl⟩

theorem d70_0 : decode c70 0 = .ok (.aload_n 0, 1) := by decide +kernel
theorem d70_1 : decode c70 1 = .ok (.getfield 9, 3) := by decide +kernel
theorem d70_4 : decode c70 4 = .ok (.arraylength, 1) := by decide +kernel
theorem d70_5 : decode c70 5 = .ok (.ifCond .ne 7, 3) := by decide +kernel
theorem d70_8 : decode c70 8 = .ok (.iconst 1, 1) := by decide +kernel
theorem d70_9 : decode c70 9 = .ok (.goto 4, 3) := by decide +kernel
theorem d70_13 : decode c70 13 = .ok (.ireturn, 1) := by decide +kernel
theorem pn_ie : plainFor (⟨"java/lang/String", "isEmpty", "()Z"⟩ : MethodName) = true := plainFor_of_name (by first | (simp [plainName, overriddenIn]; done) | decide +kernel)
theorem ef_ie (m : MethodId) (x0 : Addr) : entryFrame m #[(.ref x0)] 1 = mkF m 0 #[.val (.ref x0)] [] := by first | (simp [entryFrame, mkF, argsToLocals, Value.category]; done) | rfl
theorem rm_ie (l : Launch) (Z : State) (a0 : Array Value) (hw : ∀ d ∈ tables_1, d.before a0 Z = true) (ws : List Jvm.Cond) (x tx : Addr) (kx : ClassId) (xn : Nat) (fx : Nat → Int32) (h0 : Heap) (n0 : Nat) (O : Old Z n0 h0) (E_x : Exa Z h0 x "java/lang/String") (Fv_x : Fld Z h0 x "java/lang/String" "value" "[B" (.ref tx)) (Fc_x : Fld Z h0 x "java/lang/String" "coder" "B" (.int 0)) (V_tx : Arv Z h0 tx kx .byte (nI xn) (cont xn fx) (.int 0)) (hxn : xn ≤ 300) (hx0 : xn = 0) :
    MF l Z h0 (⟨"java/lang/String", "isEmpty", "()Z"⟩ : MethodName) c70 1 (some .boolean) ws (rk 0 0 0 0) #[(.ref x)] (Qpure (some (.int 1)) h0 n0) := by
  refine sg n0 [] pn_ie rfl (fun m => ef_ie m x) fun p e s m below meth c s₁ Bd hml hZ hh hx B hown hnm X0 e0 N K => ?_
  let LL1 : Array Slot := #[.val (.ref x)]
  refine sA 1 X0 hx (B d70_0) rfl rfl rfl ?_
  obtain ⟨T2, X2, e2, st2⟩ := getF X0 hx hZ hown (host := "") (Or.inl (wv hw 34 rfl)) Via.refl e0 Fv_x (g := (mkF m 1 LL1 [(.ref x)])) rfl rfl (B d70_1)
  refine gb m T2 4 LL1 [(.ref tx)] (st2) ?_
  obtain ⟨cl3, Ar3, q3, S3, N3', H3, G3⟩ := id V_tx
  refine gb m T2 5 LL1 [(.int (nI xn))] (fun t k => X2.arraylength hx (by rw [e2]; exact Ar3.1) (State.isArrayOf_alike hZ.alike Ar3.2.1) (g := (mkF m 4 LL1 [(.ref tx)])) rfl rfl (B d70_4) t (by rw [len_of S3 N3']; exact k)) ?_
  refine gb m T2 8 LL1 [] (fun _ k => XS.ifNo X2.here hx rfl (B d70_5) rfl ((if0 _ _).trans (teq ((own_neq (a := xn) (b := 0) (by omega) (by omega)).mpr (by omega))).2) k) ?_
  refine sC 9 (1 : Int32) X2 hx (B d70_8) rfl rfl ?_
  refine gb m T2 13 LL1 [(.int (1 : Int32))] (fun _ k => XS.goto X2.here hx rfl (pc0 := 9) (pc' := 13) rfl (B d70_9) (by decide) (by decide) k) ?_
  obtain ⟨fs, hr, hrun, hended, hW, hsame⟩ := X2.leave (v := some (.int (1 : Int32))) (fun h => by rw [Bd.returns] at h; cases h)
  refine ⟨_, _, retN X2 hx (t := .boolean) Bd.returns (by simp) (B d70_13) hr, hrun, hended, _, _, rfl, ?_, ⟨_, rfl⟩, hW, hsame.mono (by decide) (by decide)⟩
  show Qpure (some (.int 1)) h0 n0 (some (.int (1 : Int32))) T2.heap _
  rw [e2]
  exact ⟨rfl, N, rfl⟩

theorem pn_rm1 : plainFor (⟨"com/example/helvedir/helvedir/DiagnosticQuotePinLaw", "law", "(JJIIII)Z"⟩ : MethodName) = true := plainFor_of_name (by first | (simp [plainName, overriddenIn]; done) | decide +kernel)
theorem pd42 : parseMethodDescriptor "(JI)C" = some ⟨[.long, .int], some .char⟩ := by decide +kernel
theorem pd43 : parseMethodDescriptor "([C)V" = some ⟨[(.array .char)], none⟩ := by decide +kernel
theorem pd44 : parseMethodDescriptor "(Ljava/lang/String;)Ljava/lang/String;" = some ⟨[(.object "java/lang/String")], some (.object "java/lang/String")⟩ := by decide +kernel
theorem pd45 : parseMethodDescriptor "(Ljava/lang/Object;)Z" = some ⟨[(.object "java/lang/Object")], some .boolean⟩ := by decide +kernel
theorem pd46 : parseMethodDescriptor "([CI)I" = some ⟨[(.array .char), .int], some .int⟩ := by decide +kernel
theorem pd47 : parseMethodDescriptor "(I)C" = some ⟨[.int], some .char⟩ := by decide +kernel
theorem ef_rm1 (m : MethodId) (x0 : Int64) (x1 : Int64) (x2 : Int32) (x3 : Int32) (x4 : Int32) (x5 : Int32) : entryFrame m #[(.long x0), (.long x1), (.int x2), (.int x3), (.int x4), (.int x5)] maxLocals = mkF m 0 #[.val (.long x0), .second, .val (.long x1), .second, .val (.int x2), .val (.int x3), .val (.int x4), .val (.int x5), .unset, .unset, .unset, .unset, .unset, .unset, .unset, .unset, .unset] [] := by first | (simp [entryFrame, mkF, argsToLocals, Value.category, maxLocals]; done) | rfl
theorem rm1 (l : Launch) (Z : State) (a0 : Array Value) (hw : ∀ d ∈ tables_1, d.before a0 Z = true) (ws : List Jvm.Cond) (hEL : EW Z a0 consts_1) (p0 p1 : Int64) (p2 p3 p4 p5 : Int32) (zc : Int32) (fm : Value) (hS0 : Sf Z zc fm) (h0 : Heap) (n0 : Nat) (O : Old Z n0 h0)  :
    MetFree l x (head1 (Jvm.Cond.code x code maxLocals ret :: ws) room_1) (fun as_ U => as_ = #[(.long p0), (.long p1), (.int p2), (.int p3), (.int p4), (.int p5)] ∧ Z.Warmed39 U.vm ∧ U.heap = h0 ∧ CHv Z consts_1 U.vm h0) (fun _ _ _ _ _ => True) (fun _ U o U' => ∃ v L, o = .returned v ∧ Q1 n0 v U'.heap L ∧ CHr Z consts_1 U.vm U.heap U'.vm U'.heap ∧ ReturnedEndW U o U' L 48 10496) := by
  refine MetFree.of_bodySF pn_rm1 hisR ?_
  intro p e s m args below meth c s₁ Bd hml0 hP hK
  obtain ⟨rfl, hZ, hh, H0⟩ := hP
  have hx := Bd.exec
  have hby := Bd.bytes
  have hml : c.maxLocals = 17 := hml0
  have hown : s.vm.findClass "com/example/helvedir/helvedir/DiagnosticQuotePinLaw" = some m.cls := findClass_of_methodNamed Bd.named
  have hnm := (name_of_methodNamed Bd.named Bd.method).1
  have X0 : Stand p l e room_1 (s.setVm s.vm) m #[(.long p0), (.long p1), (.int p2), (.int p3), (.int p4), (.int p5)] below meth c s₁ [] 0 0 := Stand.of_body Bd
  have e0 : s₁.heap = h0 := by rw [← hh, Bd.state]; rfl
  replace hZ : Z.Warmed39 (s.setVm s.vm).vm := hZ
  replace hown : (s.setVm s.vm).vm.findClass "com/example/helvedir/helvedir/DiagnosticQuotePinLaw" = some m.cls := hown
  have N := Fr.nil n0
  have hS : s.Since s.vm s.heap.size := (State.WarmedH.refl s).since _
  have hk : s.heap.size ≤ h0.size := Nat.le_of_eq (by rw [hh])
  have C : CHr Z consts_1 s.vm h0 s.vm h0 := CHr.refl H0
  have K : Keep h0 h0 [] := Keep.refl _ _
  refine gb m s₁ 0 #[.val (.long p0), .second, .val (.long p1), .second, .val (.int p2), .val (.int p3), .val (.int p4), .val (.int p5), .unset, .unset, .unset, .unset, .unset, .unset, .unset, .unset, .unset] [] (fun _ k => castTop (ef_rm1 m p0 p1 p2 p3 p4 p5) k) ?_
  let LL1 : Array Slot := #[.val (.long p0), .second, .val (.long p1), .second, .val (.int p2), .val (.int p3), .val (.int p4), .val (.int p5), .unset, .unset, .unset, .unset, .unset, .unset, .unset, .unset, .unset]
  refine sB 2 (8 : Int32) X0 hx (hb hby at_0) rfl rfl ?_
  obtain ⟨T2, h2, k2, X2, e2, E2, A2, B2, st2⟩ := newPE X0 hx hZ (wv hw 0 rfl) e0 (g := (mkF m 2 LL1 [(.int (8 : Int32))])) rfl (hb hby at_2) (n := (nI 8)) rfl (own_neg (a := 8) (by omega)) (cap := 8) (by rw [own_nat (a := 8) (by omega)]; omega) (by decide) (by decide) (by decide) (ad := "[C") (by decide)
  obtain ⟨b2, g2⟩ : ∃ z, z = h0.size := ⟨_, rfl⟩
  rw [← g2] at A2 B2 st2
  have g_b2 : n0 ≤ b2 := Nat.le_trans (Old.le O) (Nat.le_of_eq g2.symm)
  have sz_b2 : h0.size ≤ b2 := Nat.le_trans K.1 (Nat.le_of_eq g2.symm)
  have Sf_b2 : Safe Z consts_1 s.vm h0 b2 := Safe.new (Nat.le_of_eq g2.symm)
  replace Sf_b2 := Safe.ext E2 C.1 Sf_b2
  replace O := O.ext E2
  replace K := K.ext E2
  replace C := C.trans (CHr.ext E2 C.1)
  replace hk := Nat.le_trans hk E2.1
  have V_b2 : Arv Z h2 b2 k2 .char (nI 8) (cont 8 (fun _ => 0)) (.int 0) := own_cnew (Arv.new A2 (own_neg (a := 8) (by omega)))
  have E_b2 := B2
  obtain ⟨fz2, hfz2⟩ : ∃ g : Nat → Int32, g = fun _ => 0 := ⟨_, rfl⟩
  rw [← hfz2] at V_b2
  refine gb m T2 4 LL1 [(.ref b2)] (st2) ?_
  let LL3 : Array Slot := #[.val (.long p0), .second, .val (.long p1), .second, .val (.int p2), .val (.int p3), .val (.int p4), .val (.int p5), .val (.ref b2), .unset, .unset, .unset, .unset, .unset, .unset, .unset, .unset]
  refine gb m T2 6 LL3 [] (fun _ k => XS.astore X2.here hx rfl (hb hby at_4) rfl rfl (l' := LL3) rfl k) ?_
  refine tA 8 X2 hx (hb hby at_6) rfl rfl rfl ?_
  refine sC 9 (0 : Int32) X2 hx (hb hby at_8) rfl rfl ?_
  refine gb m T2 10 LL3 [(.long p0), (.int (0 : Int32)), (.ref b2)] (fun _ k => XS.lloadN X2.here hx rfl (hb hby at_9) rfl k) ?_
  refine tI 12 X2 hx (hb hby at_10) rfl rfl ?_
  obtain ⟨v4, T4, Lc4, X4, hQ4, st4⟩ := cS LL3 [(.int (0 : Int32)), (.ref b2)] X2 hx hZ hown hw e2 hml 1 2 3 4 rfl rfl rfl rfl (by decide) (rm_chr l Z a0 hw [] p0 p2 h2 n0 O) pd42 rfl rfl (hb hby at_12) rfl
  obtain ⟨rc4, rfl, Nq4, e4, hrc4⟩ := hQ4
  replace N := Fr.app N Nq4
  refine gb m T4 15 LL3 [(.int (nI rc4)), (.int (0 : Int32)), (.ref b2)] (st4) ?_
  obtain ⟨cl5, Ar5, q5, S5, N5', H5, G5⟩ := id V_b2
  obtain ⟨T5, h5, X5, e5, W5, st5⟩ := stC X4 hx hZ e4 Ar5 (j := (0 : Int32)) (inb_of S5 ⟨own_neg (a := 0) (by omega), (own_nlt (a := 0) (b := 8) (by omega) (by omega)).mpr (by omega)⟩) (g := (mkF m 15 LL3 [(.int (nI rc4)), (.int (0 : Int32)), (.ref b2)])) rfl rfl (hb hby at_15)
  have Sa_W5 := Sf_b2
  replace Sf_b2 := Safe.wr W5 Sa_W5 C.1 Sf_b2
  replace E_b2 := E_b2.wr W5
  replace C := C.trans (CHr.wr W5 Sa_W5 C.1)
  replace hk := Nat.le_trans hk (Keep.of_wr W5).1
  replace V_b2 := (show Arv Z h5 b2 _ .char (nI 8) ((cont 8 fz2).set 0 (.int (nar .char (nI rc4)))) (.int 0) from Arv.set Ar5 q5 S5 N5' H5 G5 (fits_nar_char _) W5 0 (own_nat (a := 0) (by omega)) (by rw [own_clen]; omega))
  rw [own_cset (by omega)] at V_b2
  obtain ⟨fd5, hfd5⟩ : ∃ g, g = upd fz2 0 (nar .char (nI rc4)) := ⟨_, rfl⟩
  rw [← hfd5] at V_b2
  replace O := O.wr W5 g_b2
  replace K := K.wr W5 (Or.inr sz_b2)
  replace N := Fr.snoc X5 N g_b2
  refine gb m T5 16 LL3 [] (st5) ?_
  refine tA 18 X5 hx (hb hby at_16) rfl rfl rfl ?_
  refine sC 19 (1 : Int32) X5 hx (hb hby at_18) rfl rfl ?_
  refine gb m T5 20 LL3 [(.long p0), (.int (1 : Int32)), (.ref b2)] (fun _ k => XS.lloadN X5.here hx rfl (hb hby at_19) rfl k) ?_
  refine sB 22 (16 : Int32) X5 hx (hb hby at_20) rfl rfl ?_
  refine gb m T5 23 LL3 [(.long ((p0.toUInt64 >>> ((16 : Int32) &&& 0x3f).toInt64.toUInt64).toInt64)), (.int (1 : Int32)), (.ref b2)] (fun _ k => XS.lushr X5.here hx rfl (hb hby at_22) rfl k) ?_
  refine tI 25 X5 hx (hb hby at_23) rfl rfl ?_
  refine sC 26 (2 : Int32) X5 hx (hb hby at_25) rfl rfl ?_
  refine gb m T5 27 LL3 [(.int ((p2.toUInt32 >>> ((2 : Int32) &&& 31).toUInt32).toInt32)), (.long ((p0.toUInt64 >>> ((16 : Int32) &&& 0x3f).toInt64.toUInt64).toInt64)), (.int (1 : Int32)), (.ref b2)] (fun _ k => XS.iushr X5.here hx rfl (hb hby at_26) rfl k) ?_
  obtain ⟨v6, T6, Lc6, X6, hQ6, st6⟩ := cS LL3 [(.int (1 : Int32)), (.ref b2)] X5 hx hZ hown hw e5 hml 1 2 3 4 rfl rfl rfl rfl (by decide) (rm_chr l Z a0 hw [] ((p0.toUInt64 >>> ((16 : Int32) &&& 0x3f).toInt64.toUInt64).toInt64) ((p2.toUInt32 >>> ((2 : Int32) &&& 31).toUInt32).toInt32) h5 n0 O) pd42 rfl rfl (hb hby at_27) rfl
  obtain ⟨rc6, rfl, Nq6, e6, hrc6⟩ := hQ6
  replace N := Fr.app N Nq6
  refine gb m T6 30 LL3 [(.int (nI rc6)), (.int (1 : Int32)), (.ref b2)] (st6) ?_
  obtain ⟨cl7, Ar7, q7, S7, N7', H7, G7⟩ := id V_b2
  obtain ⟨T7, h7, X7, e7, W7, st7⟩ := stC X6 hx hZ e6 Ar7 (j := (1 : Int32)) (inb_of S7 ⟨own_neg (a := 1) (by omega), (own_nlt (a := 1) (b := 8) (by omega) (by omega)).mpr (by omega)⟩) (g := (mkF m 30 LL3 [(.int (nI rc6)), (.int (1 : Int32)), (.ref b2)])) rfl rfl (hb hby at_30)
  have Sa_W7 := Sf_b2
  replace Sf_b2 := Safe.wr W7 Sa_W7 C.1 Sf_b2
  replace E_b2 := E_b2.wr W7
  replace C := C.trans (CHr.wr W7 Sa_W7 C.1)
  replace hk := Nat.le_trans hk (Keep.of_wr W7).1
  replace V_b2 := (show Arv Z h7 b2 _ .char (nI 8) ((cont 8 fd5).set 1 (.int (nar .char (nI rc6)))) (.int 0) from Arv.set Ar7 q7 S7 N7' H7 G7 (fits_nar_char _) W7 1 (own_nat (a := 1) (by omega)) (by rw [own_clen]; omega))
  rw [own_cset (by omega)] at V_b2
  obtain ⟨fd7, hfd7⟩ : ∃ g, g = upd fd5 1 (nar .char (nI rc6)) := ⟨_, rfl⟩
  rw [← hfd7] at V_b2
  replace O := O.wr W7 g_b2
  replace K := K.wr W7 (Or.inr sz_b2)
  replace N := Fr.snoc X7 N g_b2
  refine gb m T7 31 LL3 [] (st7) ?_
  refine tA 33 X7 hx (hb hby at_31) rfl rfl rfl ?_
  refine sC 34 (2 : Int32) X7 hx (hb hby at_33) rfl rfl ?_
  refine gb m T7 35 LL3 [(.long p0), (.int (2 : Int32)), (.ref b2)] (fun _ k => XS.lloadN X7.here hx rfl (hb hby at_34) rfl k) ?_
  refine sB 37 (32 : Int32) X7 hx (hb hby at_35) rfl rfl ?_
  refine gb m T7 38 LL3 [(.long ((p0.toUInt64 >>> ((32 : Int32) &&& 0x3f).toInt64.toUInt64).toInt64)), (.int (2 : Int32)), (.ref b2)] (fun _ k => XS.lushr X7.here hx rfl (hb hby at_37) rfl k) ?_
  refine tI 40 X7 hx (hb hby at_38) rfl rfl ?_
  refine sC 41 (4 : Int32) X7 hx (hb hby at_40) rfl rfl ?_
  refine gb m T7 42 LL3 [(.int ((p2.toUInt32 >>> ((4 : Int32) &&& 31).toUInt32).toInt32)), (.long ((p0.toUInt64 >>> ((32 : Int32) &&& 0x3f).toInt64.toUInt64).toInt64)), (.int (2 : Int32)), (.ref b2)] (fun _ k => XS.iushr X7.here hx rfl (hb hby at_41) rfl k) ?_
  obtain ⟨v8, T8, Lc8, X8, hQ8, st8⟩ := cS LL3 [(.int (2 : Int32)), (.ref b2)] X7 hx hZ hown hw e7 hml 1 2 3 4 rfl rfl rfl rfl (by decide) (rm_chr l Z a0 hw [] ((p0.toUInt64 >>> ((32 : Int32) &&& 0x3f).toInt64.toUInt64).toInt64) ((p2.toUInt32 >>> ((4 : Int32) &&& 31).toUInt32).toInt32) h7 n0 O) pd42 rfl rfl (hb hby at_42) rfl
  obtain ⟨rc8, rfl, Nq8, e8, hrc8⟩ := hQ8
  replace N := Fr.app N Nq8
  refine gb m T8 45 LL3 [(.int (nI rc8)), (.int (2 : Int32)), (.ref b2)] (st8) ?_
  obtain ⟨cl9, Ar9, q9, S9, N9', H9, G9⟩ := id V_b2
  obtain ⟨T9, h9, X9, e9, W9, st9⟩ := stC X8 hx hZ e8 Ar9 (j := (2 : Int32)) (inb_of S9 ⟨own_neg (a := 2) (by omega), (own_nlt (a := 2) (b := 8) (by omega) (by omega)).mpr (by omega)⟩) (g := (mkF m 45 LL3 [(.int (nI rc8)), (.int (2 : Int32)), (.ref b2)])) rfl rfl (hb hby at_45)
  have Sa_W9 := Sf_b2
  replace Sf_b2 := Safe.wr W9 Sa_W9 C.1 Sf_b2
  replace E_b2 := E_b2.wr W9
  replace C := C.trans (CHr.wr W9 Sa_W9 C.1)
  replace hk := Nat.le_trans hk (Keep.of_wr W9).1
  replace V_b2 := (show Arv Z h9 b2 _ .char (nI 8) ((cont 8 fd7).set 2 (.int (nar .char (nI rc8)))) (.int 0) from Arv.set Ar9 q9 S9 N9' H9 G9 (fits_nar_char _) W9 2 (own_nat (a := 2) (by omega)) (by rw [own_clen]; omega))
  rw [own_cset (by omega)] at V_b2
  obtain ⟨fd9, hfd9⟩ : ∃ g, g = upd fd7 2 (nar .char (nI rc8)) := ⟨_, rfl⟩
  rw [← hfd9] at V_b2
  replace O := O.wr W9 g_b2
  replace K := K.wr W9 (Or.inr sz_b2)
  replace N := Fr.snoc X9 N g_b2
  refine gb m T9 46 LL3 [] (st9) ?_
  refine tA 48 X9 hx (hb hby at_46) rfl rfl rfl ?_
  refine sC 49 (3 : Int32) X9 hx (hb hby at_48) rfl rfl ?_
  refine gb m T9 50 LL3 [(.long p0), (.int (3 : Int32)), (.ref b2)] (fun _ k => XS.lloadN X9.here hx rfl (hb hby at_49) rfl k) ?_
  refine sB 52 (48 : Int32) X9 hx (hb hby at_50) rfl rfl ?_
  refine gb m T9 53 LL3 [(.long ((p0.toUInt64 >>> ((48 : Int32) &&& 0x3f).toInt64.toUInt64).toInt64)), (.int (3 : Int32)), (.ref b2)] (fun _ k => XS.lushr X9.here hx rfl (hb hby at_52) rfl k) ?_
  refine tI 55 X9 hx (hb hby at_53) rfl rfl ?_
  refine sB 57 (6 : Int32) X9 hx (hb hby at_55) rfl rfl ?_
  refine gb m T9 58 LL3 [(.int ((p2.toUInt32 >>> ((6 : Int32) &&& 31).toUInt32).toInt32)), (.long ((p0.toUInt64 >>> ((48 : Int32) &&& 0x3f).toInt64.toUInt64).toInt64)), (.int (3 : Int32)), (.ref b2)] (fun _ k => XS.iushr X9.here hx rfl (hb hby at_57) rfl k) ?_
  obtain ⟨v10, T10, Lc10, X10, hQ10, st10⟩ := cS LL3 [(.int (3 : Int32)), (.ref b2)] X9 hx hZ hown hw e9 hml 1 2 3 4 rfl rfl rfl rfl (by decide) (rm_chr l Z a0 hw [] ((p0.toUInt64 >>> ((48 : Int32) &&& 0x3f).toInt64.toUInt64).toInt64) ((p2.toUInt32 >>> ((6 : Int32) &&& 31).toUInt32).toInt32) h9 n0 O) pd42 rfl rfl (hb hby at_58) rfl
  obtain ⟨rc10, rfl, Nq10, e10, hrc10⟩ := hQ10
  replace N := Fr.app N Nq10
  refine gb m T10 61 LL3 [(.int (nI rc10)), (.int (3 : Int32)), (.ref b2)] (st10) ?_
  obtain ⟨cl11, Ar11, q11, S11, N11', H11, G11⟩ := id V_b2
  obtain ⟨T11, h11, X11, e11, W11, st11⟩ := stC X10 hx hZ e10 Ar11 (j := (3 : Int32)) (inb_of S11 ⟨own_neg (a := 3) (by omega), (own_nlt (a := 3) (b := 8) (by omega) (by omega)).mpr (by omega)⟩) (g := (mkF m 61 LL3 [(.int (nI rc10)), (.int (3 : Int32)), (.ref b2)])) rfl rfl (hb hby at_61)
  have Sa_W11 := Sf_b2
  replace Sf_b2 := Safe.wr W11 Sa_W11 C.1 Sf_b2
  replace E_b2 := E_b2.wr W11
  replace C := C.trans (CHr.wr W11 Sa_W11 C.1)
  replace hk := Nat.le_trans hk (Keep.of_wr W11).1
  replace V_b2 := (show Arv Z h11 b2 _ .char (nI 8) ((cont 8 fd9).set 3 (.int (nar .char (nI rc10)))) (.int 0) from Arv.set Ar11 q11 S11 N11' H11 G11 (fits_nar_char _) W11 3 (own_nat (a := 3) (by omega)) (by rw [own_clen]; omega))
  rw [own_cset (by omega)] at V_b2
  obtain ⟨fd11, hfd11⟩ : ∃ g, g = upd fd9 3 (nar .char (nI rc10)) := ⟨_, rfl⟩
  rw [← hfd11] at V_b2
  replace O := O.wr W11 g_b2
  replace K := K.wr W11 (Or.inr sz_b2)
  replace N := Fr.snoc X11 N g_b2
  refine gb m T11 62 LL3 [] (st11) ?_
  refine tA 64 X11 hx (hb hby at_62) rfl rfl rfl ?_
  refine sC 65 (4 : Int32) X11 hx (hb hby at_64) rfl rfl ?_
  refine gb m T11 66 LL3 [(.long p1), (.int (4 : Int32)), (.ref b2)] (fun _ k => XS.lloadN X11.here hx rfl (hb hby at_65) rfl k) ?_
  refine tI 68 X11 hx (hb hby at_66) rfl rfl ?_
  refine sB 70 (8 : Int32) X11 hx (hb hby at_68) rfl rfl ?_
  refine gb m T11 71 LL3 [(.int ((p2.toUInt32 >>> ((8 : Int32) &&& 31).toUInt32).toInt32)), (.long p1), (.int (4 : Int32)), (.ref b2)] (fun _ k => XS.iushr X11.here hx rfl (hb hby at_70) rfl k) ?_
  obtain ⟨v12, T12, Lc12, X12, hQ12, st12⟩ := cS LL3 [(.int (4 : Int32)), (.ref b2)] X11 hx hZ hown hw e11 hml 1 2 3 4 rfl rfl rfl rfl (by decide) (rm_chr l Z a0 hw [] p1 ((p2.toUInt32 >>> ((8 : Int32) &&& 31).toUInt32).toInt32) h11 n0 O) pd42 rfl rfl (hb hby at_71) rfl
  obtain ⟨rc12, rfl, Nq12, e12, hrc12⟩ := hQ12
  replace N := Fr.app N Nq12
  refine gb m T12 74 LL3 [(.int (nI rc12)), (.int (4 : Int32)), (.ref b2)] (st12) ?_
  obtain ⟨cl13, Ar13, q13, S13, N13', H13, G13⟩ := id V_b2
  obtain ⟨T13, h13, X13, e13, W13, st13⟩ := stC X12 hx hZ e12 Ar13 (j := (4 : Int32)) (inb_of S13 ⟨own_neg (a := 4) (by omega), (own_nlt (a := 4) (b := 8) (by omega) (by omega)).mpr (by omega)⟩) (g := (mkF m 74 LL3 [(.int (nI rc12)), (.int (4 : Int32)), (.ref b2)])) rfl rfl (hb hby at_74)
  have Sa_W13 := Sf_b2
  replace Sf_b2 := Safe.wr W13 Sa_W13 C.1 Sf_b2
  replace E_b2 := E_b2.wr W13
  replace C := C.trans (CHr.wr W13 Sa_W13 C.1)
  replace hk := Nat.le_trans hk (Keep.of_wr W13).1
  replace V_b2 := (show Arv Z h13 b2 _ .char (nI 8) ((cont 8 fd11).set 4 (.int (nar .char (nI rc12)))) (.int 0) from Arv.set Ar13 q13 S13 N13' H13 G13 (fits_nar_char _) W13 4 (own_nat (a := 4) (by omega)) (by rw [own_clen]; omega))
  rw [own_cset (by omega)] at V_b2
  obtain ⟨fd13, hfd13⟩ : ∃ g, g = upd fd11 4 (nar .char (nI rc12)) := ⟨_, rfl⟩
  rw [← hfd13] at V_b2
  replace O := O.wr W13 g_b2
  replace K := K.wr W13 (Or.inr sz_b2)
  replace N := Fr.snoc X13 N g_b2
  refine gb m T13 75 LL3 [] (st13) ?_
  refine tA 77 X13 hx (hb hby at_75) rfl rfl rfl ?_
  refine sC 78 (5 : Int32) X13 hx (hb hby at_77) rfl rfl ?_
  refine gb m T13 79 LL3 [(.long p1), (.int (5 : Int32)), (.ref b2)] (fun _ k => XS.lloadN X13.here hx rfl (hb hby at_78) rfl k) ?_
  refine sB 81 (16 : Int32) X13 hx (hb hby at_79) rfl rfl ?_
  refine gb m T13 82 LL3 [(.long ((p1.toUInt64 >>> ((16 : Int32) &&& 0x3f).toInt64.toUInt64).toInt64)), (.int (5 : Int32)), (.ref b2)] (fun _ k => XS.lushr X13.here hx rfl (hb hby at_81) rfl k) ?_
  refine tI 84 X13 hx (hb hby at_82) rfl rfl ?_
  refine sB 86 (10 : Int32) X13 hx (hb hby at_84) rfl rfl ?_
  refine gb m T13 87 LL3 [(.int ((p2.toUInt32 >>> ((10 : Int32) &&& 31).toUInt32).toInt32)), (.long ((p1.toUInt64 >>> ((16 : Int32) &&& 0x3f).toInt64.toUInt64).toInt64)), (.int (5 : Int32)), (.ref b2)] (fun _ k => XS.iushr X13.here hx rfl (hb hby at_86) rfl k) ?_
  obtain ⟨v14, T14, Lc14, X14, hQ14, st14⟩ := cS LL3 [(.int (5 : Int32)), (.ref b2)] X13 hx hZ hown hw e13 hml 1 2 3 4 rfl rfl rfl rfl (by decide) (rm_chr l Z a0 hw [] ((p1.toUInt64 >>> ((16 : Int32) &&& 0x3f).toInt64.toUInt64).toInt64) ((p2.toUInt32 >>> ((10 : Int32) &&& 31).toUInt32).toInt32) h13 n0 O) pd42 rfl rfl (hb hby at_87) rfl
  obtain ⟨rc14, rfl, Nq14, e14, hrc14⟩ := hQ14
  replace N := Fr.app N Nq14
  refine gb m T14 90 LL3 [(.int (nI rc14)), (.int (5 : Int32)), (.ref b2)] (st14) ?_
  obtain ⟨cl15, Ar15, q15, S15, N15', H15, G15⟩ := id V_b2
  obtain ⟨T15, h15, X15, e15, W15, st15⟩ := stC X14 hx hZ e14 Ar15 (j := (5 : Int32)) (inb_of S15 ⟨own_neg (a := 5) (by omega), (own_nlt (a := 5) (b := 8) (by omega) (by omega)).mpr (by omega)⟩) (g := (mkF m 90 LL3 [(.int (nI rc14)), (.int (5 : Int32)), (.ref b2)])) rfl rfl (hb hby at_90)
  have Sa_W15 := Sf_b2
  replace Sf_b2 := Safe.wr W15 Sa_W15 C.1 Sf_b2
  replace E_b2 := E_b2.wr W15
  replace C := C.trans (CHr.wr W15 Sa_W15 C.1)
  replace hk := Nat.le_trans hk (Keep.of_wr W15).1
  replace V_b2 := (show Arv Z h15 b2 _ .char (nI 8) ((cont 8 fd13).set 5 (.int (nar .char (nI rc14)))) (.int 0) from Arv.set Ar15 q15 S15 N15' H15 G15 (fits_nar_char _) W15 5 (own_nat (a := 5) (by omega)) (by rw [own_clen]; omega))
  rw [own_cset (by omega)] at V_b2
  obtain ⟨fd15, hfd15⟩ : ∃ g, g = upd fd13 5 (nar .char (nI rc14)) := ⟨_, rfl⟩
  rw [← hfd15] at V_b2
  replace O := O.wr W15 g_b2
  replace K := K.wr W15 (Or.inr sz_b2)
  replace N := Fr.snoc X15 N g_b2
  refine gb m T15 91 LL3 [] (st15) ?_
  refine tA 93 X15 hx (hb hby at_91) rfl rfl rfl ?_
  refine sB 95 (6 : Int32) X15 hx (hb hby at_93) rfl rfl ?_
  refine gb m T15 96 LL3 [(.long p1), (.int (6 : Int32)), (.ref b2)] (fun _ k => XS.lloadN X15.here hx rfl (hb hby at_95) rfl k) ?_
  refine sB 98 (32 : Int32) X15 hx (hb hby at_96) rfl rfl ?_
  refine gb m T15 99 LL3 [(.long ((p1.toUInt64 >>> ((32 : Int32) &&& 0x3f).toInt64.toUInt64).toInt64)), (.int (6 : Int32)), (.ref b2)] (fun _ k => XS.lushr X15.here hx rfl (hb hby at_98) rfl k) ?_
  refine tI 101 X15 hx (hb hby at_99) rfl rfl ?_
  refine sB 103 (12 : Int32) X15 hx (hb hby at_101) rfl rfl ?_
  refine gb m T15 104 LL3 [(.int ((p2.toUInt32 >>> ((12 : Int32) &&& 31).toUInt32).toInt32)), (.long ((p1.toUInt64 >>> ((32 : Int32) &&& 0x3f).toInt64.toUInt64).toInt64)), (.int (6 : Int32)), (.ref b2)] (fun _ k => XS.iushr X15.here hx rfl (hb hby at_103) rfl k) ?_
  obtain ⟨v16, T16, Lc16, X16, hQ16, st16⟩ := cS LL3 [(.int (6 : Int32)), (.ref b2)] X15 hx hZ hown hw e15 hml 1 2 3 4 rfl rfl rfl rfl (by decide) (rm_chr l Z a0 hw [] ((p1.toUInt64 >>> ((32 : Int32) &&& 0x3f).toInt64.toUInt64).toInt64) ((p2.toUInt32 >>> ((12 : Int32) &&& 31).toUInt32).toInt32) h15 n0 O) pd42 rfl rfl (hb hby at_104) rfl
  obtain ⟨rc16, rfl, Nq16, e16, hrc16⟩ := hQ16
  replace N := Fr.app N Nq16
  refine gb m T16 107 LL3 [(.int (nI rc16)), (.int (6 : Int32)), (.ref b2)] (st16) ?_
  obtain ⟨cl17, Ar17, q17, S17, N17', H17, G17⟩ := id V_b2
  obtain ⟨T17, h17, X17, e17, W17, st17⟩ := stC X16 hx hZ e16 Ar17 (j := (6 : Int32)) (inb_of S17 ⟨own_neg (a := 6) (by omega), (own_nlt (a := 6) (b := 8) (by omega) (by omega)).mpr (by omega)⟩) (g := (mkF m 107 LL3 [(.int (nI rc16)), (.int (6 : Int32)), (.ref b2)])) rfl rfl (hb hby at_107)
  have Sa_W17 := Sf_b2
  replace Sf_b2 := Safe.wr W17 Sa_W17 C.1 Sf_b2
  replace E_b2 := E_b2.wr W17
  replace C := C.trans (CHr.wr W17 Sa_W17 C.1)
  replace hk := Nat.le_trans hk (Keep.of_wr W17).1
  replace V_b2 := (show Arv Z h17 b2 _ .char (nI 8) ((cont 8 fd15).set 6 (.int (nar .char (nI rc16)))) (.int 0) from Arv.set Ar17 q17 S17 N17' H17 G17 (fits_nar_char _) W17 6 (own_nat (a := 6) (by omega)) (by rw [own_clen]; omega))
  rw [own_cset (by omega)] at V_b2
  obtain ⟨fd17, hfd17⟩ : ∃ g, g = upd fd15 6 (nar .char (nI rc16)) := ⟨_, rfl⟩
  rw [← hfd17] at V_b2
  replace O := O.wr W17 g_b2
  replace K := K.wr W17 (Or.inr sz_b2)
  replace N := Fr.snoc X17 N g_b2
  refine gb m T17 108 LL3 [] (st17) ?_
  refine tA 110 X17 hx (hb hby at_108) rfl rfl rfl ?_
  refine sB 112 (7 : Int32) X17 hx (hb hby at_110) rfl rfl ?_
  refine gb m T17 113 LL3 [(.long p1), (.int (7 : Int32)), (.ref b2)] (fun _ k => XS.lloadN X17.here hx rfl (hb hby at_112) rfl k) ?_
  refine sB 115 (48 : Int32) X17 hx (hb hby at_113) rfl rfl ?_
  refine gb m T17 116 LL3 [(.long ((p1.toUInt64 >>> ((48 : Int32) &&& 0x3f).toInt64.toUInt64).toInt64)), (.int (7 : Int32)), (.ref b2)] (fun _ k => XS.lushr X17.here hx rfl (hb hby at_115) rfl k) ?_
  refine tI 118 X17 hx (hb hby at_116) rfl rfl ?_
  refine sB 120 (14 : Int32) X17 hx (hb hby at_118) rfl rfl ?_
  refine gb m T17 121 LL3 [(.int ((p2.toUInt32 >>> ((14 : Int32) &&& 31).toUInt32).toInt32)), (.long ((p1.toUInt64 >>> ((48 : Int32) &&& 0x3f).toInt64.toUInt64).toInt64)), (.int (7 : Int32)), (.ref b2)] (fun _ k => XS.iushr X17.here hx rfl (hb hby at_120) rfl k) ?_
  obtain ⟨v18, T18, Lc18, X18, hQ18, st18⟩ := cS LL3 [(.int (7 : Int32)), (.ref b2)] X17 hx hZ hown hw e17 hml 1 2 3 4 rfl rfl rfl rfl (by decide) (rm_chr l Z a0 hw [] ((p1.toUInt64 >>> ((48 : Int32) &&& 0x3f).toInt64.toUInt64).toInt64) ((p2.toUInt32 >>> ((14 : Int32) &&& 31).toUInt32).toInt32) h17 n0 O) pd42 rfl rfl (hb hby at_121) rfl
  obtain ⟨rc18, rfl, Nq18, e18, hrc18⟩ := hQ18
  replace N := Fr.app N Nq18
  refine gb m T18 124 LL3 [(.int (nI rc18)), (.int (7 : Int32)), (.ref b2)] (st18) ?_
  obtain ⟨cl19, Ar19, q19, S19, N19', H19, G19⟩ := id V_b2
  obtain ⟨T19, h19, X19, e19, W19, st19⟩ := stC X18 hx hZ e18 Ar19 (j := (7 : Int32)) (inb_of S19 ⟨own_neg (a := 7) (by omega), (own_nlt (a := 7) (b := 8) (by omega) (by omega)).mpr (by omega)⟩) (g := (mkF m 124 LL3 [(.int (nI rc18)), (.int (7 : Int32)), (.ref b2)])) rfl rfl (hb hby at_124)
  have Sa_W19 := Sf_b2
  replace Sf_b2 := Safe.wr W19 Sa_W19 C.1 Sf_b2
  replace E_b2 := E_b2.wr W19
  replace C := C.trans (CHr.wr W19 Sa_W19 C.1)
  replace hk := Nat.le_trans hk (Keep.of_wr W19).1
  replace V_b2 := (show Arv Z h19 b2 _ .char (nI 8) ((cont 8 fd17).set 7 (.int (nar .char (nI rc18)))) (.int 0) from Arv.set Ar19 q19 S19 N19' H19 G19 (fits_nar_char _) W19 7 (own_nat (a := 7) (by omega)) (by rw [own_clen]; omega))
  rw [own_cset (by omega)] at V_b2
  obtain ⟨fd19, hfd19⟩ : ∃ g, g = upd fd17 7 (nar .char (nI rc18)) := ⟨_, rfl⟩
  rw [← hfd19] at V_b2
  replace O := O.wr W19 g_b2
  replace K := K.wr W19 (Or.inr sz_b2)
  replace N := Fr.snoc X19 N g_b2
  refine gb m T19 125 LL3 [] (st19) ?_
  obtain ⟨tf, htf, V8⟩ := own_chars (n := 8) (by decide) V_b2
  replace V_b2 := V8
  refine tI 127 X19 hx (hb hby at_125) rfl rfl ?_
  refine sC 128 (3 : Int32) X19 hx (hb hby at_127) rfl rfl ?_
  refine gb m T19 129 LL3 [(.int (p5 &&& (3 : Int32)))] (fun _ k => XS.iand X19.here hx rfl (hb hby at_128) rfl k) ?_
  let LL20 : Array Slot := #[.val (.long p0), .second, .val (.long p1), .second, .val (.int p2), .val (.int p3), .val (.int p4), .val (.int p5), .val (.ref b2), .val (.int (p5 &&& (3 : Int32))), .unset, .unset, .unset, .unset, .unset, .unset, .unset]
  refine gb m T19 131 LL20 [] (fun _ k => XS.istore X19.here hx rfl (hb hby at_129) rfl (l' := LL20) rfl k) ?_
  refine tI 133 X19 hx (hb hby at_131) rfl rfl ?_
  by_cases hc133_21 : (p5 &&& (3 : Int32)) = (0 : Int32)
  ·
   refine gb m T19 136 LL20 [] (fun _ k => XS.ifNo X19.here hx rfl (hb hby at_133) rfl ((if0 _ _).trans (teq hc133_21).2) k) ?_
   obtain ⟨T22, h22, X22, e22, E22, A22, D22, -, st22⟩ := newO X19 hx hZ hown (wv hw 7 rfl) (wv hw 8 rfl) (wv hw 9 rfl) e19 (g := (mkF m 136 LL20 [])) rfl (hb hby at_136) (by decide) (by decide)
   obtain ⟨b22, g22⟩ : ∃ z, z = h19.size := ⟨_, rfl⟩
   rw [← g22] at A22 D22 st22
   have ne_b2_b22 : b2 ≠ b22 := Nat.ne_of_lt (Nat.lt_of_lt_of_le V_b2.lt (Nat.le_of_eq g22.symm))
   have g_b22 : n0 ≤ b22 := Nat.le_trans (Old.le O) (Nat.le_of_eq g22.symm)
   have sz_b22 : h0.size ≤ b22 := Nat.le_trans K.1 (Nat.le_of_eq g22.symm)
   have Sf_b22 : Safe Z consts_1 s.vm h19 b22 := Safe.new (Nat.le_of_eq g22.symm)
   replace Sf_b2 := Safe.ext E22 C.1 Sf_b2
   replace V_b2 := V_b2.ext E22
   replace E_b2 := E_b2.ext E22
   replace Sf_b22 := Safe.ext E22 C.1 Sf_b22
   replace O := O.ext E22
   replace K := K.ext E22
   replace C := C.trans (CHr.ext E22 C.1)
   replace hk := Nat.le_trans hk E22.1
   have E_b22 := A22
   have F_coder_b22 : Fld Z h22 b22 "java/lang/String" "coder" "B" (.int (0 : Int32)) := D22 (Or.inr (wv hw 33 rfl)) (ty := .byte) (by decide)
   have F_value_b22 : Fld Z h22 b22 "java/lang/String" "value" "[B" .null := D22 (Or.inr (wv hw 35 rfl)) (ty := (.array .byte)) (by decide)
   refine gb m T22 139 LL20 [(.ref b22)] (st22) ?_
   refine gb m T22 140 LL20 [(.ref b22), (.ref b22)] (fun _ k => XS.dup X22.here hx rfl (hb hby at_139) rfl rfl k) ?_
   refine sC 141 (0 : Int32) X22 hx (hb hby at_140) rfl rfl ?_
   obtain ⟨T23, h23, k23, X23, e23, E23, A23, B23, st23⟩ := newPE X22 hx hZ (wv hw 0 rfl) e22 (g := (mkF m 141 LL20 [(.int (0 : Int32)), (.ref b22), (.ref b22)])) rfl (hb hby at_141) (n := (nI 0)) rfl (own_neg (a := 0) (by omega)) (cap := 0) (by rw [own_nat (a := 0) (by omega)]; omega) (by decide) (by decide) (by decide) (ad := "[C") (by decide)
   obtain ⟨b23, g23⟩ : ∃ z, z = h22.size := ⟨_, rfl⟩
   rw [← g23] at A23 B23 st23
   have ne_b22_b23 : b22 ≠ b23 := Nat.ne_of_lt (Nat.lt_of_lt_of_le E_b22.lt (Nat.le_of_eq g23.symm))
   have Sf_b23 : Safe Z consts_1 s.vm h22 b23 := Safe.new (Nat.le_of_eq g23.symm)
   replace Sf_b2 := Safe.ext E23 C.1 Sf_b2
   replace V_b2 := V_b2.ext E23
   replace E_b2 := E_b2.ext E23
   replace Sf_b22 := Safe.ext E23 C.1 Sf_b22
   replace E_b22 := E_b22.ext E23
   replace F_coder_b22 := F_coder_b22.ext E23
   replace F_value_b22 := F_value_b22.ext E23
   replace Sf_b23 := Safe.ext E23 C.1 Sf_b23
   replace O := O.ext E23
   replace K := K.ext E23
   replace C := C.trans (CHr.ext E23 C.1)
   replace hk := Nat.le_trans hk E23.1
   have V_b23 : Arv Z h23 b23 k23 .char (nI 0) (cont 0 (fun _ => 0)) (.int 0) := own_cnew (Arv.new A23 (own_neg (a := 0) (by omega)))
   have E_b23 := B23
   obtain ⟨fz23, hfz23⟩ : ∃ g : Nat → Int32, g = fun _ => 0 := ⟨_, rfl⟩
   rw [← hfz23] at V_b23
   refine gb m T23 143 LL20 [(.ref b23), (.ref b22), (.ref b22)] (st23) ?_
   obtain ⟨v24, _, ⟨T24, L24, k24, n24⟩, -, X24, hS24, hg24, ⟨Lc24, hQ24, l24, y24, z24, C24⟩, st24⟩ := X23.specialBackS hx (y := (⟨"java/lang/String", "<init>", "([C)V"⟩ : MethodName)) rfl hown (mvT hZ (wv hw 10 rfl)) (mvT hZ (wv hw 11 rfl)) (mvT hZ (wv hw 12 rfl)) (by decide) (backOfSH (W := 1) (s := s) (EL := consts_1) (rm_sc0 l Z a0 hw [] hEL b22 b23 _ fz23 zc fm hS0 h23 n0 O E_b22 F_value_b22 F_coder_b22 g_b22 V_b23) hZ (wv hw 12 rfl) (wv hw 9 rfl) (by decide) (by decide) hEL C.1) (g := (mkF m 143 LL20 [(.ref b23), (.ref b22), (.ref b22)])) rfl (by rw [hml]; rfl) (Steps.refl _) (a := b22) (argsL := [(.ref b23)]) (rest := [(.ref b22)]) (lenOf pd43 rfl) rfl (by show 2 * 0 + _ ≤ _; exact Nat.le_of_eq rfl) (hb hby at_143) (fun _ _ => ⟨rfl, e23, (by decide : 3 + 4 ≤ _), (by decide : 12 + 8 ≤ _)⟩)
   dsimp only [Pt.U, Pt.locs, Pt.cells, Pt.slots] at X24 l24 y24 z24 st24 hQ24 hS24 hg24 C24
   rw [l24, y24, z24] at X24; clear l24 y24 z24
   have hown24 : (s.setVm T24.vm).vm.findClass "com/example/helvedir/helvedir/DiagnosticQuotePinLaw" = some m.cls := by rw [show (s.setVm T24.vm).vm = T24.vm from rfl, hS24.1.alike.findClass]; exact hown
   have hZ24 : Z.Warmed39 (s.setVm T24.vm).vm := State.Warmed39.trans (t := s.setVm s.vm) hZ hS24.1
   have ag24 := Stand.againW (s := s) X24 hS hS24 (Nat.le_trans (by rw [e23]; exact hk) hg24)
   replace X24 := ag24.1
   replace hS := ag24.2
   replace Sf_b2 := CHr.safe C24 V_b2.lt Sf_b2
   replace Sf_b22 := CHr.safe C24 E_b22.lt Sf_b22
   replace Sf_b23 := CHr.safe C24 V_b23.lt Sf_b23
   obtain ⟨rfl, Nq24, K24, r24, k224, vs24, Gv24, Gc24, Vr24⟩ := hQ24
   replace N := Fr.app N Nq24
   replace V_b2 := V_b2.keep K24 (ninS ne_b2_b22 nin0)
   replace E_b2 := E_b2.keep K24
   replace E_b22 := E_b22.keep K24
   replace V_b23 := V_b23.keep K24 (ninS (Ne.symm ne_b22_b23) nin0)
   replace E_b23 := E_b23.keep K24
   replace O := O.keep K24 (allS g_b22 all0)
   replace K := K.trans K24 (allS (Or.inr sz_b22) all0)
   replace Vr24 := own_arv0 (fun _ => 0) Vr24
   replace C := C.trans C24
   replace hZ := hZ24
   replace hown := hown24
   replace hk := Nat.le_refl T24.heap.size
   refine gb m T24 146 LL20 [(.ref b22)] (fun _ k => st24.trans k) ?_
   have hs25_b22 : 0 ≤ 300 := by omega
   have hy25_0 : 0 ≤ 256 := by omega
   obtain ⟨v25, T25, Lc25, X25, hQ25, st25⟩ := cS LL20 [] X24 hx hZ hown hw rfl hml 36 37 38 39 rfl rfl rfl rfl (by decide) (rm_qsU l Z a0 hw [] b22 r24 _ 0 (fun _ => 0) (0 : Int32) 0 (fun _ => 0) zc fm hS0 T24.heap n0 O E_b22 Gv24 Gc24 Vr24 hs25_b22 own_c00 (Or.inl ⟨rfl, rfl, fun i hi => absurd hi (Nat.not_lt_zero i)⟩) hy25_0) pd44 rfl rfl (hb hby at_146) rfl
   obtain ⟨rfl, Nq25, e25⟩ := hQ25
   replace N := Fr.app N Nq25
   refine gb m T25 149 LL20 [(.ref b22)] (st25) ?_
   let LL26 : Array Slot := #[.val (.long p0), .second, .val (.long p1), .second, .val (.int p2), .val (.int p3), .val (.int p4), .val (.int p5), .val (.ref b2), .val (.int (p5 &&& (3 : Int32))), .val (.ref b22), .unset, .unset, .unset, .unset, .unset, .unset]
   refine gb m T25 151 LL26 [] (fun _ k => XS.astore X25.here hx rfl (hb hby at_149) rfl rfl (l' := LL26) rfl k) ?_
   refine tA 153 X25 hx (hb hby at_151) rfl rfl rfl ?_
   have hs27_b22 : 0 ≤ 300 := by omega
   obtain ⟨v27, T27, Lc27, X27, hQ27, st27⟩ := cV LL26 [] X25 hx hZ hown hw e25 hml E_b22 331 332 334 333 9 335 rfl rfl rfl rfl rfl rfl (by decide) (rm_ie l Z a0 hw [] b22 r24 _ 0 (fun _ => 0) T24.heap n0 O E_b22 Gv24 Gc24 Vr24 hs27_b22 rfl) pd18 rfl rfl (hb hby at_153) rfl
   obtain ⟨rfl, Nq27, e27⟩ := hQ27
   replace N := Fr.app N Nq27
   refine gb m T27 156 LL26 [(.int (1 : Int32))] (st27) ?_
   obtain ⟨fs, hr, hrun, hended, q1, q2, q3, q4⟩ := X27.leaveW hS (by rw [e27]; exact hk) (v := some (.int (1 : Int32))) (fun h => by rw [Bd.returns] at h; cases h)
   refine ⟨_, _, retN X27 hx (t := .boolean) Bd.returns (by simp) (hb hby at_156) hr, hrun, hended, _, _, rfl, ?_, ?_, q1, q2, q3, q4.mono (by decide) (by decide)⟩
   · show Q1 n0 (some (.int (1 : Int32))) T27.heap _
     rw [e27]
     exact ⟨rfl, N⟩
   · show CHr Z consts_1 s.vm s.heap T27.vm T27.heap
     rw [e27, hh]
     exact C.trans (CHv.at X27 hZ hEL C.1)
  ·
   refine gb m T19 157 LL20 [] (fun _ k => XS.ifYes X19.here hx rfl (pc0 := 133) (pc' := 157) rfl (hb hby at_133) rfl ((if0 _ _).trans (feq hc133_21).2) (by decide) (by decide) k) ?_
   refine tI 159 X19 hx (hb hby at_157) rfl rfl ?_
   refine sC 160 (1 : Int32) X19 hx (hb hby at_159) rfl rfl ?_
   by_cases hc160_28 : (p5 &&& (3 : Int32)) = (1 : Int32)
   ·
    refine gb m T19 163 LL20 [] (fun _ k => XS.icmpNo X19.here hx rfl (hb hby at_160) rfl (teq hc160_28).2 k) ?_
    obtain ⟨T29, h29, X29, e29, E29, A29, D29, -, st29⟩ := newO X19 hx hZ hown (wv hw 7 rfl) (wv hw 8 rfl) (wv hw 9 rfl) e19 (g := (mkF m 163 LL20 [])) rfl (hb hby at_163) (by decide) (by decide)
    obtain ⟨b29, g29⟩ : ∃ z, z = h19.size := ⟨_, rfl⟩
    rw [← g29] at A29 D29 st29
    have ne_b2_b29 : b2 ≠ b29 := Nat.ne_of_lt (Nat.lt_of_lt_of_le V_b2.lt (Nat.le_of_eq g29.symm))
    have g_b29 : n0 ≤ b29 := Nat.le_trans (Old.le O) (Nat.le_of_eq g29.symm)
    have sz_b29 : h0.size ≤ b29 := Nat.le_trans K.1 (Nat.le_of_eq g29.symm)
    have Sf_b29 : Safe Z consts_1 s.vm h19 b29 := Safe.new (Nat.le_of_eq g29.symm)
    replace Sf_b2 := Safe.ext E29 C.1 Sf_b2
    replace V_b2 := V_b2.ext E29
    replace E_b2 := E_b2.ext E29
    replace Sf_b29 := Safe.ext E29 C.1 Sf_b29
    replace O := O.ext E29
    replace K := K.ext E29
    replace C := C.trans (CHr.ext E29 C.1)
    replace hk := Nat.le_trans hk E29.1
    have E_b29 := A29
    have F_coder_b29 : Fld Z h29 b29 "java/lang/String" "coder" "B" (.int (0 : Int32)) := D29 (Or.inr (wv hw 33 rfl)) (ty := .byte) (by decide)
    have F_value_b29 : Fld Z h29 b29 "java/lang/String" "value" "[B" .null := D29 (Or.inr (wv hw 35 rfl)) (ty := (.array .byte)) (by decide)
    refine gb m T29 166 LL20 [(.ref b29)] (st29) ?_
    refine gb m T29 167 LL20 [(.ref b29), (.ref b29)] (fun _ k => XS.dup X29.here hx rfl (hb hby at_166) rfl rfl k) ?_
    refine tA 169 X29 hx (hb hby at_167) rfl rfl rfl ?_
    have hy30_0 : 8 ≤ 260 := by omega
    have hy30_1 : 0 < 8 := by omega
    obtain ⟨v30, _, ⟨T30, L30, k30, n30⟩, -, X30, ⟨Lc30, hQ30, l30, y30, z30⟩, st30⟩ := X29.specialBack hx (y := (⟨"java/lang/String", "<init>", "([C)V"⟩ : MethodName)) rfl hown (mvT hZ (wv hw 10 rfl)) (mvT hZ (wv hw 11 rfl)) (mvT hZ (wv hw 12 rfl)) (by decide) (backOf (W := 1) (rm_sic l Z a0 hw [] b29 b2 _ 8 tf zc fm hS0 h29 n0 O E_b29 F_value_b29 F_coder_b29 g_b29 V_b2 htf hy30_0 hy30_1) hZ (wv hw 12 rfl) (wv hw 9 rfl) (by decide) (by decide)) (g := (mkF m 169 LL20 [(.ref b2), (.ref b29), (.ref b29)])) rfl (by rw [hml]; rfl) (Steps.refl _) (a := b29) (argsL := [(.ref b2)]) (rest := [(.ref b29)]) (lenOf pd43 rfl) rfl (by show 2 * 0 + _ ≤ _; exact Nat.le_of_eq rfl) (hb hby at_169) (fun _ _ => ⟨rfl, e29, (by decide : 2 + 2 ≤ _), (by decide : 12 + 1300 ≤ _)⟩)
    dsimp only [Pt.U, Pt.locs, Pt.cells, Pt.slots] at X30 l30 y30 z30 st30 hQ30
    rw [l30, y30, z30] at X30; clear l30 y30 z30
    obtain ⟨rfl, Nq30, K30, r30, k230, cd30, lb30, fd30, gr30, Gv30, Gc30, Vr30, Er30, hR30⟩ := hQ30
    replace N := Fr.app N Nq30
    have Sf_r30 : Safe Z consts_1 s.vm h29 r30 := Safe.new gr30
    have hs_K30 : ∀ x ∈ ([b29] : List Addr), Safe Z consts_1 s.vm h29 x := (sfS Sf_b29 sf0)
    have Sk_K30 := CHr.keep (Z := Z) (EL := consts_1) (vm := s.vm) K30 hs_K30 C.1
    replace Sf_b2 := Safe.keep K30 hs_K30 C.1 Sf_b2
    replace Sf_b29 := Safe.keep K30 hs_K30 C.1 Sf_b29
    replace Sf_r30 := Safe.keep K30 hs_K30 C.1 Sf_r30
    replace V_b2 := V_b2.keep K30 (ninS ne_b2_b29 nin0)
    replace E_b2 := E_b2.keep K30
    replace E_b29 := E_b29.keep K30
    replace C := C.trans Sk_K30
    replace hk := Nat.le_trans hk K30.1
    replace O := O.keep K30 (allS g_b29 all0)
    replace K := K.trans K30 (allS (Or.inr sz_b29) all0)
    refine gb m T30 172 LL20 [(.ref b29)] (fun _ k => st30.trans k) ?_
    let LL31 : Array Slot := #[.val (.long p0), .second, .val (.long p1), .second, .val (.int p2), .val (.int p3), .val (.int p4), .val (.int p5), .val (.ref b2), .val (.int (p5 &&& (3 : Int32))), .val (.ref b29), .unset, .unset, .unset, .unset, .unset, .unset]
    refine gb m T30 174 LL31 [] (fun _ k => XS.astore X30.here hx rfl (hb hby at_172) rfl rfl (l' := LL31) rfl k) ?_
    refine tA 176 X30 hx (hb hby at_174) rfl rfl rfl ?_
    have hs32_b29 : 8 ≤ 300 := by omega
    have hy32_0 : 8 ≤ 256 := by omega
    obtain ⟨v32, T32, Lc32, X32, hQ32, st32⟩ := cS LL31 [] X30 hx hZ hown hw rfl hml 36 37 38 39 rfl rfl rfl rfl (by decide) (rm_qsU l Z a0 hw [] b29 r30 _ 8 fd30 cd30 lb30 tf zc fm hS0 T30.heap n0 O E_b29 Gv30 Gc30 Vr30 hs32_b29 htf hR30 hy32_0) pd44 rfl rfl (hb hby at_176) rfl
    obtain ⟨rfl, Nq32, e32⟩ := hQ32
    replace N := Fr.app N Nq32
    refine gb m T32 179 LL31 [(.ref b29)] (st32) ?_
    refine tA 181 X32 hx (hb hby at_179) rfl rfl rfl ?_
    obtain ⟨v33, T33, Lc33, X33, hQ33, st33⟩ := cV LL31 [] X32 hx hZ hown hw e32 hml E_b29 263 264 266 265 9 267 rfl rfl rfl rfl rfl rfl (by decide) (rm_eq l Z a0 hw [] b29 T30.heap n0 O) pd45 rfl rfl (hb hby at_181) rfl
    obtain ⟨rfl, Nq33, e33⟩ := hQ33
    replace N := Fr.app N Nq33
    refine gb m T33 184 LL31 [(.int (1 : Int32))] (st33) ?_
    obtain ⟨fs, hr, hrun, hended, q1, q2, q3, q4⟩ := X33.leaveW hS (by rw [e33]; exact hk) (v := some (.int (1 : Int32))) (fun h => by rw [Bd.returns] at h; cases h)
    refine ⟨_, _, retN X33 hx (t := .boolean) Bd.returns (by simp) (hb hby at_184) hr, hrun, hended, _, _, rfl, ?_, ?_, q1, q2, q3, q4.mono (by decide) (by decide)⟩
    · show Q1 n0 (some (.int (1 : Int32))) T33.heap _
      rw [e33]
      exact ⟨rfl, N⟩
    · show CHr Z consts_1 s.vm s.heap T33.vm T33.heap
      rw [e33, hh]
      exact C.trans (CHv.at X33 hZ hEL C.1)
   ·
    refine gb m T19 185 LL20 [] (fun _ k => XS.icmpYes X19.here hx rfl (pc0 := 160) (pc' := 185) rfl (hb hby at_160) rfl (feq hc160_28).2 (by decide) (by decide) k) ?_
    refine sS 188 (260 : Int32) X19 hx (hb hby at_185) rfl rfl ?_
    obtain ⟨T34, h34, k34, X34, e34, E34, A34, B34, st34⟩ := newPE X19 hx hZ (wv hw 0 rfl) e19 (g := (mkF m 188 LL20 [(.int (260 : Int32))])) rfl (hb hby at_188) (n := (nI 260)) rfl (own_neg (a := 260) (by omega)) (cap := 260) (by rw [own_nat (a := 260) (by omega)]; omega) (by decide) (by decide) (by decide) (ad := "[C") (by decide)
    obtain ⟨b34, g34⟩ : ∃ z, z = h19.size := ⟨_, rfl⟩
    rw [← g34] at A34 B34 st34
    have ne_b2_b34 : b2 ≠ b34 := Nat.ne_of_lt (Nat.lt_of_lt_of_le V_b2.lt (Nat.le_of_eq g34.symm))
    have g_b34 : n0 ≤ b34 := Nat.le_trans (Old.le O) (Nat.le_of_eq g34.symm)
    have sz_b34 : h0.size ≤ b34 := Nat.le_trans K.1 (Nat.le_of_eq g34.symm)
    have Sf_b34 : Safe Z consts_1 s.vm h19 b34 := Safe.new (Nat.le_of_eq g34.symm)
    replace Sf_b2 := Safe.ext E34 C.1 Sf_b2
    replace V_b2 := V_b2.ext E34
    replace E_b2 := E_b2.ext E34
    replace Sf_b34 := Safe.ext E34 C.1 Sf_b34
    replace O := O.ext E34
    replace K := K.ext E34
    replace C := C.trans (CHr.ext E34 C.1)
    replace hk := Nat.le_trans hk E34.1
    have V_b34 : Arv Z h34 b34 k34 .char (nI 260) (cont 260 (fun _ => 0)) (.int 0) := own_cnew (Arv.new A34 (own_neg (a := 260) (by omega)))
    have E_b34 := B34
    obtain ⟨fz34, hfz34⟩ : ∃ g : Nat → Int32, g = fun _ => 0 := ⟨_, rfl⟩
    rw [← hfz34] at V_b34
    refine gb m T34 190 LL20 [(.ref b34)] (st34) ?_
    let LL35 : Array Slot := #[.val (.long p0), .second, .val (.long p1), .second, .val (.int p2), .val (.int p3), .val (.int p4), .val (.int p5), .val (.ref b2), .val (.int (p5 &&& (3 : Int32))), .val (.ref b34), .unset, .unset, .unset, .unset, .unset, .unset]
    refine gb m T34 192 LL35 [] (fun _ k => XS.astore X34.here hx rfl (hb hby at_190) rfl rfl (l' := LL35) rfl k) ?_
    refine tI 194 X34 hx (hb hby at_192) rfl rfl ?_
    refine gb m T34 196 LL35 [(.int (2147483647 : Int32)), (.int p4)] (X34.ldcInt hx hown (mvT hZ (wv hw 6 rfl)) (g := (mkF m 194 LL35 [(.int p4)])) rfl (hb hby at_194)) ?_
    refine gb m T34 197 LL35 [(.int (p4 &&& (2147483647 : Int32)))] (fun _ k => XS.iand X34.here hx rfl (hb hby at_196) rfl k) ?_
    refine sS 200 (252 : Int32) X34 hx (hb hby at_197) rfl rfl ?_
    refine gb m T34 201 LL35 [(.int ((p4 &&& (2147483647 : Int32)) % (252 : Int32)))] (fun _ k => iremM X34 hx rfl (hb hby at_200) rfl (by decide) k) ?_
    obtain ⟨kk, hkk, ekk⟩ := own_mask p4
    rw [show ((p4 &&& (2147483647 : Int32)) % (252 : Int32)) = (nI kk) from ekk]
    let LL36 : Array Slot := #[.val (.long p0), .second, .val (.long p1), .second, .val (.int p2), .val (.int p3), .val (.int p4), .val (.int p5), .val (.ref b2), .val (.int (p5 &&& (3 : Int32))), .val (.ref b34), .val (.int (nI kk)), .unset, .unset, .unset, .unset, .unset]
    refine gb m T34 203 LL36 [] (fun _ k => XS.istore X34.here hx rfl (hb hby at_201) rfl (l' := LL36) rfl k) ?_
    refine tA 205 X34 hx (hb hby at_203) rfl rfl rfl ?_
    refine tI 207 X34 hx (hb hby at_205) rfl rfl ?_
    refine tI 209 X34 hx (hb hby at_207) rfl rfl ?_
    refine sS 212 (255 : Int32) X34 hx (hb hby at_209) rfl rfl ?_
    refine gb m T34 213 LL36 [(.int (p3 &&& (255 : Int32))), (.int (nI kk)), (.ref b34)] (fun _ k => XS.iand X34.here hx rfl (hb hby at_212) rfl k) ?_
    refine gb m T34 214 LL36 [(.int ((p3 &&& (255 : Int32)).toUInt32.toUInt16.toUInt32.toInt32)), (.int (nI kk)), (.ref b34)] (fun _ k => XS.i2c X34.here hx rfl (hb hby at_213) rfl k) ?_
    obtain ⟨mk, hmk, emk⟩ := own_mark p3
    rw [show ((p3 &&& (255 : Int32)).toUInt32.toUInt16.toUInt32.toInt32) = (nI mk) from emk]
    obtain ⟨cl37, Ar37, q37, S37, N37', H37, G37⟩ := id V_b34
    obtain ⟨T37, h37, X37, e37, W37, st37⟩ := stC X34 hx hZ e34 Ar37 (j := (nI kk)) (inb_of S37 ⟨own_neg (a := kk) (by omega), (own_nlt (a := kk) (b := 260) (by omega) (by omega)).mpr (by omega)⟩) (g := (mkF m 214 LL36 [(.int (nI mk)), (.int (nI kk)), (.ref b34)])) rfl rfl (hb hby at_214)
    have Sa_W37 := Sf_b34
    replace Sf_b2 := Safe.wr W37 Sa_W37 C.1 Sf_b2
    replace Sf_b34 := Safe.wr W37 Sa_W37 C.1 Sf_b34
    replace V_b2 := V_b2.other W37 ne_b2_b34
    replace E_b2 := E_b2.wr W37
    replace E_b34 := E_b34.wr W37
    replace C := C.trans (CHr.wr W37 Sa_W37 C.1)
    replace hk := Nat.le_trans hk (Keep.of_wr W37).1
    replace V_b34 := (show Arv Z h37 b34 _ .char (nI 260) ((cont 260 fz34).set kk (.int (nar .char (nI mk)))) (.int 0) from Arv.set Ar37 q37 S37 N37' H37 G37 (fits_nar_char _) W37 kk (own_nat (a := kk) (by omega)) (by rw [own_clen]; omega))
    rw [own_cset (by omega)] at V_b34
    obtain ⟨fd37, hfd37⟩ : ∃ g, g = upd fz34 kk (nar .char (nI mk)) := ⟨_, rfl⟩
    rw [← hfd37] at V_b34
    replace O := O.wr W37 g_b34
    replace K := K.wr W37 (Or.inr sz_b34)
    replace N := Fr.snoc X37 N g_b34
    refine gb m T37 215 LL36 [] (st37) ?_
    refine tA 217 X37 hx (hb hby at_215) rfl rfl rfl ?_
    refine sS 220 (252 : Int32) X37 hx (hb hby at_217) rfl rfl ?_
    refine tA 222 X37 hx (hb hby at_220) rfl rfl rfl ?_
    refine sC 223 (0 : Int32) X37 hx (hb hby at_222) rfl rfl ?_
    obtain ⟨cl38, Ar38, q38, S38, N38', H38, G38⟩ := id V_b2
    refine gb m T37 224 LL36 [(.int (nI (tf 0))), (.int (252 : Int32)), (.ref b34)] (X37.caload hx (j := (0 : Int32)) (v := (.int (nI (tf 0)))) (by rw [e37]; exact Ar38.1) (State.isArrayOf_alike hZ.alike Ar38.2.1) Ar38.2.2 (inb_of S38 ⟨own_neg (a := 0) (by omega), (own_nlt (a := 0) (b := 8) (by omega) (by omega)).mpr (by omega)⟩) (Has.at H38 (inb_of S38 ⟨own_neg (a := 0) (by omega), (own_nlt (a := 0) (b := 8) (by omega) (by omega)).mpr (by omega)⟩) (own_at (n := 8) (i := 0) (f := (chf tf)) (by omega) (by omega))) (g := (mkF m 223 LL36 [(.int (0 : Int32)), (.ref b2), (.int (252 : Int32)), (.ref b34)])) rfl rfl (hb hby at_223)) ?_
    obtain ⟨cl39, Ar39, q39, S39, N39', H39, G39⟩ := id V_b34
    obtain ⟨T39, h39, X39, e39, W39, st39⟩ := stC X37 hx hZ e37 Ar39 (j := (252 : Int32)) (inb_of S39 ⟨own_neg (a := 252) (by omega), (own_nlt (a := 252) (b := 260) (by omega) (by omega)).mpr (by omega)⟩) (g := (mkF m 224 LL36 [(.int (nI (tf 0))), (.int (252 : Int32)), (.ref b34)])) rfl rfl (hb hby at_224)
    have Sa_W39 := Sf_b34
    replace Sf_b2 := Safe.wr W39 Sa_W39 C.1 Sf_b2
    replace Sf_b34 := Safe.wr W39 Sa_W39 C.1 Sf_b34
    replace V_b2 := V_b2.other W39 ne_b2_b34
    replace E_b2 := E_b2.wr W39
    replace E_b34 := E_b34.wr W39
    replace C := C.trans (CHr.wr W39 Sa_W39 C.1)
    replace hk := Nat.le_trans hk (Keep.of_wr W39).1
    replace V_b34 := (show Arv Z h39 b34 _ .char (nI 260) ((cont 260 fd37).set 252 (.int (nar .char (nI (tf 0))))) (.int 0) from Arv.set Ar39 q39 S39 N39' H39 G39 (fits_nar_char _) W39 252 (own_nat (a := 252) (by omega)) (by rw [own_clen]; omega))
    rw [own_cset (by omega)] at V_b34
    obtain ⟨fd39, hfd39⟩ : ∃ g, g = upd fd37 252 (nar .char (nI (tf 0))) := ⟨_, rfl⟩
    rw [← hfd39] at V_b34
    replace O := O.wr W39 g_b34
    replace K := K.wr W39 (Or.inr sz_b34)
    replace N := Fr.snoc X39 N g_b34
    refine gb m T39 225 LL36 [] (st39) ?_
    refine tA 227 X39 hx (hb hby at_225) rfl rfl rfl ?_
    refine sS 230 (253 : Int32) X39 hx (hb hby at_227) rfl rfl ?_
    refine tA 232 X39 hx (hb hby at_230) rfl rfl rfl ?_
    refine sC 233 (1 : Int32) X39 hx (hb hby at_232) rfl rfl ?_
    obtain ⟨cl40, Ar40, q40, S40, N40', H40, G40⟩ := id V_b2
    refine gb m T39 234 LL36 [(.int (nI (tf 1))), (.int (253 : Int32)), (.ref b34)] (X39.caload hx (j := (1 : Int32)) (v := (.int (nI (tf 1)))) (by rw [e39]; exact Ar40.1) (State.isArrayOf_alike hZ.alike Ar40.2.1) Ar40.2.2 (inb_of S40 ⟨own_neg (a := 1) (by omega), (own_nlt (a := 1) (b := 8) (by omega) (by omega)).mpr (by omega)⟩) (Has.at H40 (inb_of S40 ⟨own_neg (a := 1) (by omega), (own_nlt (a := 1) (b := 8) (by omega) (by omega)).mpr (by omega)⟩) (own_at (n := 8) (i := 1) (f := (chf tf)) (by omega) (by omega))) (g := (mkF m 233 LL36 [(.int (1 : Int32)), (.ref b2), (.int (253 : Int32)), (.ref b34)])) rfl rfl (hb hby at_233)) ?_
    obtain ⟨cl41, Ar41, q41, S41, N41', H41, G41⟩ := id V_b34
    obtain ⟨T41, h41, X41, e41, W41, st41⟩ := stC X39 hx hZ e39 Ar41 (j := (253 : Int32)) (inb_of S41 ⟨own_neg (a := 253) (by omega), (own_nlt (a := 253) (b := 260) (by omega) (by omega)).mpr (by omega)⟩) (g := (mkF m 234 LL36 [(.int (nI (tf 1))), (.int (253 : Int32)), (.ref b34)])) rfl rfl (hb hby at_234)
    have Sa_W41 := Sf_b34
    replace Sf_b2 := Safe.wr W41 Sa_W41 C.1 Sf_b2
    replace Sf_b34 := Safe.wr W41 Sa_W41 C.1 Sf_b34
    replace V_b2 := V_b2.other W41 ne_b2_b34
    replace E_b2 := E_b2.wr W41
    replace E_b34 := E_b34.wr W41
    replace C := C.trans (CHr.wr W41 Sa_W41 C.1)
    replace hk := Nat.le_trans hk (Keep.of_wr W41).1
    replace V_b34 := (show Arv Z h41 b34 _ .char (nI 260) ((cont 260 fd39).set 253 (.int (nar .char (nI (tf 1))))) (.int 0) from Arv.set Ar41 q41 S41 N41' H41 G41 (fits_nar_char _) W41 253 (own_nat (a := 253) (by omega)) (by rw [own_clen]; omega))
    rw [own_cset (by omega)] at V_b34
    obtain ⟨fd41, hfd41⟩ : ∃ g, g = upd fd39 253 (nar .char (nI (tf 1))) := ⟨_, rfl⟩
    rw [← hfd41] at V_b34
    replace O := O.wr W41 g_b34
    replace K := K.wr W41 (Or.inr sz_b34)
    replace N := Fr.snoc X41 N g_b34
    refine gb m T41 235 LL36 [] (st41) ?_
    refine tA 237 X41 hx (hb hby at_235) rfl rfl rfl ?_
    refine sS 240 (254 : Int32) X41 hx (hb hby at_237) rfl rfl ?_
    refine tA 242 X41 hx (hb hby at_240) rfl rfl rfl ?_
    refine sC 243 (2 : Int32) X41 hx (hb hby at_242) rfl rfl ?_
    obtain ⟨cl42, Ar42, q42, S42, N42', H42, G42⟩ := id V_b2
    refine gb m T41 244 LL36 [(.int (nI (tf 2))), (.int (254 : Int32)), (.ref b34)] (X41.caload hx (j := (2 : Int32)) (v := (.int (nI (tf 2)))) (by rw [e41]; exact Ar42.1) (State.isArrayOf_alike hZ.alike Ar42.2.1) Ar42.2.2 (inb_of S42 ⟨own_neg (a := 2) (by omega), (own_nlt (a := 2) (b := 8) (by omega) (by omega)).mpr (by omega)⟩) (Has.at H42 (inb_of S42 ⟨own_neg (a := 2) (by omega), (own_nlt (a := 2) (b := 8) (by omega) (by omega)).mpr (by omega)⟩) (own_at (n := 8) (i := 2) (f := (chf tf)) (by omega) (by omega))) (g := (mkF m 243 LL36 [(.int (2 : Int32)), (.ref b2), (.int (254 : Int32)), (.ref b34)])) rfl rfl (hb hby at_243)) ?_
    obtain ⟨cl43, Ar43, q43, S43, N43', H43, G43⟩ := id V_b34
    obtain ⟨T43, h43, X43, e43, W43, st43⟩ := stC X41 hx hZ e41 Ar43 (j := (254 : Int32)) (inb_of S43 ⟨own_neg (a := 254) (by omega), (own_nlt (a := 254) (b := 260) (by omega) (by omega)).mpr (by omega)⟩) (g := (mkF m 244 LL36 [(.int (nI (tf 2))), (.int (254 : Int32)), (.ref b34)])) rfl rfl (hb hby at_244)
    have Sa_W43 := Sf_b34
    replace Sf_b2 := Safe.wr W43 Sa_W43 C.1 Sf_b2
    replace Sf_b34 := Safe.wr W43 Sa_W43 C.1 Sf_b34
    replace V_b2 := V_b2.other W43 ne_b2_b34
    replace E_b2 := E_b2.wr W43
    replace E_b34 := E_b34.wr W43
    replace C := C.trans (CHr.wr W43 Sa_W43 C.1)
    replace hk := Nat.le_trans hk (Keep.of_wr W43).1
    replace V_b34 := (show Arv Z h43 b34 _ .char (nI 260) ((cont 260 fd41).set 254 (.int (nar .char (nI (tf 2))))) (.int 0) from Arv.set Ar43 q43 S43 N43' H43 G43 (fits_nar_char _) W43 254 (own_nat (a := 254) (by omega)) (by rw [own_clen]; omega))
    rw [own_cset (by omega)] at V_b34
    obtain ⟨fd43, hfd43⟩ : ∃ g, g = upd fd41 254 (nar .char (nI (tf 2))) := ⟨_, rfl⟩
    rw [← hfd43] at V_b34
    replace O := O.wr W43 g_b34
    replace K := K.wr W43 (Or.inr sz_b34)
    replace N := Fr.snoc X43 N g_b34
    refine gb m T43 245 LL36 [] (st43) ?_
    refine tA 247 X43 hx (hb hby at_245) rfl rfl rfl ?_
    refine sS 250 (255 : Int32) X43 hx (hb hby at_247) rfl rfl ?_
    refine tA 252 X43 hx (hb hby at_250) rfl rfl rfl ?_
    refine sC 253 (3 : Int32) X43 hx (hb hby at_252) rfl rfl ?_
    obtain ⟨cl44, Ar44, q44, S44, N44', H44, G44⟩ := id V_b2
    refine gb m T43 254 LL36 [(.int (nI (tf 3))), (.int (255 : Int32)), (.ref b34)] (X43.caload hx (j := (3 : Int32)) (v := (.int (nI (tf 3)))) (by rw [e43]; exact Ar44.1) (State.isArrayOf_alike hZ.alike Ar44.2.1) Ar44.2.2 (inb_of S44 ⟨own_neg (a := 3) (by omega), (own_nlt (a := 3) (b := 8) (by omega) (by omega)).mpr (by omega)⟩) (Has.at H44 (inb_of S44 ⟨own_neg (a := 3) (by omega), (own_nlt (a := 3) (b := 8) (by omega) (by omega)).mpr (by omega)⟩) (own_at (n := 8) (i := 3) (f := (chf tf)) (by omega) (by omega))) (g := (mkF m 253 LL36 [(.int (3 : Int32)), (.ref b2), (.int (255 : Int32)), (.ref b34)])) rfl rfl (hb hby at_253)) ?_
    obtain ⟨cl45, Ar45, q45, S45, N45', H45, G45⟩ := id V_b34
    obtain ⟨T45, h45, X45, e45, W45, st45⟩ := stC X43 hx hZ e43 Ar45 (j := (255 : Int32)) (inb_of S45 ⟨own_neg (a := 255) (by omega), (own_nlt (a := 255) (b := 260) (by omega) (by omega)).mpr (by omega)⟩) (g := (mkF m 254 LL36 [(.int (nI (tf 3))), (.int (255 : Int32)), (.ref b34)])) rfl rfl (hb hby at_254)
    have Sa_W45 := Sf_b34
    replace Sf_b2 := Safe.wr W45 Sa_W45 C.1 Sf_b2
    replace Sf_b34 := Safe.wr W45 Sa_W45 C.1 Sf_b34
    replace V_b2 := V_b2.other W45 ne_b2_b34
    replace E_b2 := E_b2.wr W45
    replace E_b34 := E_b34.wr W45
    replace C := C.trans (CHr.wr W45 Sa_W45 C.1)
    replace hk := Nat.le_trans hk (Keep.of_wr W45).1
    replace V_b34 := (show Arv Z h45 b34 _ .char (nI 260) ((cont 260 fd43).set 255 (.int (nar .char (nI (tf 3))))) (.int 0) from Arv.set Ar45 q45 S45 N45' H45 G45 (fits_nar_char _) W45 255 (own_nat (a := 255) (by omega)) (by rw [own_clen]; omega))
    rw [own_cset (by omega)] at V_b34
    obtain ⟨fd45, hfd45⟩ : ∃ g, g = upd fd43 255 (nar .char (nI (tf 3))) := ⟨_, rfl⟩
    rw [← hfd45] at V_b34
    replace O := O.wr W45 g_b34
    replace K := K.wr W45 (Or.inr sz_b34)
    replace N := Fr.snoc X45 N g_b34
    refine gb m T45 255 LL36 [] (st45) ?_
    refine tA 257 X45 hx (hb hby at_255) rfl rfl rfl ?_
    refine sS 260 (256 : Int32) X45 hx (hb hby at_257) rfl rfl ?_
    refine tA 262 X45 hx (hb hby at_260) rfl rfl rfl ?_
    refine sC 263 (4 : Int32) X45 hx (hb hby at_262) rfl rfl ?_
    obtain ⟨cl46, Ar46, q46, S46, N46', H46, G46⟩ := id V_b2
    refine gb m T45 264 LL36 [(.int (nI (tf 4))), (.int (256 : Int32)), (.ref b34)] (X45.caload hx (j := (4 : Int32)) (v := (.int (nI (tf 4)))) (by rw [e45]; exact Ar46.1) (State.isArrayOf_alike hZ.alike Ar46.2.1) Ar46.2.2 (inb_of S46 ⟨own_neg (a := 4) (by omega), (own_nlt (a := 4) (b := 8) (by omega) (by omega)).mpr (by omega)⟩) (Has.at H46 (inb_of S46 ⟨own_neg (a := 4) (by omega), (own_nlt (a := 4) (b := 8) (by omega) (by omega)).mpr (by omega)⟩) (own_at (n := 8) (i := 4) (f := (chf tf)) (by omega) (by omega))) (g := (mkF m 263 LL36 [(.int (4 : Int32)), (.ref b2), (.int (256 : Int32)), (.ref b34)])) rfl rfl (hb hby at_263)) ?_
    obtain ⟨cl47, Ar47, q47, S47, N47', H47, G47⟩ := id V_b34
    obtain ⟨T47, h47, X47, e47, W47, st47⟩ := stC X45 hx hZ e45 Ar47 (j := (256 : Int32)) (inb_of S47 ⟨own_neg (a := 256) (by omega), (own_nlt (a := 256) (b := 260) (by omega) (by omega)).mpr (by omega)⟩) (g := (mkF m 264 LL36 [(.int (nI (tf 4))), (.int (256 : Int32)), (.ref b34)])) rfl rfl (hb hby at_264)
    have Sa_W47 := Sf_b34
    replace Sf_b2 := Safe.wr W47 Sa_W47 C.1 Sf_b2
    replace Sf_b34 := Safe.wr W47 Sa_W47 C.1 Sf_b34
    replace V_b2 := V_b2.other W47 ne_b2_b34
    replace E_b2 := E_b2.wr W47
    replace E_b34 := E_b34.wr W47
    replace C := C.trans (CHr.wr W47 Sa_W47 C.1)
    replace hk := Nat.le_trans hk (Keep.of_wr W47).1
    replace V_b34 := (show Arv Z h47 b34 _ .char (nI 260) ((cont 260 fd45).set 256 (.int (nar .char (nI (tf 4))))) (.int 0) from Arv.set Ar47 q47 S47 N47' H47 G47 (fits_nar_char _) W47 256 (own_nat (a := 256) (by omega)) (by rw [own_clen]; omega))
    rw [own_cset (by omega)] at V_b34
    obtain ⟨fd47, hfd47⟩ : ∃ g, g = upd fd45 256 (nar .char (nI (tf 4))) := ⟨_, rfl⟩
    rw [← hfd47] at V_b34
    replace O := O.wr W47 g_b34
    replace K := K.wr W47 (Or.inr sz_b34)
    replace N := Fr.snoc X47 N g_b34
    refine gb m T47 265 LL36 [] (st47) ?_
    refine tA 267 X47 hx (hb hby at_265) rfl rfl rfl ?_
    refine sS 270 (257 : Int32) X47 hx (hb hby at_267) rfl rfl ?_
    refine tA 272 X47 hx (hb hby at_270) rfl rfl rfl ?_
    refine sC 273 (5 : Int32) X47 hx (hb hby at_272) rfl rfl ?_
    obtain ⟨cl48, Ar48, q48, S48, N48', H48, G48⟩ := id V_b2
    refine gb m T47 274 LL36 [(.int (nI (tf 5))), (.int (257 : Int32)), (.ref b34)] (X47.caload hx (j := (5 : Int32)) (v := (.int (nI (tf 5)))) (by rw [e47]; exact Ar48.1) (State.isArrayOf_alike hZ.alike Ar48.2.1) Ar48.2.2 (inb_of S48 ⟨own_neg (a := 5) (by omega), (own_nlt (a := 5) (b := 8) (by omega) (by omega)).mpr (by omega)⟩) (Has.at H48 (inb_of S48 ⟨own_neg (a := 5) (by omega), (own_nlt (a := 5) (b := 8) (by omega) (by omega)).mpr (by omega)⟩) (own_at (n := 8) (i := 5) (f := (chf tf)) (by omega) (by omega))) (g := (mkF m 273 LL36 [(.int (5 : Int32)), (.ref b2), (.int (257 : Int32)), (.ref b34)])) rfl rfl (hb hby at_273)) ?_
    obtain ⟨cl49, Ar49, q49, S49, N49', H49, G49⟩ := id V_b34
    obtain ⟨T49, h49, X49, e49, W49, st49⟩ := stC X47 hx hZ e47 Ar49 (j := (257 : Int32)) (inb_of S49 ⟨own_neg (a := 257) (by omega), (own_nlt (a := 257) (b := 260) (by omega) (by omega)).mpr (by omega)⟩) (g := (mkF m 274 LL36 [(.int (nI (tf 5))), (.int (257 : Int32)), (.ref b34)])) rfl rfl (hb hby at_274)
    have Sa_W49 := Sf_b34
    replace Sf_b2 := Safe.wr W49 Sa_W49 C.1 Sf_b2
    replace Sf_b34 := Safe.wr W49 Sa_W49 C.1 Sf_b34
    replace V_b2 := V_b2.other W49 ne_b2_b34
    replace E_b2 := E_b2.wr W49
    replace E_b34 := E_b34.wr W49
    replace C := C.trans (CHr.wr W49 Sa_W49 C.1)
    replace hk := Nat.le_trans hk (Keep.of_wr W49).1
    replace V_b34 := (show Arv Z h49 b34 _ .char (nI 260) ((cont 260 fd47).set 257 (.int (nar .char (nI (tf 5))))) (.int 0) from Arv.set Ar49 q49 S49 N49' H49 G49 (fits_nar_char _) W49 257 (own_nat (a := 257) (by omega)) (by rw [own_clen]; omega))
    rw [own_cset (by omega)] at V_b34
    obtain ⟨fd49, hfd49⟩ : ∃ g, g = upd fd47 257 (nar .char (nI (tf 5))) := ⟨_, rfl⟩
    rw [← hfd49] at V_b34
    replace O := O.wr W49 g_b34
    replace K := K.wr W49 (Or.inr sz_b34)
    replace N := Fr.snoc X49 N g_b34
    refine gb m T49 275 LL36 [] (st49) ?_
    refine tA 277 X49 hx (hb hby at_275) rfl rfl rfl ?_
    refine sS 280 (258 : Int32) X49 hx (hb hby at_277) rfl rfl ?_
    refine tA 282 X49 hx (hb hby at_280) rfl rfl rfl ?_
    refine sB 284 (6 : Int32) X49 hx (hb hby at_282) rfl rfl ?_
    obtain ⟨cl50, Ar50, q50, S50, N50', H50, G50⟩ := id V_b2
    refine gb m T49 285 LL36 [(.int (nI (tf 6))), (.int (258 : Int32)), (.ref b34)] (X49.caload hx (j := (6 : Int32)) (v := (.int (nI (tf 6)))) (by rw [e49]; exact Ar50.1) (State.isArrayOf_alike hZ.alike Ar50.2.1) Ar50.2.2 (inb_of S50 ⟨own_neg (a := 6) (by omega), (own_nlt (a := 6) (b := 8) (by omega) (by omega)).mpr (by omega)⟩) (Has.at H50 (inb_of S50 ⟨own_neg (a := 6) (by omega), (own_nlt (a := 6) (b := 8) (by omega) (by omega)).mpr (by omega)⟩) (own_at (n := 8) (i := 6) (f := (chf tf)) (by omega) (by omega))) (g := (mkF m 284 LL36 [(.int (6 : Int32)), (.ref b2), (.int (258 : Int32)), (.ref b34)])) rfl rfl (hb hby at_284)) ?_
    obtain ⟨cl51, Ar51, q51, S51, N51', H51, G51⟩ := id V_b34
    obtain ⟨T51, h51, X51, e51, W51, st51⟩ := stC X49 hx hZ e49 Ar51 (j := (258 : Int32)) (inb_of S51 ⟨own_neg (a := 258) (by omega), (own_nlt (a := 258) (b := 260) (by omega) (by omega)).mpr (by omega)⟩) (g := (mkF m 285 LL36 [(.int (nI (tf 6))), (.int (258 : Int32)), (.ref b34)])) rfl rfl (hb hby at_285)
    have Sa_W51 := Sf_b34
    replace Sf_b2 := Safe.wr W51 Sa_W51 C.1 Sf_b2
    replace Sf_b34 := Safe.wr W51 Sa_W51 C.1 Sf_b34
    replace V_b2 := V_b2.other W51 ne_b2_b34
    replace E_b2 := E_b2.wr W51
    replace E_b34 := E_b34.wr W51
    replace C := C.trans (CHr.wr W51 Sa_W51 C.1)
    replace hk := Nat.le_trans hk (Keep.of_wr W51).1
    replace V_b34 := (show Arv Z h51 b34 _ .char (nI 260) ((cont 260 fd49).set 258 (.int (nar .char (nI (tf 6))))) (.int 0) from Arv.set Ar51 q51 S51 N51' H51 G51 (fits_nar_char _) W51 258 (own_nat (a := 258) (by omega)) (by rw [own_clen]; omega))
    rw [own_cset (by omega)] at V_b34
    obtain ⟨fd51, hfd51⟩ : ∃ g, g = upd fd49 258 (nar .char (nI (tf 6))) := ⟨_, rfl⟩
    rw [← hfd51] at V_b34
    replace O := O.wr W51 g_b34
    replace K := K.wr W51 (Or.inr sz_b34)
    replace N := Fr.snoc X51 N g_b34
    refine gb m T51 286 LL36 [] (st51) ?_
    refine tA 288 X51 hx (hb hby at_286) rfl rfl rfl ?_
    refine sS 291 (259 : Int32) X51 hx (hb hby at_288) rfl rfl ?_
    refine tA 293 X51 hx (hb hby at_291) rfl rfl rfl ?_
    refine sB 295 (7 : Int32) X51 hx (hb hby at_293) rfl rfl ?_
    obtain ⟨cl52, Ar52, q52, S52, N52', H52, G52⟩ := id V_b2
    refine gb m T51 296 LL36 [(.int (nI (tf 7))), (.int (259 : Int32)), (.ref b34)] (X51.caload hx (j := (7 : Int32)) (v := (.int (nI (tf 7)))) (by rw [e51]; exact Ar52.1) (State.isArrayOf_alike hZ.alike Ar52.2.1) Ar52.2.2 (inb_of S52 ⟨own_neg (a := 7) (by omega), (own_nlt (a := 7) (b := 8) (by omega) (by omega)).mpr (by omega)⟩) (Has.at H52 (inb_of S52 ⟨own_neg (a := 7) (by omega), (own_nlt (a := 7) (b := 8) (by omega) (by omega)).mpr (by omega)⟩) (own_at (n := 8) (i := 7) (f := (chf tf)) (by omega) (by omega))) (g := (mkF m 295 LL36 [(.int (7 : Int32)), (.ref b2), (.int (259 : Int32)), (.ref b34)])) rfl rfl (hb hby at_295)) ?_
    obtain ⟨cl53, Ar53, q53, S53, N53', H53, G53⟩ := id V_b34
    obtain ⟨T53, h53, X53, e53, W53, st53⟩ := stC X51 hx hZ e51 Ar53 (j := (259 : Int32)) (inb_of S53 ⟨own_neg (a := 259) (by omega), (own_nlt (a := 259) (b := 260) (by omega) (by omega)).mpr (by omega)⟩) (g := (mkF m 296 LL36 [(.int (nI (tf 7))), (.int (259 : Int32)), (.ref b34)])) rfl rfl (hb hby at_296)
    have Sa_W53 := Sf_b34
    replace Sf_b2 := Safe.wr W53 Sa_W53 C.1 Sf_b2
    replace Sf_b34 := Safe.wr W53 Sa_W53 C.1 Sf_b34
    replace V_b2 := V_b2.other W53 ne_b2_b34
    replace E_b2 := E_b2.wr W53
    replace E_b34 := E_b34.wr W53
    replace C := C.trans (CHr.wr W53 Sa_W53 C.1)
    replace hk := Nat.le_trans hk (Keep.of_wr W53).1
    replace V_b34 := (show Arv Z h53 b34 _ .char (nI 260) ((cont 260 fd51).set 259 (.int (nar .char (nI (tf 7))))) (.int 0) from Arv.set Ar53 q53 S53 N53' H53 G53 (fits_nar_char _) W53 259 (own_nat (a := 259) (by omega)) (by rw [own_clen]; omega))
    rw [own_cset (by omega)] at V_b34
    obtain ⟨fd53, hfd53⟩ : ∃ g, g = upd fd51 259 (nar .char (nI (tf 7))) := ⟨_, rfl⟩
    rw [← hfd53] at V_b34
    replace O := O.wr W53 g_b34
    replace K := K.wr W53 (Or.inr sz_b34)
    replace N := Fr.snoc X53 N g_b34
    refine gb m T53 297 LL36 [] (st53) ?_
    replace V_b34 := own_cong V_b34 (own_c260 hmk hkk htf hfz34 hfd37 hfd39 hfd41 hfd43 hfd45 hfd47 hfd49 hfd51 hfd53)
    obtain ⟨cf, hcf⟩ : ∃ g, g = cq kk mk tf := ⟨_, rfl⟩
    rw [← hcf] at V_b34
    obtain ⟨hcb, hlow, hct⟩ := own_cqb (kk := kk) hmk htf
    rw [← hcf] at hcb hlow hct
    obtain ⟨T54, h54, X54, e54, E54, A54, D54, -, st54⟩ := newO X53 hx hZ hown (wv hw 7 rfl) (wv hw 8 rfl) (wv hw 9 rfl) e53 (g := (mkF m 297 LL36 [])) rfl (hb hby at_297) (by decide) (by decide)
    obtain ⟨b54, g54⟩ : ∃ z, z = h53.size := ⟨_, rfl⟩
    rw [← g54] at A54 D54 st54
    have ne_b2_b54 : b2 ≠ b54 := Nat.ne_of_lt (Nat.lt_of_lt_of_le V_b2.lt (Nat.le_of_eq g54.symm))
    have ne_b34_b54 : b34 ≠ b54 := Nat.ne_of_lt (Nat.lt_of_lt_of_le V_b34.lt (Nat.le_of_eq g54.symm))
    have g_b54 : n0 ≤ b54 := Nat.le_trans (Old.le O) (Nat.le_of_eq g54.symm)
    have sz_b54 : h0.size ≤ b54 := Nat.le_trans K.1 (Nat.le_of_eq g54.symm)
    have Sf_b54 : Safe Z consts_1 s.vm h53 b54 := Safe.new (Nat.le_of_eq g54.symm)
    replace Sf_b2 := Safe.ext E54 C.1 Sf_b2
    replace V_b2 := V_b2.ext E54
    replace E_b2 := E_b2.ext E54
    replace Sf_b34 := Safe.ext E54 C.1 Sf_b34
    replace V_b34 := V_b34.ext E54
    replace E_b34 := E_b34.ext E54
    replace Sf_b54 := Safe.ext E54 C.1 Sf_b54
    replace O := O.ext E54
    replace K := K.ext E54
    replace C := C.trans (CHr.ext E54 C.1)
    replace hk := Nat.le_trans hk E54.1
    have E_b54 := A54
    have F_coder_b54 : Fld Z h54 b54 "java/lang/String" "coder" "B" (.int (0 : Int32)) := D54 (Or.inr (wv hw 33 rfl)) (ty := .byte) (by decide)
    have F_value_b54 : Fld Z h54 b54 "java/lang/String" "value" "[B" .null := D54 (Or.inr (wv hw 35 rfl)) (ty := (.array .byte)) (by decide)
    refine gb m T54 300 LL36 [(.ref b54)] (st54) ?_
    refine gb m T54 301 LL36 [(.ref b54), (.ref b54)] (fun _ k => XS.dup X54.here hx rfl (hb hby at_300) rfl rfl k) ?_
    refine tA 303 X54 hx (hb hby at_301) rfl rfl rfl ?_
    have hy55_0 : 260 ≤ 260 := by omega
    have hy55_1 : 0 < 260 := by omega
    obtain ⟨v55, _, ⟨T55, L55, k55, n55⟩, -, X55, ⟨Lc55, hQ55, l55, y55, z55⟩, st55⟩ := X54.specialBack hx (y := (⟨"java/lang/String", "<init>", "([C)V"⟩ : MethodName)) rfl hown (mvT hZ (wv hw 10 rfl)) (mvT hZ (wv hw 11 rfl)) (mvT hZ (wv hw 12 rfl)) (by decide) (backOf (W := 1) (rm_sic l Z a0 hw [] b54 b34 _ 260 cf zc fm hS0 h54 n0 O E_b54 F_value_b54 F_coder_b54 g_b54 V_b34 hcb hy55_0 hy55_1) hZ (wv hw 12 rfl) (wv hw 9 rfl) (by decide) (by decide)) (g := (mkF m 303 LL36 [(.ref b34), (.ref b54), (.ref b54)])) rfl (by rw [hml]; rfl) (Steps.refl _) (a := b54) (argsL := [(.ref b34)]) (rest := [(.ref b54)]) (lenOf pd43 rfl) rfl (by show 2 * 0 + _ ≤ _; exact Nat.le_of_eq rfl) (hb hby at_303) (fun _ _ => ⟨rfl, e54, (by decide : 3 + 2 ≤ _), (by decide : 272 + 1300 ≤ _)⟩)
    dsimp only [Pt.U, Pt.locs, Pt.cells, Pt.slots] at X55 l55 y55 z55 st55 hQ55
    rw [l55, y55, z55] at X55; clear l55 y55 z55
    obtain ⟨rfl, Nq55, K55, r55, k255, cd55, lb55, fd55, gr55, Gv55, Gc55, Vr55, Er55, hR55⟩ := hQ55
    replace N := Fr.app N Nq55
    have Sf_r55 : Safe Z consts_1 s.vm h54 r55 := Safe.new gr55
    have hs_K55 : ∀ x ∈ ([b54] : List Addr), Safe Z consts_1 s.vm h54 x := (sfS Sf_b54 sf0)
    have Sk_K55 := CHr.keep (Z := Z) (EL := consts_1) (vm := s.vm) K55 hs_K55 C.1
    replace Sf_b2 := Safe.keep K55 hs_K55 C.1 Sf_b2
    replace Sf_b34 := Safe.keep K55 hs_K55 C.1 Sf_b34
    replace Sf_b54 := Safe.keep K55 hs_K55 C.1 Sf_b54
    replace Sf_r55 := Safe.keep K55 hs_K55 C.1 Sf_r55
    replace V_b2 := V_b2.keep K55 (ninS ne_b2_b54 nin0)
    replace E_b2 := E_b2.keep K55
    replace V_b34 := V_b34.keep K55 (ninS ne_b34_b54 nin0)
    replace E_b34 := E_b34.keep K55
    replace E_b54 := E_b54.keep K55
    replace C := C.trans Sk_K55
    replace hk := Nat.le_trans hk K55.1
    replace O := O.keep K55 (allS g_b54 all0)
    replace K := K.trans K55 (allS (Or.inr sz_b54) all0)
    refine gb m T55 306 LL36 [(.ref b54)] (fun _ k => st55.trans k) ?_
    let LL56 : Array Slot := #[.val (.long p0), .second, .val (.long p1), .second, .val (.int p2), .val (.int p3), .val (.int p4), .val (.int p5), .val (.ref b2), .val (.int (p5 &&& (3 : Int32))), .val (.ref b34), .val (.int (nI kk)), .val (.ref b54), .unset, .unset, .unset, .unset]
    refine gb m T55 308 LL56 [] (fun _ k => XS.astore X55.here hx rfl (hb hby at_306) rfl rfl (l' := LL56) rfl k) ?_
    refine tA 310 X55 hx (hb hby at_308) rfl rfl rfl ?_
    have hs57_b54 : 260 ≤ 300 := by omega
    have hy57_0 : 260 = 260 := by omega
    obtain ⟨v57, _, ⟨T57, L57, k57, n57⟩, -, X57, hS57, hg57, ⟨Lc57, hQ57, l57, y57, z57, C57⟩, st57⟩ := callSS X55 hx (y := (⟨"com/example/helvedir/helvedir/Diagnostic", "quote", "(Ljava/lang/String;)Ljava/lang/String;"⟩ : MethodName)) hown (mvT hZ (wv hw 36 rfl)) (mvT hZ (wv hw 37 rfl)) (mvT hZ (wv hw 38 rfl)) (mvT hZ (wv hw 39 rfl)) (by decide) (backOfSH (W := 0) (s := s) (EL := consts_1) (rm_qlU l Z a0 hw [] hEL b54 r55 _ 260 fd55 cd55 lb55 cf zc fm hS0 T55.heap n0 O E_b54 Gv55 Gc55 Vr55 hs57_b54 hcb hR55 hy57_0 hlow) hZ (wv hw 39 rfl) (wv hw 38 rfl) (by decide) (by decide) hEL C.1) (g := (mkF m 310 LL56 [(.ref b54)])) rfl (by rw [hml]; rfl) (argsL := [(.ref b54)]) (rest := []) (lenOf pd44 rfl) rfl (by show 2 * 0 + _ ≤ _; exact Nat.le_of_eq rfl) (hb hby at_310) (fun _ _ => ⟨rfl, rfl, (by decide : 5 + 12 ≤ _), (by decide : 1572 + 4604 ≤ _)⟩)
    dsimp only [Pt.U, Pt.locs, Pt.cells, Pt.slots] at X57 l57 y57 z57 st57 hQ57 hS57 hg57 C57
    rw [l57, y57, z57] at X57; clear l57 y57 z57
    have hown57 : (s.setVm T57.vm).vm.findClass "com/example/helvedir/helvedir/DiagnosticQuotePinLaw" = some m.cls := by rw [show (s.setVm T57.vm).vm = T57.vm from rfl, hS57.1.alike.findClass]; exact hown
    have hZ57 : Z.Warmed39 (s.setVm T57.vm).vm := State.Warmed39.trans (t := s.setVm s.vm) hZ hS57.1
    have ag57 := Stand.againW (s := s) X57 hS hS57 (Nat.le_trans hk hg57)
    replace X57 := ag57.1
    replace hS := ag57.2
    replace Sf_b2 := CHr.safe C57 V_b2.lt Sf_b2
    replace Sf_b34 := CHr.safe C57 V_b34.lt Sf_b34
    replace Sf_b54 := CHr.safe C57 E_b54.lt Sf_b54
    replace Sf_r55 := CHr.safe C57 Vr55.lt Sf_r55
    obtain ⟨y57, rfl, Nq57, K57, hor57⟩ := hQ57
    replace N := Fr.app N Nq57
    replace V_b2 := V_b2.keep K57 nin0
    replace E_b2 := E_b2.keep K57
    replace V_b34 := V_b34.keep K57 nin0
    replace E_b34 := E_b34.keep K57
    replace E_b54 := E_b54.keep K57
    replace Gv55 := Gv55.keep K57 nin0
    replace Gc55 := Gc55.keep K57 nin0
    replace Vr55 := Vr55.keep K57 nin0
    replace Er55 := Er55.keep K57
    replace O := O.keep K57 all0
    replace K := K.trans K57 all0
    replace C := C.trans C57
    replace hZ := hZ57
    replace hown := hown57
    replace hk := Nat.le_refl T57.heap.size
    refine gb m T57 313 LL56 [(.ref y57)] (fun _ k => st57.trans k) ?_
    have hE5 : Ej cf 260 256 = 252 + stp tf (stp tf (stp tf (stp tf 0))) := own_Ej hlow hct
    have hE6 := own_st4 (t := tf)
    rw [hE5] at hor57
    clear hE5
    obtain ⟨e4, he4⟩ : ∃ z, z = stp tf (stp tf (stp tf (stp tf 0))) := ⟨_, rfl⟩
    rw [← he4] at hor57 hE6
    rcases hor57 with ⟨hE7, hxy⟩ | ⟨hE7, r57, k257, cd57, lb57, fd57, Ey57, Gv57, Gc57, Vr57, hR57⟩
    ·
     rw [← hxy]
     let LL58 : Array Slot := #[.val (.long p0), .second, .val (.long p1), .second, .val (.int p2), .val (.int p3), .val (.int p4), .val (.int p5), .val (.ref b2), .val (.int (p5 &&& (3 : Int32))), .val (.ref b34), .val (.int (nI kk)), .val (.ref b54), .val (.ref b54), .unset, .unset, .unset]
     refine gb m T57 315 LL58 [] (fun _ k => XS.astore X57.here hx rfl (hb hby at_313) rfl rfl (l' := LL58) rfl k) ?_
     refine tA 317 X57 hx (hb hby at_315) rfl rfl rfl ?_
     refine tA 319 X57 hx (hb hby at_317) rfl rfl rfl ?_
     refine tA 321 X57 hx (hb hby at_319) rfl rfl rfl ?_
     refine tA 323 X57 hx (hb hby at_321) rfl rfl rfl ?_
     refine sC 324 (0 : Int32) X57 hx (hb hby at_323) rfl rfl ?_
     have hy59_0 : 0 ≤ 8 := by omega
     obtain ⟨v59, T59, Lc59, X59, hQ59, st59⟩ := cS LL58 [(.ref b2), (.ref b2), (.ref b2)] X57 hx hZ hown hw rfl hml 215 216 3 217 rfl rfl rfl rfl (by decide) (rm_stp l Z a0 hw [] b2 _ tf 0 T57.heap n0 O V_b2 htf hy59_0) pd46 rfl rfl (hb hby at_324) rfl
     obtain ⟨rfl, Nq59, e59⟩ := hQ59
     replace N := Fr.app N Nq59
     refine gb m T59 327 LL58 [(.int (nI (stp tf 0))), (.ref b2), (.ref b2), (.ref b2)] (st59) ?_
     have hy60_0 : (stp tf 0) ≤ 8 := (own_stle hy59_0).1
     obtain ⟨v60, T60, Lc60, X60, hQ60, st60⟩ := cS LL58 [(.ref b2), (.ref b2)] X59 hx hZ hown hw e59 hml 215 216 3 217 rfl rfl rfl rfl (by decide) (rm_stp l Z a0 hw [] b2 _ tf (stp tf 0) T57.heap n0 O V_b2 htf hy60_0) pd46 rfl rfl (hb hby at_327) rfl
     obtain ⟨rfl, Nq60, e60⟩ := hQ60
     replace N := Fr.app N Nq60
     refine gb m T60 330 LL58 [(.int (nI (stp tf (stp tf 0)))), (.ref b2), (.ref b2)] (st60) ?_
     have hy61_0 : (stp tf (stp tf 0)) ≤ 8 := (own_stle hy60_0).1
     obtain ⟨v61, T61, Lc61, X61, hQ61, st61⟩ := cS LL58 [(.ref b2)] X60 hx hZ hown hw e60 hml 215 216 3 217 rfl rfl rfl rfl (by decide) (rm_stp l Z a0 hw [] b2 _ tf (stp tf (stp tf 0)) T57.heap n0 O V_b2 htf hy61_0) pd46 rfl rfl (hb hby at_330) rfl
     obtain ⟨rfl, Nq61, e61⟩ := hQ61
     replace N := Fr.app N Nq61
     refine gb m T61 333 LL58 [(.int (nI (stp tf (stp tf (stp tf 0))))), (.ref b2)] (st61) ?_
     have hy62_0 : (stp tf (stp tf (stp tf 0))) ≤ 8 := (own_stle hy61_0).1
     obtain ⟨v62, T62, Lc62, X62, hQ62, st62⟩ := cS LL58 [] X61 hx hZ hown hw e61 hml 215 216 3 217 rfl rfl rfl rfl (by decide) (rm_stp l Z a0 hw [] b2 _ tf (stp tf (stp tf (stp tf 0))) T57.heap n0 O V_b2 htf hy62_0) pd46 rfl rfl (hb hby at_333) rfl
     obtain ⟨rfl, Nq62, e62⟩ := hQ62
     replace N := Fr.app N Nq62
     refine gb m T62 336 LL58 [(.int (nI (stp tf (stp tf (stp tf (stp tf 0))))))] (st62) ?_
     rw [show (nI (stp tf (stp tf (stp tf (stp tf 0))))) = (nI e4) from by rw [he4]]
     let LL63 : Array Slot := #[.val (.long p0), .second, .val (.long p1), .second, .val (.int p2), .val (.int p3), .val (.int p4), .val (.int p5), .val (.ref b2), .val (.int (p5 &&& (3 : Int32))), .val (.ref b34), .val (.int (nI kk)), .val (.ref b54), .val (.ref b54), .val (.int (nI e4)), .unset, .unset]
     refine gb m T62 338 LL63 [] (fun _ k => XS.istore X62.here hx rfl (hb hby at_336) rfl (l' := LL63) rfl k) ?_
     refine tI 340 X62 hx (hb hby at_338) rfl rfl ?_
     refine sB 342 (8 : Int32) X62 hx (hb hby at_340) rfl rfl ?_
     refine gb m T62 345 LL63 [] (fun _ k => XS.icmpNo X62.here hx rfl (hb hby at_342) rfl (teq ((own_neq (a := e4) (b := 8) (by omega) (by omega)).mpr (by omega))).2 k) ?_
     refine tA 347 X62 hx (hb hby at_345) rfl rfl rfl ?_
     refine tA 349 X62 hx (hb hby at_347) rfl rfl rfl ?_
     obtain ⟨v65, T65, Lc65, X65, hQ65, st65⟩ := cV LL63 [] X62 hx hZ hown hw e62 hml E_b54 263 264 266 265 9 267 rfl rfl rfl rfl rfl rfl (by decide) (rm_eq l Z a0 hw [] b54 T57.heap n0 O) pd45 rfl rfl (hb hby at_349) rfl
     obtain ⟨rfl, Nq65, e65⟩ := hQ65
     replace N := Fr.app N Nq65
     refine gb m T65 352 LL63 [(.int (1 : Int32))] (st65) ?_
     obtain ⟨fs, hr, hrun, hended, q1, q2, q3, q4⟩ := X65.leaveW hS (by rw [e65]; exact hk) (v := some (.int (1 : Int32))) (fun h => by rw [Bd.returns] at h; cases h)
     refine ⟨_, _, retN X65 hx (t := .boolean) Bd.returns (by simp) (hb hby at_352) hr, hrun, hended, _, _, rfl, ?_, ?_, q1, q2, q3, q4.mono (by decide) (by decide)⟩
     · show Q1 n0 (some (.int (1 : Int32))) T65.heap _
       rw [e65]
       exact ⟨rfl, N⟩
     · show CHr Z consts_1 s.vm s.heap T65.vm T65.heap
       rw [e65, hh]
       exact C.trans (CHv.at X65 hZ hEL C.1)
    ·
     have hq0 : ∀ i, i < 252 + e4 → chq cf (252 + e4) i = cf i := fun i hi => by unfold chq; rw [if_pos hi]
     have hq1 : ∀ i, ¬ i < 252 + e4 → chq cf (252 + e4) i = 46 := fun i hi => by unfold chq; rw [if_neg hi]
     have z0 := hcb 0
     have zk := hcb kk
     have z1 := hcb 251
     have u0 := htf 0
     have v0 := hct 0 (by decide)
     have w0 := hq0 0
     have u1 := htf 1
     have v1 := hct 1 (by decide)
     have w1 := hq0 0
     have u2 := htf 2
     have v2 := hct 2 (by decide)
     have w2 := hq0 0
     have u3 := htf 3
     have v3 := hct 3 (by decide)
     have w3 := hq0 0
     have u4 := htf 4
     have v4 := hct 4 (by decide)
     have w4 := hq0 0
     have u5 := htf 5
     have v5 := hct 5 (by decide)
     have w5 := hq0 0
     have u6 := htf 6
     have v6 := hct 6 (by decide)
     have w6 := hq0 0
     have u7 := htf 7
     have v7 := hct 7 (by decide)
     have w7 := hq0 0
     let LL66 : Array Slot := #[.val (.long p0), .second, .val (.long p1), .second, .val (.int p2), .val (.int p3), .val (.int p4), .val (.int p5), .val (.ref b2), .val (.int (p5 &&& (3 : Int32))), .val (.ref b34), .val (.int (nI kk)), .val (.ref b54), .val (.ref y57), .unset, .unset, .unset]
     refine gb m T57 315 LL66 [] (fun _ k => XS.astore X57.here hx rfl (hb hby at_313) rfl rfl (l' := LL66) rfl k) ?_
     refine tA 317 X57 hx (hb hby at_315) rfl rfl rfl ?_
     refine tA 319 X57 hx (hb hby at_317) rfl rfl rfl ?_
     refine tA 321 X57 hx (hb hby at_319) rfl rfl rfl ?_
     refine tA 323 X57 hx (hb hby at_321) rfl rfl rfl ?_
     refine sC 324 (0 : Int32) X57 hx (hb hby at_323) rfl rfl ?_
     have hy67_0 : 0 ≤ 8 := by omega
     obtain ⟨v67, T67, Lc67, X67, hQ67, st67⟩ := cS LL66 [(.ref b2), (.ref b2), (.ref b2)] X57 hx hZ hown hw rfl hml 215 216 3 217 rfl rfl rfl rfl (by decide) (rm_stp l Z a0 hw [] b2 _ tf 0 T57.heap n0 O V_b2 htf hy67_0) pd46 rfl rfl (hb hby at_324) rfl
     obtain ⟨rfl, Nq67, e67⟩ := hQ67
     replace N := Fr.app N Nq67
     refine gb m T67 327 LL66 [(.int (nI (stp tf 0))), (.ref b2), (.ref b2), (.ref b2)] (st67) ?_
     have hy68_0 : (stp tf 0) ≤ 8 := (own_stle hy67_0).1
     obtain ⟨v68, T68, Lc68, X68, hQ68, st68⟩ := cS LL66 [(.ref b2), (.ref b2)] X67 hx hZ hown hw e67 hml 215 216 3 217 rfl rfl rfl rfl (by decide) (rm_stp l Z a0 hw [] b2 _ tf (stp tf 0) T57.heap n0 O V_b2 htf hy68_0) pd46 rfl rfl (hb hby at_327) rfl
     obtain ⟨rfl, Nq68, e68⟩ := hQ68
     replace N := Fr.app N Nq68
     refine gb m T68 330 LL66 [(.int (nI (stp tf (stp tf 0)))), (.ref b2), (.ref b2)] (st68) ?_
     have hy69_0 : (stp tf (stp tf 0)) ≤ 8 := (own_stle hy68_0).1
     obtain ⟨v69, T69, Lc69, X69, hQ69, st69⟩ := cS LL66 [(.ref b2)] X68 hx hZ hown hw e68 hml 215 216 3 217 rfl rfl rfl rfl (by decide) (rm_stp l Z a0 hw [] b2 _ tf (stp tf (stp tf 0)) T57.heap n0 O V_b2 htf hy69_0) pd46 rfl rfl (hb hby at_330) rfl
     obtain ⟨rfl, Nq69, e69⟩ := hQ69
     replace N := Fr.app N Nq69
     refine gb m T69 333 LL66 [(.int (nI (stp tf (stp tf (stp tf 0))))), (.ref b2)] (st69) ?_
     have hy70_0 : (stp tf (stp tf (stp tf 0))) ≤ 8 := (own_stle hy69_0).1
     obtain ⟨v70, T70, Lc70, X70, hQ70, st70⟩ := cS LL66 [] X69 hx hZ hown hw e69 hml 215 216 3 217 rfl rfl rfl rfl (by decide) (rm_stp l Z a0 hw [] b2 _ tf (stp tf (stp tf (stp tf 0))) T57.heap n0 O V_b2 htf hy70_0) pd46 rfl rfl (hb hby at_333) rfl
     obtain ⟨rfl, Nq70, e70⟩ := hQ70
     replace N := Fr.app N Nq70
     refine gb m T70 336 LL66 [(.int (nI (stp tf (stp tf (stp tf (stp tf 0))))))] (st70) ?_
     rw [show (nI (stp tf (stp tf (stp tf (stp tf 0))))) = (nI e4) from by rw [he4]]
     let LL71 : Array Slot := #[.val (.long p0), .second, .val (.long p1), .second, .val (.int p2), .val (.int p3), .val (.int p4), .val (.int p5), .val (.ref b2), .val (.int (p5 &&& (3 : Int32))), .val (.ref b34), .val (.int (nI kk)), .val (.ref b54), .val (.ref y57), .val (.int (nI e4)), .unset, .unset]
     refine gb m T70 338 LL71 [] (fun _ k => XS.istore X70.here hx rfl (hb hby at_336) rfl (l' := LL71) rfl k) ?_
     refine tI 340 X70 hx (hb hby at_338) rfl rfl ?_
     refine sB 342 (8 : Int32) X70 hx (hb hby at_340) rfl rfl ?_
     refine gb m T70 353 LL71 [] (fun _ k => XS.icmpYes X70.here hx rfl (pc0 := 342) (pc' := 353) rfl (hb hby at_342) rfl (feq (mt (own_neq (a := e4) (b := 8) (by omega) (by omega)).mp (by omega))).2 (by decide) (by decide) k) ?_
     refine sS 356 (252 : Int32) X70 hx (hb hby at_353) rfl rfl ?_
     refine tI 358 X70 hx (hb hby at_356) rfl rfl ?_
     refine gb m T70 359 LL71 [(.int ((252 : Int32) + (nI e4)))] (fun _ k => XS.iadd X70.here hx rfl (hb hby at_358) rfl k) ?_
     rw [show ((252 : Int32) + (nI e4)) = (nI (252 + e4)) from own_add _ _]
     let LL73 : Array Slot := #[.val (.long p0), .second, .val (.long p1), .second, .val (.int p2), .val (.int p3), .val (.int p4), .val (.int p5), .val (.ref b2), .val (.int (p5 &&& (3 : Int32))), .val (.ref b34), .val (.int (nI kk)), .val (.ref b54), .val (.ref y57), .val (.int (nI e4)), .val (.int (nI (252 + e4))), .unset]
     refine gb m T70 361 LL73 [] (fun _ k => XS.istore X70.here hx rfl (hb hby at_359) rfl (l' := LL73) rfl k) ?_
     refine tA 363 X70 hx (hb hby at_361) rfl rfl rfl ?_
     have hs74_y57 : (252 + e4 + 3) ≤ 300 := by omega
     obtain ⟨v74, T74, Lc74, X74, hQ74, st74⟩ := cV LL73 [] X70 hx hZ hown hw e70 hml Ey57 222 41 43 42 9 44 rfl rfl rfl rfl rfl rfl (by decide) (rm_slU l Z a0 hw [] y57 r57 _ (252 + e4 + 3) fd57 cd57 lb57 (chq cf (252 + e4)) zc fm hS0 T57.heap n0 O Ey57 Gv57 Gc57 Vr57 hs74_y57 (own_chq hcb (252 + e4)) hR57) pd25 rfl rfl (hb hby at_363) rfl
     obtain ⟨rfl, Nq74, e74⟩ := hQ74
     replace N := Fr.app N Nq74
     refine gb m T74 366 LL73 [(.int (nI (252 + e4 + 3)))] (st74) ?_
     refine tI 368 X74 hx (hb hby at_366) rfl rfl ?_
     refine sC 369 (3 : Int32) X74 hx (hb hby at_368) rfl rfl ?_
     refine gb m T74 370 LL73 [(.int ((nI (252 + e4)) + (3 : Int32))), (.int (nI (252 + e4 + 3)))] (fun _ k => XS.iadd X74.here hx rfl (hb hby at_369) rfl k) ?_
     rw [show ((nI (252 + e4)) + (3 : Int32)) = (nI ((252 + e4) + 3)) from own_add _ _]
     refine gb m T74 375 LL73 [] (fun _ k => XS.icmpYes X74.here hx rfl (pc0 := 370) (pc' := 375) rfl (hb hby at_370) rfl (teq ((own_neq (a := (252 + e4 + 3)) (b := ((252 + e4) + 3)) (by omega) (by omega)).mpr (by omega))).1 (by decide) (by decide) k) ?_
     refine tA 377 X74 hx (hb hby at_375) rfl rfl rfl ?_
     refine sC 378 (0 : Int32) X74 hx (hb hby at_377) rfl rfl ?_
     have q_0 := hq0 0 (by omega)
     have hs76_y57 : (252 + e4 + 3) ≤ 300 := by omega
     have hy76_0 : 0 < (252 + e4 + 3) := by omega
     obtain ⟨v76, T76, Lc76, X76, hQ76, st76⟩ := cV LL73 [] X74 hx hZ hown hw e74 hml Ey57 223 224 226 225 9 227 rfl rfl rfl rfl rfl rfl (by decide) (rm_caU l Z a0 hw [] y57 r57 _ (252 + e4 + 3) fd57 cd57 lb57 (chq cf (252 + e4)) 0 zc fm hS0 T57.heap n0 O Ey57 Gv57 Gc57 Vr57 hs76_y57 (own_chq hcb (252 + e4)) hR57 hy76_0) pd47 rfl rfl (hb hby at_378) rfl
     obtain ⟨rfl, Nq76, e76⟩ := hQ76
     replace N := Fr.app N Nq76
     refine gb m T76 381 LL73 [(.int (nI ((chq cf (252 + e4)) 0)))] (st76) ?_
     refine tA 383 X76 hx (hb hby at_381) rfl rfl rfl ?_
     refine sC 384 (0 : Int32) X76 hx (hb hby at_383) rfl rfl ?_
     obtain ⟨cl77, Ar77, q77, S77, N77', H77, G77⟩ := id V_b34
     refine gb m T76 385 LL73 [(.int (nI (cf 0))), (.int (nI ((chq cf (252 + e4)) 0)))] (X76.caload hx (j := (0 : Int32)) (v := (.int (nI (cf 0)))) (by rw [e76]; exact Ar77.1) (State.isArrayOf_alike hZ.alike Ar77.2.1) Ar77.2.2 (inb_of S77 ⟨own_neg (a := 0) (by omega), (own_nlt (a := 0) (b := 260) (by omega) (by omega)).mpr (by omega)⟩) (Has.at H77 (inb_of S77 ⟨own_neg (a := 0) (by omega), (own_nlt (a := 0) (b := 260) (by omega) (by omega)).mpr (by omega)⟩) (own_at (n := 260) (i := 0) (f := (chf cf)) (by omega) (by omega))) (g := (mkF m 384 LL73 [(.int (0 : Int32)), (.ref b34), (.int (nI ((chq cf (252 + e4)) 0)))])) rfl rfl (hb hby at_384)) ?_
     refine gb m T76 388 LL73 [] (fun _ k => XS.icmpNo X76.here hx rfl (hb hby at_385) rfl (teq ((own_neq (a := ((chq cf (252 + e4)) 0)) (b := (cf 0)) (by omega) (by omega)).mpr (by omega))).2 k) ?_
     refine tA 390 X76 hx (hb hby at_388) rfl rfl rfl ?_
     refine tI 392 X76 hx (hb hby at_390) rfl rfl ?_
     have q_kk := hq0 kk (by omega)
     have hs79_y57 : (252 + e4 + 3) ≤ 300 := by omega
     have hy79_0 : kk < (252 + e4 + 3) := by omega
     obtain ⟨v79, T79, Lc79, X79, hQ79, st79⟩ := cV LL73 [] X76 hx hZ hown hw e76 hml Ey57 223 224 226 225 9 227 rfl rfl rfl rfl rfl rfl (by decide) (rm_caU l Z a0 hw [] y57 r57 _ (252 + e4 + 3) fd57 cd57 lb57 (chq cf (252 + e4)) kk zc fm hS0 T57.heap n0 O Ey57 Gv57 Gc57 Vr57 hs79_y57 (own_chq hcb (252 + e4)) hR57 hy79_0) pd47 rfl rfl (hb hby at_392) rfl
     obtain ⟨rfl, Nq79, e79⟩ := hQ79
     replace N := Fr.app N Nq79
     refine gb m T79 395 LL73 [(.int (nI ((chq cf (252 + e4)) kk)))] (st79) ?_
     refine tA 397 X79 hx (hb hby at_395) rfl rfl rfl ?_
     refine tI 399 X79 hx (hb hby at_397) rfl rfl ?_
     obtain ⟨cl80, Ar80, q80, S80, N80', H80, G80⟩ := id V_b34
     refine gb m T79 400 LL73 [(.int (nI (cf kk))), (.int (nI ((chq cf (252 + e4)) kk)))] (X79.caload hx (j := (nI kk)) (v := (.int (nI (cf kk)))) (by rw [e79]; exact Ar80.1) (State.isArrayOf_alike hZ.alike Ar80.2.1) Ar80.2.2 (inb_of S80 ⟨own_neg (a := kk) (by omega), (own_nlt (a := kk) (b := 260) (by omega) (by omega)).mpr (by omega)⟩) (Has.at H80 (inb_of S80 ⟨own_neg (a := kk) (by omega), (own_nlt (a := kk) (b := 260) (by omega) (by omega)).mpr (by omega)⟩) (own_at (n := 260) (i := kk) (f := (chf cf)) (by omega) (by omega))) (g := (mkF m 399 LL73 [(.int (nI kk)), (.ref b34), (.int (nI ((chq cf (252 + e4)) kk)))])) rfl rfl (hb hby at_399)) ?_
     refine gb m T79 403 LL73 [] (fun _ k => XS.icmpNo X79.here hx rfl (hb hby at_400) rfl (teq ((own_neq (a := ((chq cf (252 + e4)) kk)) (b := (cf kk)) (by omega) (by omega)).mpr (by omega))).2 k) ?_
     refine tA 405 X79 hx (hb hby at_403) rfl rfl rfl ?_
     refine sS 408 (251 : Int32) X79 hx (hb hby at_405) rfl rfl ?_
     have q_251 := hq0 251 (by omega)
     have hs82_y57 : (252 + e4 + 3) ≤ 300 := by omega
     have hy82_0 : 251 < (252 + e4 + 3) := by omega
     obtain ⟨v82, T82, Lc82, X82, hQ82, st82⟩ := cV LL73 [] X79 hx hZ hown hw e79 hml Ey57 223 224 226 225 9 227 rfl rfl rfl rfl rfl rfl (by decide) (rm_caU l Z a0 hw [] y57 r57 _ (252 + e4 + 3) fd57 cd57 lb57 (chq cf (252 + e4)) 251 zc fm hS0 T57.heap n0 O Ey57 Gv57 Gc57 Vr57 hs82_y57 (own_chq hcb (252 + e4)) hR57 hy82_0) pd47 rfl rfl (hb hby at_408) rfl
     obtain ⟨rfl, Nq82, e82⟩ := hQ82
     replace N := Fr.app N Nq82
     refine gb m T82 411 LL73 [(.int (nI ((chq cf (252 + e4)) 251)))] (st82) ?_
     refine tA 413 X82 hx (hb hby at_411) rfl rfl rfl ?_
     refine sS 416 (251 : Int32) X82 hx (hb hby at_413) rfl rfl ?_
     obtain ⟨cl83, Ar83, q83, S83, N83', H83, G83⟩ := id V_b34
     refine gb m T82 417 LL73 [(.int (nI (cf 251))), (.int (nI ((chq cf (252 + e4)) 251)))] (X82.caload hx (j := (251 : Int32)) (v := (.int (nI (cf 251)))) (by rw [e82]; exact Ar83.1) (State.isArrayOf_alike hZ.alike Ar83.2.1) Ar83.2.2 (inb_of S83 ⟨own_neg (a := 251) (by omega), (own_nlt (a := 251) (b := 260) (by omega) (by omega)).mpr (by omega)⟩) (Has.at H83 (inb_of S83 ⟨own_neg (a := 251) (by omega), (own_nlt (a := 251) (b := 260) (by omega) (by omega)).mpr (by omega)⟩) (own_at (n := 260) (i := 251) (f := (chf cf)) (by omega) (by omega))) (g := (mkF m 416 LL73 [(.int (251 : Int32)), (.ref b34), (.int (nI ((chq cf (252 + e4)) 251)))])) rfl rfl (hb hby at_416)) ?_
     refine gb m T82 420 LL73 [] (fun _ k => XS.icmpNo X82.here hx rfl (hb hby at_417) rfl (teq ((own_neq (a := ((chq cf (252 + e4)) 251)) (b := (cf 251)) (by omega) (by omega)).mpr (by omega))).2 k) ?_
     refine sC 421 (1 : Int32) X82 hx (hb hby at_420) rfl rfl ?_
     refine gb m T82 425 LL73 [(.int (1 : Int32))] (fun _ k => XS.goto X82.here hx rfl (pc0 := 421) (pc' := 425) rfl (hb hby at_421) (by decide) (by decide) k) ?_
     let LL85 : Array Slot := #[.val (.long p0), .second, .val (.long p1), .second, .val (.int p2), .val (.int p3), .val (.int p4), .val (.int p5), .val (.ref b2), .val (.int (p5 &&& (3 : Int32))), .val (.ref b34), .val (.int (nI kk)), .val (.ref b54), .val (.ref y57), .val (.int (nI e4)), .val (.int (nI (252 + e4))), .val (.int (1 : Int32))]
     refine gb m T82 427 LL85 [] (fun _ k => XS.istore X82.here hx rfl (hb hby at_425) rfl (l' := LL85) rfl k) ?_
     refine tI 429 X82 hx (hb hby at_427) rfl rfl ?_
     refine gb m T82 432 LL85 [] (fun _ k => XS.ifNo X82.here hx rfl (hb hby at_429) rfl ((if0 _ _).trans (feq (by decide : ¬ ((1 : Int32) = (0 : Int32)))).1) k) ?_
     refine tA 434 X82 hx (hb hby at_432) rfl rfl rfl ?_
     refine sS 437 (252 : Int32) X82 hx (hb hby at_434) rfl rfl ?_
     have q_252 := (hq0 252 (by omega)).trans (hct 0 (by decide))
     have hs87_y57 : (252 + e4 + 3) ≤ 300 := by omega
     have hy87_0 : 252 < (252 + e4 + 3) := by omega
     obtain ⟨v87, T87, Lc87, X87, hQ87, st87⟩ := cV LL85 [] X82 hx hZ hown hw e82 hml Ey57 223 224 226 225 9 227 rfl rfl rfl rfl rfl rfl (by decide) (rm_caU l Z a0 hw [] y57 r57 _ (252 + e4 + 3) fd57 cd57 lb57 (chq cf (252 + e4)) 252 zc fm hS0 T57.heap n0 O Ey57 Gv57 Gc57 Vr57 hs87_y57 (own_chq hcb (252 + e4)) hR57 hy87_0) pd47 rfl rfl (hb hby at_437) rfl
     obtain ⟨rfl, Nq87, e87⟩ := hQ87
     replace N := Fr.app N Nq87
     refine gb m T87 440 LL85 [(.int (nI ((chq cf (252 + e4)) 252)))] (st87) ?_
     refine tA 442 X87 hx (hb hby at_440) rfl rfl rfl ?_
     refine sC 443 (0 : Int32) X87 hx (hb hby at_442) rfl rfl ?_
     obtain ⟨cl88, Ar88, q88, S88, N88', H88, G88⟩ := id V_b2
     refine gb m T87 444 LL85 [(.int (nI (tf 0))), (.int (nI ((chq cf (252 + e4)) 252)))] (X87.caload hx (j := (0 : Int32)) (v := (.int (nI (tf 0)))) (by rw [e87]; exact Ar88.1) (State.isArrayOf_alike hZ.alike Ar88.2.1) Ar88.2.2 (inb_of S88 ⟨own_neg (a := 0) (by omega), (own_nlt (a := 0) (b := 8) (by omega) (by omega)).mpr (by omega)⟩) (Has.at H88 (inb_of S88 ⟨own_neg (a := 0) (by omega), (own_nlt (a := 0) (b := 8) (by omega) (by omega)).mpr (by omega)⟩) (own_at (n := 8) (i := 0) (f := (chf tf)) (by omega) (by omega))) (g := (mkF m 443 LL85 [(.int (0 : Int32)), (.ref b2), (.int (nI ((chq cf (252 + e4)) 252)))])) rfl rfl (hb hby at_443)) ?_
     refine gb m T87 447 LL85 [] (fun _ k => XS.icmpNo X87.here hx rfl (hb hby at_444) rfl (teq ((own_neq (a := ((chq cf (252 + e4)) 252)) (b := (tf 0)) (by omega) (by omega)).mpr (by omega))).2 k) ?_
     refine tA 449 X87 hx (hb hby at_447) rfl rfl rfl ?_
     refine sS 452 (253 : Int32) X87 hx (hb hby at_449) rfl rfl ?_
     have q_253 := (hq0 253 (by omega)).trans (hct 1 (by decide))
     have hs90_y57 : (252 + e4 + 3) ≤ 300 := by omega
     have hy90_0 : 253 < (252 + e4 + 3) := by omega
     obtain ⟨v90, T90, Lc90, X90, hQ90, st90⟩ := cV LL85 [] X87 hx hZ hown hw e87 hml Ey57 223 224 226 225 9 227 rfl rfl rfl rfl rfl rfl (by decide) (rm_caU l Z a0 hw [] y57 r57 _ (252 + e4 + 3) fd57 cd57 lb57 (chq cf (252 + e4)) 253 zc fm hS0 T57.heap n0 O Ey57 Gv57 Gc57 Vr57 hs90_y57 (own_chq hcb (252 + e4)) hR57 hy90_0) pd47 rfl rfl (hb hby at_452) rfl
     obtain ⟨rfl, Nq90, e90⟩ := hQ90
     replace N := Fr.app N Nq90
     refine gb m T90 455 LL85 [(.int (nI ((chq cf (252 + e4)) 253)))] (st90) ?_
     refine tA 457 X90 hx (hb hby at_455) rfl rfl rfl ?_
     refine sC 458 (1 : Int32) X90 hx (hb hby at_457) rfl rfl ?_
     obtain ⟨cl91, Ar91, q91, S91, N91', H91, G91⟩ := id V_b2
     refine gb m T90 459 LL85 [(.int (nI (tf 1))), (.int (nI ((chq cf (252 + e4)) 253)))] (X90.caload hx (j := (1 : Int32)) (v := (.int (nI (tf 1)))) (by rw [e90]; exact Ar91.1) (State.isArrayOf_alike hZ.alike Ar91.2.1) Ar91.2.2 (inb_of S91 ⟨own_neg (a := 1) (by omega), (own_nlt (a := 1) (b := 8) (by omega) (by omega)).mpr (by omega)⟩) (Has.at H91 (inb_of S91 ⟨own_neg (a := 1) (by omega), (own_nlt (a := 1) (b := 8) (by omega) (by omega)).mpr (by omega)⟩) (own_at (n := 8) (i := 1) (f := (chf tf)) (by omega) (by omega))) (g := (mkF m 458 LL85 [(.int (1 : Int32)), (.ref b2), (.int (nI ((chq cf (252 + e4)) 253)))])) rfl rfl (hb hby at_458)) ?_
     refine gb m T90 462 LL85 [] (fun _ k => XS.icmpNo X90.here hx rfl (hb hby at_459) rfl (teq ((own_neq (a := ((chq cf (252 + e4)) 253)) (b := (tf 1)) (by omega) (by omega)).mpr (by omega))).2 k) ?_
     refine tA 464 X90 hx (hb hby at_462) rfl rfl rfl ?_
     refine sS 467 (254 : Int32) X90 hx (hb hby at_464) rfl rfl ?_
     have q_254 := (hq0 254 (by omega)).trans (hct 2 (by decide))
     have hs93_y57 : (252 + e4 + 3) ≤ 300 := by omega
     have hy93_0 : 254 < (252 + e4 + 3) := by omega
     obtain ⟨v93, T93, Lc93, X93, hQ93, st93⟩ := cV LL85 [] X90 hx hZ hown hw e90 hml Ey57 223 224 226 225 9 227 rfl rfl rfl rfl rfl rfl (by decide) (rm_caU l Z a0 hw [] y57 r57 _ (252 + e4 + 3) fd57 cd57 lb57 (chq cf (252 + e4)) 254 zc fm hS0 T57.heap n0 O Ey57 Gv57 Gc57 Vr57 hs93_y57 (own_chq hcb (252 + e4)) hR57 hy93_0) pd47 rfl rfl (hb hby at_467) rfl
     obtain ⟨rfl, Nq93, e93⟩ := hQ93
     replace N := Fr.app N Nq93
     refine gb m T93 470 LL85 [(.int (nI ((chq cf (252 + e4)) 254)))] (st93) ?_
     refine tA 472 X93 hx (hb hby at_470) rfl rfl rfl ?_
     refine sC 473 (2 : Int32) X93 hx (hb hby at_472) rfl rfl ?_
     obtain ⟨cl94, Ar94, q94, S94, N94', H94, G94⟩ := id V_b2
     refine gb m T93 474 LL85 [(.int (nI (tf 2))), (.int (nI ((chq cf (252 + e4)) 254)))] (X93.caload hx (j := (2 : Int32)) (v := (.int (nI (tf 2)))) (by rw [e93]; exact Ar94.1) (State.isArrayOf_alike hZ.alike Ar94.2.1) Ar94.2.2 (inb_of S94 ⟨own_neg (a := 2) (by omega), (own_nlt (a := 2) (b := 8) (by omega) (by omega)).mpr (by omega)⟩) (Has.at H94 (inb_of S94 ⟨own_neg (a := 2) (by omega), (own_nlt (a := 2) (b := 8) (by omega) (by omega)).mpr (by omega)⟩) (own_at (n := 8) (i := 2) (f := (chf tf)) (by omega) (by omega))) (g := (mkF m 473 LL85 [(.int (2 : Int32)), (.ref b2), (.int (nI ((chq cf (252 + e4)) 254)))])) rfl rfl (hb hby at_473)) ?_
     refine gb m T93 477 LL85 [] (fun _ k => XS.icmpNo X93.here hx rfl (hb hby at_474) rfl (teq ((own_neq (a := ((chq cf (252 + e4)) 254)) (b := (tf 2)) (by omega) (by omega)).mpr (by omega))).2 k) ?_
     refine tA 479 X93 hx (hb hby at_477) rfl rfl rfl ?_
     refine sS 482 (255 : Int32) X93 hx (hb hby at_479) rfl rfl ?_
     have q_255 := (hq0 255 (by omega)).trans (hct 3 (by decide))
     have hs96_y57 : (252 + e4 + 3) ≤ 300 := by omega
     have hy96_0 : 255 < (252 + e4 + 3) := by omega
     obtain ⟨v96, T96, Lc96, X96, hQ96, st96⟩ := cV LL85 [] X93 hx hZ hown hw e93 hml Ey57 223 224 226 225 9 227 rfl rfl rfl rfl rfl rfl (by decide) (rm_caU l Z a0 hw [] y57 r57 _ (252 + e4 + 3) fd57 cd57 lb57 (chq cf (252 + e4)) 255 zc fm hS0 T57.heap n0 O Ey57 Gv57 Gc57 Vr57 hs96_y57 (own_chq hcb (252 + e4)) hR57 hy96_0) pd47 rfl rfl (hb hby at_482) rfl
     obtain ⟨rfl, Nq96, e96⟩ := hQ96
     replace N := Fr.app N Nq96
     refine gb m T96 485 LL85 [(.int (nI ((chq cf (252 + e4)) 255)))] (st96) ?_
     refine tA 487 X96 hx (hb hby at_485) rfl rfl rfl ?_
     refine sC 488 (3 : Int32) X96 hx (hb hby at_487) rfl rfl ?_
     obtain ⟨cl97, Ar97, q97, S97, N97', H97, G97⟩ := id V_b2
     refine gb m T96 489 LL85 [(.int (nI (tf 3))), (.int (nI ((chq cf (252 + e4)) 255)))] (X96.caload hx (j := (3 : Int32)) (v := (.int (nI (tf 3)))) (by rw [e96]; exact Ar97.1) (State.isArrayOf_alike hZ.alike Ar97.2.1) Ar97.2.2 (inb_of S97 ⟨own_neg (a := 3) (by omega), (own_nlt (a := 3) (b := 8) (by omega) (by omega)).mpr (by omega)⟩) (Has.at H97 (inb_of S97 ⟨own_neg (a := 3) (by omega), (own_nlt (a := 3) (b := 8) (by omega) (by omega)).mpr (by omega)⟩) (own_at (n := 8) (i := 3) (f := (chf tf)) (by omega) (by omega))) (g := (mkF m 488 LL85 [(.int (3 : Int32)), (.ref b2), (.int (nI ((chq cf (252 + e4)) 255)))])) rfl rfl (hb hby at_488)) ?_
     refine gb m T96 492 LL85 [] (fun _ k => XS.icmpNo X96.here hx rfl (hb hby at_489) rfl (teq ((own_neq (a := ((chq cf (252 + e4)) 255)) (b := (tf 3)) (by omega) (by omega)).mpr (by omega))).2 k) ?_
     refine sC 493 (1 : Int32) X96 hx (hb hby at_492) rfl rfl ?_
     refine gb m T96 497 LL85 [(.int (1 : Int32))] (fun _ k => XS.goto X96.here hx rfl (pc0 := 493) (pc' := 497) rfl (hb hby at_493) (by decide) (by decide) k) ?_
     refine gb m T96 499 LL85 [] (fun _ k => XS.istore X96.here hx rfl (hb hby at_497) rfl (l' := LL85) rfl k) ?_
     refine tI 501 X96 hx (hb hby at_499) rfl rfl ?_
     refine sC 502 (4 : Int32) X96 hx (hb hby at_501) rfl rfl ?_
     by_cases hc502_99 : 4 < e4
     ·
      refine gb m T96 505 LL85 [] (fun _ k => XS.icmpNo X96.here hx rfl (hb hby at_502) rfl (tlt ((own_nlt (a := 4) (b := e4) (by omega) (by omega)).mpr hc502_99)).2.2.2 k) ?_
      refine tI 507 X96 hx (hb hby at_505) rfl rfl ?_
      refine gb m T96 510 LL85 [] (fun _ k => XS.ifNo X96.here hx rfl (hb hby at_507) rfl ((if0 _ _).trans (feq (by decide : ¬ ((1 : Int32) = (0 : Int32)))).1) k) ?_
      refine tA 512 X96 hx (hb hby at_510) rfl rfl rfl ?_
      refine sS 515 (256 : Int32) X96 hx (hb hby at_512) rfl rfl ?_
      have q_256 := (hq0 256 (by omega)).trans (hct 4 (by decide))
      have hs101_y57 : (252 + e4 + 3) ≤ 300 := by omega
      have hy101_0 : 256 < (252 + e4 + 3) := by omega
      obtain ⟨v101, T101, Lc101, X101, hQ101, st101⟩ := cV LL85 [] X96 hx hZ hown hw e96 hml Ey57 223 224 226 225 9 227 rfl rfl rfl rfl rfl rfl (by decide) (rm_caU l Z a0 hw [] y57 r57 _ (252 + e4 + 3) fd57 cd57 lb57 (chq cf (252 + e4)) 256 zc fm hS0 T57.heap n0 O Ey57 Gv57 Gc57 Vr57 hs101_y57 (own_chq hcb (252 + e4)) hR57 hy101_0) pd47 rfl rfl (hb hby at_515) rfl
      obtain ⟨rfl, Nq101, e101⟩ := hQ101
      replace N := Fr.app N Nq101
      refine gb m T101 518 LL85 [(.int (nI ((chq cf (252 + e4)) 256)))] (st101) ?_
      refine tA 520 X101 hx (hb hby at_518) rfl rfl rfl ?_
      refine sC 521 (4 : Int32) X101 hx (hb hby at_520) rfl rfl ?_
      obtain ⟨cl102, Ar102, q102, S102, N102', H102, G102⟩ := id V_b2
      refine gb m T101 522 LL85 [(.int (nI (tf 4))), (.int (nI ((chq cf (252 + e4)) 256)))] (X101.caload hx (j := (4 : Int32)) (v := (.int (nI (tf 4)))) (by rw [e101]; exact Ar102.1) (State.isArrayOf_alike hZ.alike Ar102.2.1) Ar102.2.2 (inb_of S102 ⟨own_neg (a := 4) (by omega), (own_nlt (a := 4) (b := 8) (by omega) (by omega)).mpr (by omega)⟩) (Has.at H102 (inb_of S102 ⟨own_neg (a := 4) (by omega), (own_nlt (a := 4) (b := 8) (by omega) (by omega)).mpr (by omega)⟩) (own_at (n := 8) (i := 4) (f := (chf tf)) (by omega) (by omega))) (g := (mkF m 521 LL85 [(.int (4 : Int32)), (.ref b2), (.int (nI ((chq cf (252 + e4)) 256)))])) rfl rfl (hb hby at_521)) ?_
      refine gb m T101 525 LL85 [] (fun _ k => XS.icmpNo X101.here hx rfl (hb hby at_522) rfl (teq ((own_neq (a := ((chq cf (252 + e4)) 256)) (b := (tf 4)) (by omega) (by omega)).mpr (by omega))).2 k) ?_
      refine sC 526 (1 : Int32) X101 hx (hb hby at_525) rfl rfl ?_
      refine gb m T101 530 LL85 [(.int (1 : Int32))] (fun _ k => XS.goto X101.here hx rfl (pc0 := 526) (pc' := 530) rfl (hb hby at_526) (by decide) (by decide) k) ?_
      refine gb m T101 532 LL85 [] (fun _ k => XS.istore X101.here hx rfl (hb hby at_530) rfl (l' := LL85) rfl k) ?_
      refine tI 534 X101 hx (hb hby at_532) rfl rfl ?_
      refine sC 535 (5 : Int32) X101 hx (hb hby at_534) rfl rfl ?_
      by_cases hc535_104 : 5 < e4
      ·
       refine gb m T101 538 LL85 [] (fun _ k => XS.icmpNo X101.here hx rfl (hb hby at_535) rfl (tlt ((own_nlt (a := 5) (b := e4) (by omega) (by omega)).mpr hc535_104)).2.2.2 k) ?_
       refine tI 540 X101 hx (hb hby at_538) rfl rfl ?_
       refine gb m T101 543 LL85 [] (fun _ k => XS.ifNo X101.here hx rfl (hb hby at_540) rfl ((if0 _ _).trans (feq (by decide : ¬ ((1 : Int32) = (0 : Int32)))).1) k) ?_
       refine tA 545 X101 hx (hb hby at_543) rfl rfl rfl ?_
       refine sS 548 (257 : Int32) X101 hx (hb hby at_545) rfl rfl ?_
       have q_257 := (hq0 257 (by omega)).trans (hct 5 (by decide))
       have hs106_y57 : (252 + e4 + 3) ≤ 300 := by omega
       have hy106_0 : 257 < (252 + e4 + 3) := by omega
       obtain ⟨v106, T106, Lc106, X106, hQ106, st106⟩ := cV LL85 [] X101 hx hZ hown hw e101 hml Ey57 223 224 226 225 9 227 rfl rfl rfl rfl rfl rfl (by decide) (rm_caU l Z a0 hw [] y57 r57 _ (252 + e4 + 3) fd57 cd57 lb57 (chq cf (252 + e4)) 257 zc fm hS0 T57.heap n0 O Ey57 Gv57 Gc57 Vr57 hs106_y57 (own_chq hcb (252 + e4)) hR57 hy106_0) pd47 rfl rfl (hb hby at_548) rfl
       obtain ⟨rfl, Nq106, e106⟩ := hQ106
       replace N := Fr.app N Nq106
       refine gb m T106 551 LL85 [(.int (nI ((chq cf (252 + e4)) 257)))] (st106) ?_
       refine tA 553 X106 hx (hb hby at_551) rfl rfl rfl ?_
       refine sC 554 (5 : Int32) X106 hx (hb hby at_553) rfl rfl ?_
       obtain ⟨cl107, Ar107, q107, S107, N107', H107, G107⟩ := id V_b2
       refine gb m T106 555 LL85 [(.int (nI (tf 5))), (.int (nI ((chq cf (252 + e4)) 257)))] (X106.caload hx (j := (5 : Int32)) (v := (.int (nI (tf 5)))) (by rw [e106]; exact Ar107.1) (State.isArrayOf_alike hZ.alike Ar107.2.1) Ar107.2.2 (inb_of S107 ⟨own_neg (a := 5) (by omega), (own_nlt (a := 5) (b := 8) (by omega) (by omega)).mpr (by omega)⟩) (Has.at H107 (inb_of S107 ⟨own_neg (a := 5) (by omega), (own_nlt (a := 5) (b := 8) (by omega) (by omega)).mpr (by omega)⟩) (own_at (n := 8) (i := 5) (f := (chf tf)) (by omega) (by omega))) (g := (mkF m 554 LL85 [(.int (5 : Int32)), (.ref b2), (.int (nI ((chq cf (252 + e4)) 257)))])) rfl rfl (hb hby at_554)) ?_
       refine gb m T106 558 LL85 [] (fun _ k => XS.icmpNo X106.here hx rfl (hb hby at_555) rfl (teq ((own_neq (a := ((chq cf (252 + e4)) 257)) (b := (tf 5)) (by omega) (by omega)).mpr (by omega))).2 k) ?_
       refine sC 559 (1 : Int32) X106 hx (hb hby at_558) rfl rfl ?_
       refine gb m T106 563 LL85 [(.int (1 : Int32))] (fun _ k => XS.goto X106.here hx rfl (pc0 := 559) (pc' := 563) rfl (hb hby at_559) (by decide) (by decide) k) ?_
       refine gb m T106 565 LL85 [] (fun _ k => XS.istore X106.here hx rfl (hb hby at_563) rfl (l' := LL85) rfl k) ?_
       refine tI 567 X106 hx (hb hby at_565) rfl rfl ?_
       refine sB 569 (6 : Int32) X106 hx (hb hby at_567) rfl rfl ?_
       by_cases hc569_109 : 6 < e4
       ·
        refine gb m T106 572 LL85 [] (fun _ k => XS.icmpNo X106.here hx rfl (hb hby at_569) rfl (tlt ((own_nlt (a := 6) (b := e4) (by omega) (by omega)).mpr hc569_109)).2.2.2 k) ?_
        refine tI 574 X106 hx (hb hby at_572) rfl rfl ?_
        refine gb m T106 577 LL85 [] (fun _ k => XS.ifNo X106.here hx rfl (hb hby at_574) rfl ((if0 _ _).trans (feq (by decide : ¬ ((1 : Int32) = (0 : Int32)))).1) k) ?_
        refine tA 579 X106 hx (hb hby at_577) rfl rfl rfl ?_
        refine sS 582 (258 : Int32) X106 hx (hb hby at_579) rfl rfl ?_
        have q_258 := (hq0 258 (by omega)).trans (hct 6 (by decide))
        have hs111_y57 : (252 + e4 + 3) ≤ 300 := by omega
        have hy111_0 : 258 < (252 + e4 + 3) := by omega
        obtain ⟨v111, T111, Lc111, X111, hQ111, st111⟩ := cV LL85 [] X106 hx hZ hown hw e106 hml Ey57 223 224 226 225 9 227 rfl rfl rfl rfl rfl rfl (by decide) (rm_caU l Z a0 hw [] y57 r57 _ (252 + e4 + 3) fd57 cd57 lb57 (chq cf (252 + e4)) 258 zc fm hS0 T57.heap n0 O Ey57 Gv57 Gc57 Vr57 hs111_y57 (own_chq hcb (252 + e4)) hR57 hy111_0) pd47 rfl rfl (hb hby at_582) rfl
        obtain ⟨rfl, Nq111, e111⟩ := hQ111
        replace N := Fr.app N Nq111
        refine gb m T111 585 LL85 [(.int (nI ((chq cf (252 + e4)) 258)))] (st111) ?_
        refine tA 587 X111 hx (hb hby at_585) rfl rfl rfl ?_
        refine sB 589 (6 : Int32) X111 hx (hb hby at_587) rfl rfl ?_
        obtain ⟨cl112, Ar112, q112, S112, N112', H112, G112⟩ := id V_b2
        refine gb m T111 590 LL85 [(.int (nI (tf 6))), (.int (nI ((chq cf (252 + e4)) 258)))] (X111.caload hx (j := (6 : Int32)) (v := (.int (nI (tf 6)))) (by rw [e111]; exact Ar112.1) (State.isArrayOf_alike hZ.alike Ar112.2.1) Ar112.2.2 (inb_of S112 ⟨own_neg (a := 6) (by omega), (own_nlt (a := 6) (b := 8) (by omega) (by omega)).mpr (by omega)⟩) (Has.at H112 (inb_of S112 ⟨own_neg (a := 6) (by omega), (own_nlt (a := 6) (b := 8) (by omega) (by omega)).mpr (by omega)⟩) (own_at (n := 8) (i := 6) (f := (chf tf)) (by omega) (by omega))) (g := (mkF m 589 LL85 [(.int (6 : Int32)), (.ref b2), (.int (nI ((chq cf (252 + e4)) 258)))])) rfl rfl (hb hby at_589)) ?_
        refine gb m T111 593 LL85 [] (fun _ k => XS.icmpNo X111.here hx rfl (hb hby at_590) rfl (teq ((own_neq (a := ((chq cf (252 + e4)) 258)) (b := (tf 6)) (by omega) (by omega)).mpr (by omega))).2 k) ?_
        refine sC 594 (1 : Int32) X111 hx (hb hby at_593) rfl rfl ?_
        refine gb m T111 598 LL85 [(.int (1 : Int32))] (fun _ k => XS.goto X111.here hx rfl (pc0 := 594) (pc' := 598) rfl (hb hby at_594) (by decide) (by decide) k) ?_
        refine gb m T111 600 LL85 [] (fun _ k => XS.istore X111.here hx rfl (hb hby at_598) rfl (l' := LL85) rfl k) ?_
        refine tI 602 X111 hx (hb hby at_600) rfl rfl ?_
        refine gb m T111 605 LL85 [] (fun _ k => XS.ifNo X111.here hx rfl (hb hby at_602) rfl ((if0 _ _).trans (feq (by decide : ¬ ((1 : Int32) = (0 : Int32)))).1) k) ?_
        refine tA 607 X111 hx (hb hby at_605) rfl rfl rfl ?_
        refine tI 609 X111 hx (hb hby at_607) rfl rfl ?_
        have q_d0 := hq1 (252 + e4) (by omega)
        have hs115_y57 : (252 + e4 + 3) ≤ 300 := by omega
        have hy115_0 : (252 + e4) < (252 + e4 + 3) := by omega
        obtain ⟨v115, T115, Lc115, X115, hQ115, st115⟩ := cV LL85 [] X111 hx hZ hown hw e111 hml Ey57 223 224 226 225 9 227 rfl rfl rfl rfl rfl rfl (by decide) (rm_caU l Z a0 hw [] y57 r57 _ (252 + e4 + 3) fd57 cd57 lb57 (chq cf (252 + e4)) (252 + e4) zc fm hS0 T57.heap n0 O Ey57 Gv57 Gc57 Vr57 hs115_y57 (own_chq hcb (252 + e4)) hR57 hy115_0) pd47 rfl rfl (hb hby at_609) rfl
        obtain ⟨rfl, Nq115, e115⟩ := hQ115
        replace N := Fr.app N Nq115
        refine gb m T115 612 LL85 [(.int (nI ((chq cf (252 + e4)) (252 + e4))))] (st115) ?_
        refine sB 614 (46 : Int32) X115 hx (hb hby at_612) rfl rfl ?_
        refine gb m T115 617 LL85 [] (fun _ k => XS.icmpNo X115.here hx rfl (hb hby at_614) rfl (teq ((own_neq (a := ((chq cf (252 + e4)) (252 + e4))) (b := 46) (by omega) (by omega)).mpr (by omega))).2 k) ?_
        refine tA 619 X115 hx (hb hby at_617) rfl rfl rfl ?_
        refine tI 621 X115 hx (hb hby at_619) rfl rfl ?_
        refine sC 622 (1 : Int32) X115 hx (hb hby at_621) rfl rfl ?_
        refine gb m T115 623 LL85 [(.int ((nI (252 + e4)) + (1 : Int32))), (.ref y57)] (fun _ k => XS.iadd X115.here hx rfl (hb hby at_622) rfl k) ?_
        rw [show ((nI (252 + e4)) + (1 : Int32)) = (nI ((252 + e4) + 1)) from own_add _ _]
        have q_d1 := hq1 (252 + e4 + 1) (by omega)
        have hs117_y57 : (252 + e4 + 3) ≤ 300 := by omega
        have hy117_0 : ((252 + e4) + 1) < (252 + e4 + 3) := by omega
        obtain ⟨v117, T117, Lc117, X117, hQ117, st117⟩ := cV LL85 [] X115 hx hZ hown hw e115 hml Ey57 223 224 226 225 9 227 rfl rfl rfl rfl rfl rfl (by decide) (rm_caU l Z a0 hw [] y57 r57 _ (252 + e4 + 3) fd57 cd57 lb57 (chq cf (252 + e4)) ((252 + e4) + 1) zc fm hS0 T57.heap n0 O Ey57 Gv57 Gc57 Vr57 hs117_y57 (own_chq hcb (252 + e4)) hR57 hy117_0) pd47 rfl rfl (hb hby at_623) rfl
        obtain ⟨rfl, Nq117, e117⟩ := hQ117
        replace N := Fr.app N Nq117
        refine gb m T117 626 LL85 [(.int (nI ((chq cf (252 + e4)) ((252 + e4) + 1))))] (st117) ?_
        refine sB 628 (46 : Int32) X117 hx (hb hby at_626) rfl rfl ?_
        refine gb m T117 631 LL85 [] (fun _ k => XS.icmpNo X117.here hx rfl (hb hby at_628) rfl (teq ((own_neq (a := ((chq cf (252 + e4)) ((252 + e4) + 1))) (b := 46) (by omega) (by omega)).mpr (by omega))).2 k) ?_
        refine tA 633 X117 hx (hb hby at_631) rfl rfl rfl ?_
        refine tI 635 X117 hx (hb hby at_633) rfl rfl ?_
        refine sC 636 (2 : Int32) X117 hx (hb hby at_635) rfl rfl ?_
        refine gb m T117 637 LL85 [(.int ((nI (252 + e4)) + (2 : Int32))), (.ref y57)] (fun _ k => XS.iadd X117.here hx rfl (hb hby at_636) rfl k) ?_
        rw [show ((nI (252 + e4)) + (2 : Int32)) = (nI ((252 + e4) + 2)) from own_add _ _]
        have q_d2 := hq1 (252 + e4 + 2) (by omega)
        have hs119_y57 : (252 + e4 + 3) ≤ 300 := by omega
        have hy119_0 : ((252 + e4) + 2) < (252 + e4 + 3) := by omega
        obtain ⟨v119, T119, Lc119, X119, hQ119, st119⟩ := cV LL85 [] X117 hx hZ hown hw e117 hml Ey57 223 224 226 225 9 227 rfl rfl rfl rfl rfl rfl (by decide) (rm_caU l Z a0 hw [] y57 r57 _ (252 + e4 + 3) fd57 cd57 lb57 (chq cf (252 + e4)) ((252 + e4) + 2) zc fm hS0 T57.heap n0 O Ey57 Gv57 Gc57 Vr57 hs119_y57 (own_chq hcb (252 + e4)) hR57 hy119_0) pd47 rfl rfl (hb hby at_637) rfl
        obtain ⟨rfl, Nq119, e119⟩ := hQ119
        replace N := Fr.app N Nq119
        refine gb m T119 640 LL85 [(.int (nI ((chq cf (252 + e4)) ((252 + e4) + 2))))] (st119) ?_
        refine sB 642 (46 : Int32) X119 hx (hb hby at_640) rfl rfl ?_
        refine gb m T119 645 LL85 [] (fun _ k => XS.icmpNo X119.here hx rfl (hb hby at_642) rfl (teq ((own_neq (a := ((chq cf (252 + e4)) ((252 + e4) + 2))) (b := 46) (by omega) (by omega)).mpr (by omega))).2 k) ?_
        refine sC 646 (1 : Int32) X119 hx (hb hby at_645) rfl rfl ?_
        refine gb m T119 650 LL85 [(.int (1 : Int32))] (fun _ k => XS.goto X119.here hx rfl (pc0 := 646) (pc' := 650) rfl (hb hby at_646) (by decide) (by decide) k) ?_
        refine gb m T119 652 LL85 [] (fun _ k => XS.istore X119.here hx rfl (hb hby at_650) rfl (l' := LL85) rfl k) ?_
        refine tI 654 X119 hx (hb hby at_652) rfl rfl ?_
        obtain ⟨fs, hr, hrun, hended, q1, q2, q3, q4⟩ := X119.leaveW hS (by rw [e119]; exact hk) (v := some (.int (1 : Int32))) (fun h => by rw [Bd.returns] at h; cases h)
        refine ⟨_, _, retN X119 hx (t := .boolean) Bd.returns (by simp) (hb hby at_654) hr, hrun, hended, _, _, rfl, ?_, ?_, q1, q2, q3, q4.mono (by decide) (by decide)⟩
        · show Q1 n0 (some (.int (1 : Int32))) T119.heap _
          rw [e119]
          exact ⟨rfl, N⟩
        · show CHr Z consts_1 s.vm s.heap T119.vm T119.heap
          rw [e119, hh]
          exact C.trans (CHv.at X119 hZ hEL C.1)
       ·
        refine gb m T106 600 LL85 [] (fun _ k => XS.icmpYes X106.here hx rfl (pc0 := 569) (pc' := 600) rfl (hb hby at_569) rfl (flt (mt (own_nlt (a := 6) (b := e4) (by omega) (by omega)).mp hc569_109)).2.2.2 (by decide) (by decide) k) ?_
        refine tI 602 X106 hx (hb hby at_600) rfl rfl ?_
        refine gb m T106 605 LL85 [] (fun _ k => XS.ifNo X106.here hx rfl (hb hby at_602) rfl ((if0 _ _).trans (feq (by decide : ¬ ((1 : Int32) = (0 : Int32)))).1) k) ?_
        refine tA 607 X106 hx (hb hby at_605) rfl rfl rfl ?_
        refine tI 609 X106 hx (hb hby at_607) rfl rfl ?_
        have q_d0 := hq1 (252 + e4) (by omega)
        have hs122_y57 : (252 + e4 + 3) ≤ 300 := by omega
        have hy122_0 : (252 + e4) < (252 + e4 + 3) := by omega
        obtain ⟨v122, T122, Lc122, X122, hQ122, st122⟩ := cV LL85 [] X106 hx hZ hown hw e106 hml Ey57 223 224 226 225 9 227 rfl rfl rfl rfl rfl rfl (by decide) (rm_caU l Z a0 hw [] y57 r57 _ (252 + e4 + 3) fd57 cd57 lb57 (chq cf (252 + e4)) (252 + e4) zc fm hS0 T57.heap n0 O Ey57 Gv57 Gc57 Vr57 hs122_y57 (own_chq hcb (252 + e4)) hR57 hy122_0) pd47 rfl rfl (hb hby at_609) rfl
        obtain ⟨rfl, Nq122, e122⟩ := hQ122
        replace N := Fr.app N Nq122
        refine gb m T122 612 LL85 [(.int (nI ((chq cf (252 + e4)) (252 + e4))))] (st122) ?_
        refine sB 614 (46 : Int32) X122 hx (hb hby at_612) rfl rfl ?_
        refine gb m T122 617 LL85 [] (fun _ k => XS.icmpNo X122.here hx rfl (hb hby at_614) rfl (teq ((own_neq (a := ((chq cf (252 + e4)) (252 + e4))) (b := 46) (by omega) (by omega)).mpr (by omega))).2 k) ?_
        refine tA 619 X122 hx (hb hby at_617) rfl rfl rfl ?_
        refine tI 621 X122 hx (hb hby at_619) rfl rfl ?_
        refine sC 622 (1 : Int32) X122 hx (hb hby at_621) rfl rfl ?_
        refine gb m T122 623 LL85 [(.int ((nI (252 + e4)) + (1 : Int32))), (.ref y57)] (fun _ k => XS.iadd X122.here hx rfl (hb hby at_622) rfl k) ?_
        rw [show ((nI (252 + e4)) + (1 : Int32)) = (nI ((252 + e4) + 1)) from own_add _ _]
        have q_d1 := hq1 (252 + e4 + 1) (by omega)
        have hs124_y57 : (252 + e4 + 3) ≤ 300 := by omega
        have hy124_0 : ((252 + e4) + 1) < (252 + e4 + 3) := by omega
        obtain ⟨v124, T124, Lc124, X124, hQ124, st124⟩ := cV LL85 [] X122 hx hZ hown hw e122 hml Ey57 223 224 226 225 9 227 rfl rfl rfl rfl rfl rfl (by decide) (rm_caU l Z a0 hw [] y57 r57 _ (252 + e4 + 3) fd57 cd57 lb57 (chq cf (252 + e4)) ((252 + e4) + 1) zc fm hS0 T57.heap n0 O Ey57 Gv57 Gc57 Vr57 hs124_y57 (own_chq hcb (252 + e4)) hR57 hy124_0) pd47 rfl rfl (hb hby at_623) rfl
        obtain ⟨rfl, Nq124, e124⟩ := hQ124
        replace N := Fr.app N Nq124
        refine gb m T124 626 LL85 [(.int (nI ((chq cf (252 + e4)) ((252 + e4) + 1))))] (st124) ?_
        refine sB 628 (46 : Int32) X124 hx (hb hby at_626) rfl rfl ?_
        refine gb m T124 631 LL85 [] (fun _ k => XS.icmpNo X124.here hx rfl (hb hby at_628) rfl (teq ((own_neq (a := ((chq cf (252 + e4)) ((252 + e4) + 1))) (b := 46) (by omega) (by omega)).mpr (by omega))).2 k) ?_
        refine tA 633 X124 hx (hb hby at_631) rfl rfl rfl ?_
        refine tI 635 X124 hx (hb hby at_633) rfl rfl ?_
        refine sC 636 (2 : Int32) X124 hx (hb hby at_635) rfl rfl ?_
        refine gb m T124 637 LL85 [(.int ((nI (252 + e4)) + (2 : Int32))), (.ref y57)] (fun _ k => XS.iadd X124.here hx rfl (hb hby at_636) rfl k) ?_
        rw [show ((nI (252 + e4)) + (2 : Int32)) = (nI ((252 + e4) + 2)) from own_add _ _]
        have q_d2 := hq1 (252 + e4 + 2) (by omega)
        have hs126_y57 : (252 + e4 + 3) ≤ 300 := by omega
        have hy126_0 : ((252 + e4) + 2) < (252 + e4 + 3) := by omega
        obtain ⟨v126, T126, Lc126, X126, hQ126, st126⟩ := cV LL85 [] X124 hx hZ hown hw e124 hml Ey57 223 224 226 225 9 227 rfl rfl rfl rfl rfl rfl (by decide) (rm_caU l Z a0 hw [] y57 r57 _ (252 + e4 + 3) fd57 cd57 lb57 (chq cf (252 + e4)) ((252 + e4) + 2) zc fm hS0 T57.heap n0 O Ey57 Gv57 Gc57 Vr57 hs126_y57 (own_chq hcb (252 + e4)) hR57 hy126_0) pd47 rfl rfl (hb hby at_637) rfl
        obtain ⟨rfl, Nq126, e126⟩ := hQ126
        replace N := Fr.app N Nq126
        refine gb m T126 640 LL85 [(.int (nI ((chq cf (252 + e4)) ((252 + e4) + 2))))] (st126) ?_
        refine sB 642 (46 : Int32) X126 hx (hb hby at_640) rfl rfl ?_
        refine gb m T126 645 LL85 [] (fun _ k => XS.icmpNo X126.here hx rfl (hb hby at_642) rfl (teq ((own_neq (a := ((chq cf (252 + e4)) ((252 + e4) + 2))) (b := 46) (by omega) (by omega)).mpr (by omega))).2 k) ?_
        refine sC 646 (1 : Int32) X126 hx (hb hby at_645) rfl rfl ?_
        refine gb m T126 650 LL85 [(.int (1 : Int32))] (fun _ k => XS.goto X126.here hx rfl (pc0 := 646) (pc' := 650) rfl (hb hby at_646) (by decide) (by decide) k) ?_
        refine gb m T126 652 LL85 [] (fun _ k => XS.istore X126.here hx rfl (hb hby at_650) rfl (l' := LL85) rfl k) ?_
        refine tI 654 X126 hx (hb hby at_652) rfl rfl ?_
        obtain ⟨fs, hr, hrun, hended, q1, q2, q3, q4⟩ := X126.leaveW hS (by rw [e126]; exact hk) (v := some (.int (1 : Int32))) (fun h => by rw [Bd.returns] at h; cases h)
        refine ⟨_, _, retN X126 hx (t := .boolean) Bd.returns (by simp) (hb hby at_654) hr, hrun, hended, _, _, rfl, ?_, ?_, q1, q2, q3, q4.mono (by decide) (by decide)⟩
        · show Q1 n0 (some (.int (1 : Int32))) T126.heap _
          rw [e126]
          exact ⟨rfl, N⟩
        · show CHr Z consts_1 s.vm s.heap T126.vm T126.heap
          rw [e126, hh]
          exact C.trans (CHv.at X126 hZ hEL C.1)
      ·
       refine gb m T101 565 LL85 [] (fun _ k => XS.icmpYes X101.here hx rfl (pc0 := 535) (pc' := 565) rfl (hb hby at_535) rfl (flt (mt (own_nlt (a := 5) (b := e4) (by omega) (by omega)).mp hc535_104)).2.2.2 (by decide) (by decide) k) ?_
       refine tI 567 X101 hx (hb hby at_565) rfl rfl ?_
       refine sB 569 (6 : Int32) X101 hx (hb hby at_567) rfl rfl ?_
       refine gb m T101 600 LL85 [] (fun _ k => XS.icmpYes X101.here hx rfl (pc0 := 569) (pc' := 600) rfl (hb hby at_569) rfl (flt (mt (own_nlt (a := 6) (b := e4) (by omega) (by omega)).mp (by omega))).2.2.2 (by decide) (by decide) k) ?_
       refine tI 602 X101 hx (hb hby at_600) rfl rfl ?_
       refine gb m T101 605 LL85 [] (fun _ k => XS.ifNo X101.here hx rfl (hb hby at_602) rfl ((if0 _ _).trans (feq (by decide : ¬ ((1 : Int32) = (0 : Int32)))).1) k) ?_
       refine tA 607 X101 hx (hb hby at_605) rfl rfl rfl ?_
       refine tI 609 X101 hx (hb hby at_607) rfl rfl ?_
       have q_d0 := hq1 (252 + e4) (by omega)
       have hs130_y57 : (252 + e4 + 3) ≤ 300 := by omega
       have hy130_0 : (252 + e4) < (252 + e4 + 3) := by omega
       obtain ⟨v130, T130, Lc130, X130, hQ130, st130⟩ := cV LL85 [] X101 hx hZ hown hw e101 hml Ey57 223 224 226 225 9 227 rfl rfl rfl rfl rfl rfl (by decide) (rm_caU l Z a0 hw [] y57 r57 _ (252 + e4 + 3) fd57 cd57 lb57 (chq cf (252 + e4)) (252 + e4) zc fm hS0 T57.heap n0 O Ey57 Gv57 Gc57 Vr57 hs130_y57 (own_chq hcb (252 + e4)) hR57 hy130_0) pd47 rfl rfl (hb hby at_609) rfl
       obtain ⟨rfl, Nq130, e130⟩ := hQ130
       replace N := Fr.app N Nq130
       refine gb m T130 612 LL85 [(.int (nI ((chq cf (252 + e4)) (252 + e4))))] (st130) ?_
       refine sB 614 (46 : Int32) X130 hx (hb hby at_612) rfl rfl ?_
       refine gb m T130 617 LL85 [] (fun _ k => XS.icmpNo X130.here hx rfl (hb hby at_614) rfl (teq ((own_neq (a := ((chq cf (252 + e4)) (252 + e4))) (b := 46) (by omega) (by omega)).mpr (by omega))).2 k) ?_
       refine tA 619 X130 hx (hb hby at_617) rfl rfl rfl ?_
       refine tI 621 X130 hx (hb hby at_619) rfl rfl ?_
       refine sC 622 (1 : Int32) X130 hx (hb hby at_621) rfl rfl ?_
       refine gb m T130 623 LL85 [(.int ((nI (252 + e4)) + (1 : Int32))), (.ref y57)] (fun _ k => XS.iadd X130.here hx rfl (hb hby at_622) rfl k) ?_
       rw [show ((nI (252 + e4)) + (1 : Int32)) = (nI ((252 + e4) + 1)) from own_add _ _]
       have q_d1 := hq1 (252 + e4 + 1) (by omega)
       have hs132_y57 : (252 + e4 + 3) ≤ 300 := by omega
       have hy132_0 : ((252 + e4) + 1) < (252 + e4 + 3) := by omega
       obtain ⟨v132, T132, Lc132, X132, hQ132, st132⟩ := cV LL85 [] X130 hx hZ hown hw e130 hml Ey57 223 224 226 225 9 227 rfl rfl rfl rfl rfl rfl (by decide) (rm_caU l Z a0 hw [] y57 r57 _ (252 + e4 + 3) fd57 cd57 lb57 (chq cf (252 + e4)) ((252 + e4) + 1) zc fm hS0 T57.heap n0 O Ey57 Gv57 Gc57 Vr57 hs132_y57 (own_chq hcb (252 + e4)) hR57 hy132_0) pd47 rfl rfl (hb hby at_623) rfl
       obtain ⟨rfl, Nq132, e132⟩ := hQ132
       replace N := Fr.app N Nq132
       refine gb m T132 626 LL85 [(.int (nI ((chq cf (252 + e4)) ((252 + e4) + 1))))] (st132) ?_
       refine sB 628 (46 : Int32) X132 hx (hb hby at_626) rfl rfl ?_
       refine gb m T132 631 LL85 [] (fun _ k => XS.icmpNo X132.here hx rfl (hb hby at_628) rfl (teq ((own_neq (a := ((chq cf (252 + e4)) ((252 + e4) + 1))) (b := 46) (by omega) (by omega)).mpr (by omega))).2 k) ?_
       refine tA 633 X132 hx (hb hby at_631) rfl rfl rfl ?_
       refine tI 635 X132 hx (hb hby at_633) rfl rfl ?_
       refine sC 636 (2 : Int32) X132 hx (hb hby at_635) rfl rfl ?_
       refine gb m T132 637 LL85 [(.int ((nI (252 + e4)) + (2 : Int32))), (.ref y57)] (fun _ k => XS.iadd X132.here hx rfl (hb hby at_636) rfl k) ?_
       rw [show ((nI (252 + e4)) + (2 : Int32)) = (nI ((252 + e4) + 2)) from own_add _ _]
       have q_d2 := hq1 (252 + e4 + 2) (by omega)
       have hs134_y57 : (252 + e4 + 3) ≤ 300 := by omega
       have hy134_0 : ((252 + e4) + 2) < (252 + e4 + 3) := by omega
       obtain ⟨v134, T134, Lc134, X134, hQ134, st134⟩ := cV LL85 [] X132 hx hZ hown hw e132 hml Ey57 223 224 226 225 9 227 rfl rfl rfl rfl rfl rfl (by decide) (rm_caU l Z a0 hw [] y57 r57 _ (252 + e4 + 3) fd57 cd57 lb57 (chq cf (252 + e4)) ((252 + e4) + 2) zc fm hS0 T57.heap n0 O Ey57 Gv57 Gc57 Vr57 hs134_y57 (own_chq hcb (252 + e4)) hR57 hy134_0) pd47 rfl rfl (hb hby at_637) rfl
       obtain ⟨rfl, Nq134, e134⟩ := hQ134
       replace N := Fr.app N Nq134
       refine gb m T134 640 LL85 [(.int (nI ((chq cf (252 + e4)) ((252 + e4) + 2))))] (st134) ?_
       refine sB 642 (46 : Int32) X134 hx (hb hby at_640) rfl rfl ?_
       refine gb m T134 645 LL85 [] (fun _ k => XS.icmpNo X134.here hx rfl (hb hby at_642) rfl (teq ((own_neq (a := ((chq cf (252 + e4)) ((252 + e4) + 2))) (b := 46) (by omega) (by omega)).mpr (by omega))).2 k) ?_
       refine sC 646 (1 : Int32) X134 hx (hb hby at_645) rfl rfl ?_
       refine gb m T134 650 LL85 [(.int (1 : Int32))] (fun _ k => XS.goto X134.here hx rfl (pc0 := 646) (pc' := 650) rfl (hb hby at_646) (by decide) (by decide) k) ?_
       refine gb m T134 652 LL85 [] (fun _ k => XS.istore X134.here hx rfl (hb hby at_650) rfl (l' := LL85) rfl k) ?_
       refine tI 654 X134 hx (hb hby at_652) rfl rfl ?_
       obtain ⟨fs, hr, hrun, hended, q1, q2, q3, q4⟩ := X134.leaveW hS (by rw [e134]; exact hk) (v := some (.int (1 : Int32))) (fun h => by rw [Bd.returns] at h; cases h)
       refine ⟨_, _, retN X134 hx (t := .boolean) Bd.returns (by simp) (hb hby at_654) hr, hrun, hended, _, _, rfl, ?_, ?_, q1, q2, q3, q4.mono (by decide) (by decide)⟩
       · show Q1 n0 (some (.int (1 : Int32))) T134.heap _
         rw [e134]
         exact ⟨rfl, N⟩
       · show CHr Z consts_1 s.vm s.heap T134.vm T134.heap
         rw [e134, hh]
         exact C.trans (CHv.at X134 hZ hEL C.1)
     ·
      refine gb m T96 532 LL85 [] (fun _ k => XS.icmpYes X96.here hx rfl (pc0 := 502) (pc' := 532) rfl (hb hby at_502) rfl (flt (mt (own_nlt (a := 4) (b := e4) (by omega) (by omega)).mp hc502_99)).2.2.2 (by decide) (by decide) k) ?_
      refine tI 534 X96 hx (hb hby at_532) rfl rfl ?_
      refine sC 535 (5 : Int32) X96 hx (hb hby at_534) rfl rfl ?_
      refine gb m T96 565 LL85 [] (fun _ k => XS.icmpYes X96.here hx rfl (pc0 := 535) (pc' := 565) rfl (hb hby at_535) rfl (flt (mt (own_nlt (a := 5) (b := e4) (by omega) (by omega)).mp (by omega))).2.2.2 (by decide) (by decide) k) ?_
      refine tI 567 X96 hx (hb hby at_565) rfl rfl ?_
      refine sB 569 (6 : Int32) X96 hx (hb hby at_567) rfl rfl ?_
      refine gb m T96 600 LL85 [] (fun _ k => XS.icmpYes X96.here hx rfl (pc0 := 569) (pc' := 600) rfl (hb hby at_569) rfl (flt (mt (own_nlt (a := 6) (b := e4) (by omega) (by omega)).mp (by omega))).2.2.2 (by decide) (by decide) k) ?_
      refine tI 602 X96 hx (hb hby at_600) rfl rfl ?_
      refine gb m T96 605 LL85 [] (fun _ k => XS.ifNo X96.here hx rfl (hb hby at_602) rfl ((if0 _ _).trans (feq (by decide : ¬ ((1 : Int32) = (0 : Int32)))).1) k) ?_
      refine tA 607 X96 hx (hb hby at_605) rfl rfl rfl ?_
      refine tI 609 X96 hx (hb hby at_607) rfl rfl ?_
      have q_d0 := hq1 (252 + e4) (by omega)
      have hs139_y57 : (252 + e4 + 3) ≤ 300 := by omega
      have hy139_0 : (252 + e4) < (252 + e4 + 3) := by omega
      obtain ⟨v139, T139, Lc139, X139, hQ139, st139⟩ := cV LL85 [] X96 hx hZ hown hw e96 hml Ey57 223 224 226 225 9 227 rfl rfl rfl rfl rfl rfl (by decide) (rm_caU l Z a0 hw [] y57 r57 _ (252 + e4 + 3) fd57 cd57 lb57 (chq cf (252 + e4)) (252 + e4) zc fm hS0 T57.heap n0 O Ey57 Gv57 Gc57 Vr57 hs139_y57 (own_chq hcb (252 + e4)) hR57 hy139_0) pd47 rfl rfl (hb hby at_609) rfl
      obtain ⟨rfl, Nq139, e139⟩ := hQ139
      replace N := Fr.app N Nq139
      refine gb m T139 612 LL85 [(.int (nI ((chq cf (252 + e4)) (252 + e4))))] (st139) ?_
      refine sB 614 (46 : Int32) X139 hx (hb hby at_612) rfl rfl ?_
      refine gb m T139 617 LL85 [] (fun _ k => XS.icmpNo X139.here hx rfl (hb hby at_614) rfl (teq ((own_neq (a := ((chq cf (252 + e4)) (252 + e4))) (b := 46) (by omega) (by omega)).mpr (by omega))).2 k) ?_
      refine tA 619 X139 hx (hb hby at_617) rfl rfl rfl ?_
      refine tI 621 X139 hx (hb hby at_619) rfl rfl ?_
      refine sC 622 (1 : Int32) X139 hx (hb hby at_621) rfl rfl ?_
      refine gb m T139 623 LL85 [(.int ((nI (252 + e4)) + (1 : Int32))), (.ref y57)] (fun _ k => XS.iadd X139.here hx rfl (hb hby at_622) rfl k) ?_
      rw [show ((nI (252 + e4)) + (1 : Int32)) = (nI ((252 + e4) + 1)) from own_add _ _]
      have q_d1 := hq1 (252 + e4 + 1) (by omega)
      have hs141_y57 : (252 + e4 + 3) ≤ 300 := by omega
      have hy141_0 : ((252 + e4) + 1) < (252 + e4 + 3) := by omega
      obtain ⟨v141, T141, Lc141, X141, hQ141, st141⟩ := cV LL85 [] X139 hx hZ hown hw e139 hml Ey57 223 224 226 225 9 227 rfl rfl rfl rfl rfl rfl (by decide) (rm_caU l Z a0 hw [] y57 r57 _ (252 + e4 + 3) fd57 cd57 lb57 (chq cf (252 + e4)) ((252 + e4) + 1) zc fm hS0 T57.heap n0 O Ey57 Gv57 Gc57 Vr57 hs141_y57 (own_chq hcb (252 + e4)) hR57 hy141_0) pd47 rfl rfl (hb hby at_623) rfl
      obtain ⟨rfl, Nq141, e141⟩ := hQ141
      replace N := Fr.app N Nq141
      refine gb m T141 626 LL85 [(.int (nI ((chq cf (252 + e4)) ((252 + e4) + 1))))] (st141) ?_
      refine sB 628 (46 : Int32) X141 hx (hb hby at_626) rfl rfl ?_
      refine gb m T141 631 LL85 [] (fun _ k => XS.icmpNo X141.here hx rfl (hb hby at_628) rfl (teq ((own_neq (a := ((chq cf (252 + e4)) ((252 + e4) + 1))) (b := 46) (by omega) (by omega)).mpr (by omega))).2 k) ?_
      refine tA 633 X141 hx (hb hby at_631) rfl rfl rfl ?_
      refine tI 635 X141 hx (hb hby at_633) rfl rfl ?_
      refine sC 636 (2 : Int32) X141 hx (hb hby at_635) rfl rfl ?_
      refine gb m T141 637 LL85 [(.int ((nI (252 + e4)) + (2 : Int32))), (.ref y57)] (fun _ k => XS.iadd X141.here hx rfl (hb hby at_636) rfl k) ?_
      rw [show ((nI (252 + e4)) + (2 : Int32)) = (nI ((252 + e4) + 2)) from own_add _ _]
      have q_d2 := hq1 (252 + e4 + 2) (by omega)
      have hs143_y57 : (252 + e4 + 3) ≤ 300 := by omega
      have hy143_0 : ((252 + e4) + 2) < (252 + e4 + 3) := by omega
      obtain ⟨v143, T143, Lc143, X143, hQ143, st143⟩ := cV LL85 [] X141 hx hZ hown hw e141 hml Ey57 223 224 226 225 9 227 rfl rfl rfl rfl rfl rfl (by decide) (rm_caU l Z a0 hw [] y57 r57 _ (252 + e4 + 3) fd57 cd57 lb57 (chq cf (252 + e4)) ((252 + e4) + 2) zc fm hS0 T57.heap n0 O Ey57 Gv57 Gc57 Vr57 hs143_y57 (own_chq hcb (252 + e4)) hR57 hy143_0) pd47 rfl rfl (hb hby at_637) rfl
      obtain ⟨rfl, Nq143, e143⟩ := hQ143
      replace N := Fr.app N Nq143
      refine gb m T143 640 LL85 [(.int (nI ((chq cf (252 + e4)) ((252 + e4) + 2))))] (st143) ?_
      refine sB 642 (46 : Int32) X143 hx (hb hby at_640) rfl rfl ?_
      refine gb m T143 645 LL85 [] (fun _ k => XS.icmpNo X143.here hx rfl (hb hby at_642) rfl (teq ((own_neq (a := ((chq cf (252 + e4)) ((252 + e4) + 2))) (b := 46) (by omega) (by omega)).mpr (by omega))).2 k) ?_
      refine sC 646 (1 : Int32) X143 hx (hb hby at_645) rfl rfl ?_
      refine gb m T143 650 LL85 [(.int (1 : Int32))] (fun _ k => XS.goto X143.here hx rfl (pc0 := 646) (pc' := 650) rfl (hb hby at_646) (by decide) (by decide) k) ?_
      refine gb m T143 652 LL85 [] (fun _ k => XS.istore X143.here hx rfl (hb hby at_650) rfl (l' := LL85) rfl k) ?_
      refine tI 654 X143 hx (hb hby at_652) rfl rfl ?_
      obtain ⟨fs, hr, hrun, hended, q1, q2, q3, q4⟩ := X143.leaveW hS (by rw [e143]; exact hk) (v := some (.int (1 : Int32))) (fun h => by rw [Bd.returns] at h; cases h)
      refine ⟨_, _, retN X143 hx (t := .boolean) Bd.returns (by simp) (hb hby at_654) hr, hrun, hended, _, _, rfl, ?_, ?_, q1, q2, q3, q4.mono (by decide) (by decide)⟩
      · show Q1 n0 (some (.int (1 : Int32))) T143.heap _
        rw [e143]
        exact ⟨rfl, N⟩
      · show CHr Z consts_1 s.vm s.heap T143.vm T143.heap
        rw [e143, hh]
        exact C.trans (CHv.at X143 hZ hEL C.1)

set_option maxRecDepth 65536 in
set_option maxHeartbeats 40000000 in
theorem comes_1 {Post : Tables → Env → Array Value → State → Outcome → State → Prop} (hpost : ∀ tb e args s v u, (limb_1_1.after args s (.returned v) u = true ∧ limb_1_2.after args s (.returned v) u = true ∧ True) → ReturnedEndW s (.returned v) u (Jvm.fieldLocs frame_1_writes args s ++ Jvm.arrayLocs frame_1_arrays args s ++ Jvm.staticLocs frame_1_statics s) 48 10496 → Post tb e args s (.returned v) u) :
    ArmFor flags0 classFile x code maxLocals ret World_1 tables_1 room_1 Calls_1 rest_1 Pre_1 Post := by
  intro l hfl _ _ p e ha hc hk s m args below hf hA hF happ hP
  obtain ⟨hcalls, hrest, hpre⟩ := hP
  obtain ⟨-, -, -, hnamed, -, -, -, hat⟩ := (Spec.applies_iff hf).mp happ
  obtain ⟨hg, hn⟩ := and_e (Cond.before_iff.mp (show (Jvm.Cond.and given_1 narrow_1).before args s = true from hpre))
  obtain ⟨hcount, hg⟩ := and_e hg
  obtain ⟨w0, w1, w2, w3, w4, w5, rfl⟩ : ∃ w0 w1 w2 w3 w4 w5 : Value, args = #[w0, w1, w2, w3, w4, w5] := by
    have hs : args.size = 6 := by simpa [Cond.value, given_1] using hcount
    obtain ⟨L⟩ := args
    match L, hs with
    | [w0, w1, w2, w3, w4, w5], _ => exact ⟨w0, w1, w2, w3, w4, w5, rfl⟩
  have hw := fun d (hd : d ∈ tables_1) => atoms_spec (ws := Jvm.Cond.code x code maxLocals ret :: tables_1) hat d (List.mem_cons_of_mem _ hd)
  have hfit : Fit s := fun {y c} hc i hi => by
    obtain ⟨ha, rfl⟩ := Array.getElem?_eq_some_iff.mp hc
    have q := List.all_eq_true.mp ((Array.all_eq_true_iff_forall_mem.mp hF) _ (Array.getElem_mem ha)) i (List.mem_range.mpr hi)
    simpa [Array.getElem?_eq_getElem hi] using q
  obtain ⟨hg0, hg⟩ := and_e hg
  obtain ⟨i0, ei0⟩ := isL_v hg0
  obtain rfl : w0 = (.long i0) := Option.some.inj ei0
  obtain ⟨hg1, hg⟩ := and_e hg
  obtain ⟨i1, ei1⟩ := isL_v hg1
  obtain rfl : w1 = (.long i1) := Option.some.inj ei1
  obtain ⟨hg2, hg⟩ := and_e hg
  obtain ⟨i2, ei2⟩ := is_v hg2
  obtain rfl : w2 = (.int i2) := Option.some.inj ei2
  obtain ⟨hg3, hg⟩ := and_e hg
  obtain ⟨i3, ei3⟩ := is_v hg3
  obtain rfl : w3 = (.int i3) := Option.some.inj ei3
  obtain ⟨hg4, hg⟩ := and_e hg
  obtain ⟨i4, ei4⟩ := is_v hg4
  obtain rfl : w4 = (.int i4) := Option.some.inj ei4
  have hg5 := hg
  obtain ⟨i5, ei5⟩ := is_v hg5
  obtain rfl : w5 = (.int i5) := Option.some.inj ei5
  have hs : ∀ d ∈ jdkStatics_1, d.before #[.long i0, .long i1, .int i2, .int i3, .int i4, .int i5] s = true := (atoms_of jdkStatics_1 (own := restOwn_1) (rest_1_c_eq ▸ hrest)).1
  obtain ⟨zc, ezc⟩ := is_v (Cond.before_iff.mp (hs _ (List.mem_of_getElem? (i := 1) rfl)))
  have S_z : Sta s s.heap "java/lang/String" "COMPACT_STRINGS" "Z" (.int zc) := Sta.start ezc (Or.inl (hs _ (List.mem_of_getElem? (i := 0) rfl)))
  have H_z : ¬ zc = 0 := fun q => by have h := not_v (Cond.before_iff.mp (hs _ (List.mem_of_getElem? (i := 2) rfl))); rw [Jvm.Cond.eq_ints ezc (Term.int_eval 0)] at h; simp [q] at h
  obtain ⟨fm, efm, rfm⟩ := Cond.isRef_spec (hs _ (List.mem_of_getElem? (i := 8) rfl))
  have S_f : Sta s s.heap "jdk/internal/util/Preconditions" "SIOOBE_FORMATTER" "Ljava/util/function/BiFunction;" fm := Sta.start efm (Or.inl (hs _ (List.mem_of_getElem? (i := 7) rfl)))
  have S_a : Sta s s.heap "java/lang/StringUTF16" "$assertionsDisabled" "Z" (.int 1) := Sta.start (Cond.eq_int (hs _ (List.mem_of_getElem? (i := 12) rfl)) rfl) (Or.inl (hs _ (List.mem_of_getElem? (i := 11) rfl)))
  have S_h : Sta s s.heap "java/lang/StringUTF16" "HI_BYTE_SHIFT" "I" (.int 0) := Sta.start (Cond.eq_int (hs _ (List.mem_of_getElem? (i := 15) rfl)) rfl) (Or.inl (hs _ (List.mem_of_getElem? (i := 14) rfl)))
  have S_lo : Sta s s.heap "java/lang/StringUTF16" "LO_BYTE_SHIFT" "I" (.int 8) := Sta.start (Cond.eq_int (hs _ (List.mem_of_getElem? (i := 18) rfl)) rfl) (Or.inl (hs _ (List.mem_of_getElem? (i := 17) rfl)))
  have hEL : EW s #[.long i0, .long i1, .int i2, .int i3, .int i4, .int i5] consts_1 := (EW.cons (hw _ (List.mem_of_getElem? (i := 181) rfl)) (by decide +kernel) (EW.cons (hw _ (List.mem_of_getElem? (i := 330) rfl)) (by decide +kernel) EW.nil))
  have CH0 : CHv s consts_1 s.vm s.heap := CHv.start hEL (fun p hp => hcalls.1 p hp) (show Jvm.Lit.compactW.before #[.long i0, .long i1, .int i2, .int i3, .int i4, .int i5] s = true from (hs _ (List.mem_of_getElem? (i := 2) rfl))) (hw _ (List.mem_of_getElem? (i := 25) rfl)) (hw _ (List.mem_of_getElem? (i := 8) rfl))
  have hS0 : Sf s zc fm := ⟨S_z, H_z, S_f, rfm, S_a, S_h, S_lo⟩
  obtain ⟨n, o, h1, h2, h3, _, L, rfl, ⟨rfl, N⟩, -, hq1, hq2, hq3, hq4⟩ := rm1 l s _ hw tables_1 hEL i0 i1 i2 i3 i4 i5 zc fm hS0 s.heap s.heap.size (Old.start s) p e ha hc hk s m _ below hf ((Spec.applies_iff_loose hf).mp happ).1 ⟨rfl, State.Warmed39.refl s, rfl, CH0⟩ trivial
  refine ⟨n, _, h1, h2, h3, hpost _ _ _ _ _ _ ⟨Cond.after_iff.mpr rfl, Cond.after_iff.mpr (eq_i res_at (Term.int_eval (1)) rfl), trivial⟩ ⟨hq1, hq2, hq3, (hq4.sift fun y hy => Or.inr (N y hy)).mono (by decide) (by decide)⟩⟩
theorem main_1_1 : Claimed_1_1 := comes_1 fun _ _ _ _ _ _ h hF => ⟨h.1, hF⟩
theorem main_1_2 : Claimed_1_2 := comes_1 fun _ _ _ _ _ _ h hF => ⟨h.2.1, hF⟩
end Jvm.Pilot.@@N@@
namespace Jvm.Pilot.@@N@@
open Jvm Jvm.ClassFile Sem Op Lib Jvm.Free Jvm.Stand Jvm.Pilot.@@N@@.Jvm.D
/-! MADE BY PROGRAM (witnessworld.py) out of the Statement's table words and the real class files: 27 classes; the members and pool entries that the words name. The judged class is class 1, her method 5. -/
namespace start1
open Jvm.ClassFile
def u (s : String) : CpInfo := .utf8 (stringToUtf16 s)
/-- a pool by its gaps: so many unusable entries, then the entry; so many at the end -/
def gap : Nat → List CpInfo → List CpInfo
  | 0, r => r
  | n + 1, r => .unusable :: gap n r
def poolList (es : List (Nat × CpInfo)) (last : Nat) : List CpInfo := es.foldr (fun e r => gap e.1 (e.2 :: r)) (gap last [])
def pool (es : List (Nat × CpInfo)) (last : Nat) : Array CpInfo := ⟨poolList es last⟩
def fileOf (pool : Array CpInfo) (this : Nat) (attrs : Array Attribute := #[]) (ms : Array MethodInfo := #[]) (fl : Nat := 33) (sup : Nat := 0) (ifs : Array Nat := #[]) (fds : Array FieldInfo := #[]) : ClassFile where
  minorVersion := 0
  majorVersion := 65
  constantPool := pool
  accessFlags := fl
  thisClass := this
  superClass := sup
  interfaces := ifs
  fields := fds
  methods := ms
  attributes := attrs
def plain (name : String) (sup : Option ClassId) : Class where
  name := name
  kind := .ordinary
  loader := none
  accessFlags := 33
  super := sup
  interfaces := #[]
  cf := none
  fields := #[]
  methods := #[]
  instanceTypes := #[]
  staticTypes := #[]
  resolved := #[]
  callSites := []
  init := .initialized
  statics := none
  mirror := none

def pool0 : Array CpInfo := pool [(5, u "<init>"), (0, u "()V"), (1, .class_ 10), (1, u "java/lang/Object")] 113

def k0c0 : Code := { maxStack := 0, maxLocals := 1, code := object_method_1_code, exceptionTable := #[], attributes := #[] }
def k0m0 : Method := { name := "<init>", desc := "()V", sig := { parameters := [], returnType := none }, accessFlags := 1, code := some k0c0 }
/-- java/lang/Object -/
def k0 : Class := { plain "java/lang/Object" none with
  accessFlags := 33
  interfaces := #[]
  cf := some (fileOf pool0 8 #[] #[{ accessFlags := 1, nameIndex := 5, descriptorIndex := 6, attributes := #[] }] 33 0 #[] #[])
  fields := #[]
  methods := #[k0m0]
  instanceTypes := #[]
  staticTypes := #[]
  resolved := Array.replicate 124 none
  statics := none }

def pool1 : Array CpInfo := pool [(2, .class_ 4), (1, u "java/lang/Object"), (0, u "<init>"), (0, u "()V"), (0, .long 65535), (1, .integer 55296), (0, .integer 56320), (0, .integer 56319), (0, .integer 57343), (0, .methodref 14 15), (0, .class_ 16), (0, .nameAndType 17 18), (0, u "com/example/helvedir/helvedir/DiagnosticQuotePinLaw"), (0, u "high"), (0, u "(C)Z"), (0, .methodref 14 20), (0, .nameAndType 21 18), (0, u "low"), (0, .methodref 14 23), (0, .nameAndType 24 25), (0, u "ch"), (0, u "(JI)C"), (0, .class_ 27), (0, u "java/lang/String"), (0, .methodref 26 29), (0, .nameAndType 5 30), (0, u "([C)V"), (0, .methodref 32 33), (0, .class_ 34), (0, .nameAndType 35 36), (0, u "com/example/helvedir/helvedir/Diagnostic"), (0, u "quote"), (0, u "(Ljava/lang/String;)Ljava/lang/String;"), (0, .methodref 26 38), (0, .nameAndType 39 40), (0, u "isEmpty"), (0, u "()Z"), (0, .methodref 26 42), (0, .nameAndType 43 44), (0, u "equals"), (0, u "(Ljava/lang/Object;)Z"), (0, .integer 2147483647), (0, .methodref 14 47), (0, .nameAndType 48 49), (0, u "step"), (0, u "([CI)I"), (0, .methodref 26 51), (0, .nameAndType 52 53), (0, u "length"), (0, u "()I"), (0, .methodref 26 55), (0, .nameAndType 56 57), (0, u "charAt"), (0, u "(I)C"), (3, u "law"), (0, u "(JJIIII)Z")] 4

def k1m0 : Method := { name := "<init>", desc := "()V", sig := { parameters := [], returnType := none }, accessFlags := 2, code := none }
def k1c1 : Code := { maxStack := 4, maxLocals := 5, code := method_2_code, exceptionTable := #[], attributes := #[] }
def k1m1 : Method := { name := "ch", desc := "(JI)C", sig := { parameters := [.long, .int], returnType := some .char }, accessFlags := 10, code := some k1c1 }
def k1c2 : Code := { maxStack := 2, maxLocals := 1, code := method_3_code, exceptionTable := #[], attributes := #[] }
def k1m2 : Method := { name := "high", desc := "(C)Z", sig := { parameters := [.char], returnType := some .boolean }, accessFlags := 10, code := some k1c2 }
def k1c3 : Code := { maxStack := 2, maxLocals := 1, code := method_4_code, exceptionTable := #[], attributes := #[] }
def k1m3 : Method := { name := "low", desc := "(C)Z", sig := { parameters := [.char], returnType := some .boolean }, accessFlags := 10, code := some k1c3 }
def k1c4 : Code := { maxStack := 3, maxLocals := 2, code := method_5_code, exceptionTable := #[], attributes := #[] }
def k1m4 : Method := { name := "step", desc := "([CI)I", sig := { parameters := [(.array .char), .int], returnType := some .int }, accessFlags := 10, code := some k1c4 }
def k1c5 : Code := { maxStack := 6, maxLocals := 17, code := code, exceptionTable := #[], attributes := #[] }
def k1m5 : Method := { name := "law", desc := "(JJIIII)Z", sig := { parameters := [.long, .long, .int, .int, .int, .int], returnType := some .boolean }, accessFlags := 9, code := some k1c5 }
/-- com/example/helvedir/helvedir/DiagnosticQuotePinLaw -/
def k1 : Class := { plain "com/example/helvedir/helvedir/DiagnosticQuotePinLaw" (some 0) with
  accessFlags := 49
  interfaces := #[]
  cf := some (fileOf pool1 14 #[] #[{ accessFlags := 2, nameIndex := 5, descriptorIndex := 6, attributes := #[] }, { accessFlags := 10, nameIndex := 24, descriptorIndex := 25, attributes := #[] }, { accessFlags := 10, nameIndex := 17, descriptorIndex := 18, attributes := #[] }, { accessFlags := 10, nameIndex := 21, descriptorIndex := 18, attributes := #[] }, { accessFlags := 10, nameIndex := 48, descriptorIndex := 49, attributes := #[] }, { accessFlags := 9, nameIndex := 61, descriptorIndex := 62, attributes := #[] }] 49 2 #[] #[])
  fields := #[]
  methods := #[k1m0, k1m1, k1m2, k1m3, k1m4, k1m5]
  instanceTypes := #[]
  staticTypes := #[]
  resolved := Array.replicate 67 none
  statics := none }

def pool2 : Array CpInfo := pool [(1, .class_ 2), (0, u "java/io/Serializable"), (0, .class_ 4), (0, u "java/lang/Object")] 2

/-- java/io/Serializable -/
def k2 : Class := { plain "java/io/Serializable" (some 0) with
  accessFlags := 1537
  interfaces := #[]
  cf := some (fileOf pool2 1 #[] #[] 1537 3 #[] #[])
  fields := #[]
  methods := #[]
  instanceTypes := #[]
  staticTypes := #[]
  resolved := Array.replicate 7 none
  statics := none }

def pool3 : Array CpInfo := pool [(1, .class_ 2), (0, u "java/lang/Comparable"), (0, .class_ 4), (0, u "java/lang/Object")] 7

/-- java/lang/Comparable -/
def k3 : Class := { plain "java/lang/Comparable" (some 0) with
  accessFlags := 1537
  interfaces := #[]
  cf := some (fileOf pool3 1 #[] #[] 1537 3 #[] #[])
  fields := #[]
  methods := #[]
  instanceTypes := #[]
  staticTypes := #[]
  resolved := Array.replicate 12 none
  statics := none }

def pool4 : Array CpInfo := pool [(2, .class_ 4), (1, u "java/lang/CharSequence"), (42, .class_ 48), (0, u "java/lang/CharSequence$1CodePointIterator"), (10, .class_ 60), (0, u "java/lang/CharSequence$1CharIterator"), (5, .class_ 67), (0, u "java/lang/Object")] 63

/-- java/lang/CharSequence -/
def k4 : Class := { plain "java/lang/CharSequence" (some 0) with
  accessFlags := 1537
  interfaces := #[]
  cf := some (fileOf pool4 2 #[.nestMembers #[47, 59]] #[] 1537 66 #[] #[])
  fields := #[]
  methods := #[]
  instanceTypes := #[]
  staticTypes := #[]
  resolved := Array.replicate 131 none
  statics := none }

def pool5 : Array CpInfo := pool [(1, .class_ 2), (0, u "java/lang/constant/Constable"), (0, .class_ 4), (0, u "java/lang/Object")] 6

/-- java/lang/constant/Constable -/
def k5 : Class := { plain "java/lang/constant/Constable" (some 0) with
  accessFlags := 1537
  interfaces := #[]
  cf := some (fileOf pool5 1 #[] #[] 1537 3 #[] #[])
  fields := #[]
  methods := #[]
  instanceTypes := #[]
  staticTypes := #[]
  resolved := Array.replicate 11 none
  statics := none }

def pool6 : Array CpInfo := pool [(1, .class_ 2), (0, u "java/lang/constant/ConstantDesc"), (0, .class_ 4), (0, u "java/lang/Object")] 32

/-- java/lang/constant/ConstantDesc -/
def k6 : Class := { plain "java/lang/constant/ConstantDesc" (some 0) with
  accessFlags := 1537
  interfaces := #[]
  cf := some (fileOf pool6 1 #[] #[] 1537 3 #[] #[])
  fields := #[]
  methods := #[]
  instanceTypes := #[]
  staticTypes := #[]
  resolved := Array.replicate 37 none
  statics := none }

def pool7 : Array CpInfo := pool [(1, .methodref 2 3), (0, .class_ 4), (0, .nameAndType 5 6), (0, u "java/lang/Object"), (0, u "<init>"), (0, u "()V"), (0, .string 8), (0, u ""), (0, .fieldref 10 11), (0, .class_ 12), (0, .nameAndType 13 14), (0, u "java/lang/String"), (0, u "value"), (0, u "[B"), (0, .fieldref 10 16), (0, .nameAndType 17 18), (0, u "coder"), (0, u "B"), (2, u "hash"), (0, u "I"), (2, u "hashIsZero"), (0, u "Z"), (0, .methodref 10 28), (0, .nameAndType 5 29), (0, u "([CIILjava/lang/Void;)V"), (6, u "checkBoundsOffCount"), (0, u "(III)I"), (0, .fieldref 10 39), (0, .nameAndType 40 26), (0, u "COMPACT_STRINGS"), (1, .class_ 44), (1, u "java/lang/StringUTF16"), (0, u "compress"), (1, .methodref 42 48), (0, .nameAndType 49 50), (0, u "coderFromArrayLen"), (0, u "([BI)B"), (3, .methodref 55 56), (0, .class_ 57), (0, .nameAndType 58 59), (0, u "java/util/Arrays"), (0, u "copyOfRange"), (0, u "([BII)[B"), (37, u "([BII)I"), (8, .methodref 107 108), (0, .class_ 109), (0, .nameAndType 110 111), (0, u "java/lang/StringLatin1"), (0, u "inflate"), (0, u "([BI[BII)V"), (30, u "()Z"), (34, .methodref 42 178), (0, .nameAndType 45 179), (0, u "([CII)[B"), (13, .class_ 195), (1, u "java/lang/System"), (15, u "([BB)V"), (0, .methodref 193 213), (0, .nameAndType 214 215), (0, u "arraycopy"), (0, u "(Ljava/lang/Object;ILjava/lang/Object;II)V"), (118, u "()I"), (0, .methodref 10 336), (0, .nameAndType 17 337), (0, u "()B"), (2, u "()[B"), (22, u "([BI)C"), (27, u "(II)V"), (35, u "(I)C"), (61, .methodref 10 490), (0, .nameAndType 5 491), (0, u "(Ljava/lang/AbstractStringBuilder;Ljava/lang/Void;)V"), (0, .methodref 10 493), (0, .nameAndType 494 142), (0, u "isLatin1"), (0, .methodref 107 496), (0, .nameAndType 497 363), (0, u "charAt"), (0, .methodref 42 496), (0, .methodref 10 500), (0, .nameAndType 501 391), (0, u "checkIndex"), (0, .methodref 42 503), (0, .nameAndType 504 97), (0, u "codePointAt"), (0, .methodref 10 506), (0, .nameAndType 507 334), (0, u "length"), (5, u "checkFromToIndex"), (7, .methodref 10 522), (0, .nameAndType 523 524), (0, u "checkBoundsBeginEnd"), (0, u "(III)V"), (7, u "getBytes"), (10, u "equals"), (5, .methodref 550 506), (0, .class_ 551), (0, u "java/lang/AbstractStringBuilder"), (0, .methodref 550 553), (0, .nameAndType 554 340), (0, u "getValue"), (18, u "(Ljava/lang/Object;)Z"), (1, .class_ 576), (0, u "java/lang/CharSequence"), (22, u "CASE_INSENSITIVE_ORDER"), (0, u "Ljava/util/Comparator;"), (82, u "substring"), (0, u "(II)Ljava/lang/String;"), (0, .methodref 107 686), (0, .nameAndType 687 688), (0, u "newString"), (0, u "([BII)Ljava/lang/String;"), (0, .methodref 42 686), (2, u "isEmpty"), (72, u "(I)I"), (55, u "([BIB)V"), (188, u "([C)V"), (36, .methodref 550 493), (0, .fieldref 550 1049), (0, .nameAndType 1050 26), (0, u "maybeLatin1"), (2, .fieldref 1054 1055), (0, .class_ 1056), (0, .nameAndType 1057 1058), (0, u "jdk/internal/util/Preconditions"), (0, u "SIOOBE_FORMATTER"), (0, u "Ljava/util/function/BiFunction;"), (0, .methodref 1054 1060), (0, .nameAndType 501 1061), (0, u "(IILjava/util/function/BiFunction;)I"), (0, .methodref 1054 1063), (0, .nameAndType 513 1064), (0, u "(IIILjava/util/function/BiFunction;)I"), (0, .methodref 1054 1066), (0, .nameAndType 1067 1064), (0, u "checkFromIndexSize"), (33, u "serialPersistentFields"), (0, u "[Ljava/io/ObjectStreamField;"), (0, .class_ 1104), (0, u "java/lang/String$CaseInsensitiveComparator"), (1, .class_ 1107), (0, u "java/io/Serializable"), (0, .class_ 1109), (0, u "java/lang/Comparable"), (0, .class_ 1111), (0, u "java/lang/constant/Constable"), (0, .class_ 1113), (0, u "java/lang/constant/ConstantDesc"), (2, u "serialVersionUID"), (0, u "J"), (3, u "REPL"), (0, u "C"), (2, u "LATIN1"), (1, u "UTF16"), (105, u "(Ljava/lang/StringBuilder;)V")] 217

def k7m0 : Method := { name := "<init>", desc := "()V", sig := { parameters := [], returnType := none }, accessFlags := 1, code := none }
def k7c1 : Code := { maxStack := 5, maxLocals := 2, code := jdk_42_method_3_code, exceptionTable := #[], attributes := #[] }
def k7m1 : Method := { name := "<init>", desc := "([C)V", sig := { parameters := [(.array .char)], returnType := none }, accessFlags := 1, code := some k7c1 }
def k7c2 : Code := { maxStack := 3, maxLocals := 2, code := jdk_42_method_53_code, exceptionTable := #[], attributes := #[] }
def k7m2 : Method := { name := "<init>", desc := "(Ljava/lang/StringBuilder;)V", sig := { parameters := [(.object "java/lang/StringBuilder")], returnType := none }, accessFlags := 1, code := some k7c2 }
def k7c3 : Code := { maxStack := 2, maxLocals := 1, code := jdk_42_method_54_code, exceptionTable := #[], attributes := #[] }
def k7m3 : Method := { name := "length", desc := "()I", sig := { parameters := [], returnType := some .int }, accessFlags := 1, code := some k7c3 }
def k7c4 : Code := { maxStack := 1, maxLocals := 1, code := jdk_42_method_55_code, exceptionTable := #[], attributes := #[] }
def k7m4 : Method := { name := "isEmpty", desc := "()Z", sig := { parameters := [], returnType := some .boolean }, accessFlags := 1, code := some k7c4 }
def k7c5 : Code := { maxStack := 2, maxLocals := 2, code := jdk_42_method_56_code, exceptionTable := #[], attributes := #[] }
def k7m5 : Method := { name := "charAt", desc := "(I)C", sig := { parameters := [.int], returnType := some .char }, accessFlags := 1, code := some k7c5 }
def k7c6 : Code := { maxStack := 3, maxLocals := 3, code := jdk_42_method_57_code, exceptionTable := #[], attributes := #[] }
def k7m6 : Method := { name := "codePointAt", desc := "(I)I", sig := { parameters := [.int], returnType := some .int }, accessFlags := 1, code := some k7c6 }
def k7c7 : Code := { maxStack := 2, maxLocals := 3, code := jdk_42_method_66_code, exceptionTable := #[], attributes := #[] }
def k7m7 : Method := { name := "equals", desc := "(Ljava/lang/Object;)Z", sig := { parameters := [(.object "java/lang/Object")], returnType := some .boolean }, accessFlags := 1, code := some k7c7 }
def k7c8 : Code := { maxStack := 3, maxLocals := 5, code := jdk_42_method_92_code, exceptionTable := #[], attributes := #[] }
def k7m8 : Method := { name := "substring", desc := "(II)Ljava/lang/String;", sig := { parameters := [.int, .int], returnType := some (.object "java/lang/String") }, accessFlags := 1, code := some k7c8 }
def k7c9 : Code := { maxStack := 5, maxLocals := 4, code := jdk_42_method_147_code, exceptionTable := #[], attributes := #[] }
def k7m9 : Method := { name := "getBytes", desc := "([BIB)V", sig := { parameters := [(.array .byte), .int, .byte], returnType := none }, accessFlags := 0, code := some k7c9 }
def k7c10 : Code := { maxStack := 4, maxLocals := 6, code := jdk_42_method_149_code, exceptionTable := #[], attributes := #[] }
def k7m10 : Method := { name := "<init>", desc := "([CIILjava/lang/Void;)V", sig := { parameters := [(.array .char), .int, .int, (.object "java/lang/Void")], returnType := none }, accessFlags := 2, code := some k7c10 }
def k7c11 : Code := { maxStack := 5, maxLocals := 5, code := jdk_42_method_150_code, exceptionTable := #[], attributes := #[] }
def k7m11 : Method := { name := "<init>", desc := "(Ljava/lang/AbstractStringBuilder;Ljava/lang/Void;)V", sig := { parameters := [(.object "java/lang/AbstractStringBuilder"), (.object "java/lang/Void")], returnType := none }, accessFlags := 0, code := some k7c11 }
def k7c12 : Code := { maxStack := 2, maxLocals := 3, code := jdk_42_method_151_code, exceptionTable := #[], attributes := #[] }
def k7m12 : Method := { name := "<init>", desc := "([BB)V", sig := { parameters := [(.array .byte), .byte], returnType := none }, accessFlags := 0, code := some k7c12 }
def k7c13 : Code := { maxStack := 1, maxLocals := 1, code := jdk_42_method_152_code, exceptionTable := #[], attributes := #[] }
def k7m13 : Method := { name := "coder", desc := "()B", sig := { parameters := [], returnType := some .byte }, accessFlags := 0, code := some k7c13 }
def k7c14 : Code := { maxStack := 1, maxLocals := 1, code := jdk_42_method_154_code, exceptionTable := #[], attributes := #[] }
def k7m14 : Method := { name := "isLatin1", desc := "()Z", sig := { parameters := [], returnType := some .boolean }, accessFlags := 0, code := some k7c14 }
def k7c15 : Code := { maxStack := 3, maxLocals := 2, code := jdk_42_method_155_code, exceptionTable := #[], attributes := #[] }
def k7m15 : Method := { name := "checkIndex", desc := "(II)V", sig := { parameters := [.int, .int], returnType := none }, accessFlags := 8, code := some k7c15 }
def k7c16 : Code := { maxStack := 4, maxLocals := 3, code := jdk_42_method_157_code, exceptionTable := #[], attributes := #[] }
def k7m16 : Method := { name := "checkBoundsOffCount", desc := "(III)I", sig := { parameters := [.int, .int, .int], returnType := some .int }, accessFlags := 8, code := some k7c16 }
def k7c17 : Code := { maxStack := 4, maxLocals := 3, code := jdk_42_method_158_code, exceptionTable := #[], attributes := #[] }
def k7m17 : Method := { name := "checkBoundsBeginEnd", desc := "(III)V", sig := { parameters := [.int, .int, .int], returnType := none }, accessFlags := 8, code := some k7c17 }
/-- java/lang/String -/
def k7 : Class := { plain "java/lang/String" (some 0) with
  accessFlags := 49
  interfaces := #[2, 3, 4, 5, 6]
  cf := some (fileOf pool7 10 #[.nestMembers #[1103]] #[{ accessFlags := 1, nameIndex := 5, descriptorIndex := 6, attributes := #[] }, { accessFlags := 1, nameIndex := 5, descriptorIndex := 1010, attributes := #[] }, { accessFlags := 1, nameIndex := 5, descriptorIndex := 1233, attributes := #[] }, { accessFlags := 1, nameIndex := 507, descriptorIndex := 334, attributes := #[] }, { accessFlags := 1, nameIndex := 692, descriptorIndex := 142, attributes := #[] }, { accessFlags := 1, nameIndex := 497, descriptorIndex := 427, attributes := #[] }, { accessFlags := 1, nameIndex := 504, descriptorIndex := 765, attributes := #[] }, { accessFlags := 1, nameIndex := 543, descriptorIndex := 573, attributes := #[] }, { accessFlags := 1, nameIndex := 683, descriptorIndex := 684, attributes := #[] }, { accessFlags := 0, nameIndex := 532, descriptorIndex := 821, attributes := #[] }, { accessFlags := 2, nameIndex := 5, descriptorIndex := 29, attributes := #[] }, { accessFlags := 0, nameIndex := 5, descriptorIndex := 491, attributes := #[] }, { accessFlags := 0, nameIndex := 5, descriptorIndex := 211, attributes := #[] }, { accessFlags := 0, nameIndex := 17, descriptorIndex := 337, attributes := #[] }, { accessFlags := 0, nameIndex := 494, descriptorIndex := 142, attributes := #[] }, { accessFlags := 8, nameIndex := 501, descriptorIndex := 391, attributes := #[] }, { accessFlags := 8, nameIndex := 36, descriptorIndex := 37, attributes := #[] }, { accessFlags := 8, nameIndex := 523, descriptorIndex := 524, attributes := #[] }] 49 2 #[1106, 1108, 575, 1110, 1112] #[{ accessFlags := 18, nameIndex := 13, descriptorIndex := 14, attributes := #[] }, { accessFlags := 18, nameIndex := 17, descriptorIndex := 18, attributes := #[] }, { accessFlags := 2, nameIndex := 21, descriptorIndex := 22, attributes := #[] }, { accessFlags := 2, nameIndex := 25, descriptorIndex := 26, attributes := #[] }, { accessFlags := 26, nameIndex := 1116, descriptorIndex := 1117, attributes := #[] }, { accessFlags := 24, nameIndex := 40, descriptorIndex := 26, attributes := #[] }, { accessFlags := 26, nameIndex := 1101, descriptorIndex := 1102, attributes := #[] }, { accessFlags := 26, nameIndex := 1121, descriptorIndex := 1122, attributes := #[] }, { accessFlags := 25, nameIndex := 599, descriptorIndex := 600, attributes := #[] }, { accessFlags := 24, nameIndex := 1125, descriptorIndex := 18, attributes := #[] }, { accessFlags := 24, nameIndex := 1127, descriptorIndex := 18, attributes := #[] }])
  fields := #[{ name := "value", type := (.array .byte), accessFlags := 18, slot := 0, constantValue := 0 }, { name := "coder", type := .byte, accessFlags := 18, slot := 1, constantValue := 0 }, { name := "hash", type := .int, accessFlags := 2, slot := 2, constantValue := 0 }, { name := "hashIsZero", type := .boolean, accessFlags := 2, slot := 3, constantValue := 0 }, { name := "serialVersionUID", type := .long, accessFlags := 26, slot := 0, constantValue := 0 }, { name := "COMPACT_STRINGS", type := .boolean, accessFlags := 24, slot := 1, constantValue := 0 }, { name := "serialPersistentFields", type := (.array (.object "java/io/ObjectStreamField")), accessFlags := 26, slot := 2, constantValue := 0 }, { name := "REPL", type := .char, accessFlags := 26, slot := 3, constantValue := 0 }, { name := "CASE_INSENSITIVE_ORDER", type := (.object "java/util/Comparator"), accessFlags := 25, slot := 4, constantValue := 0 }, { name := "LATIN1", type := .byte, accessFlags := 24, slot := 5, constantValue := 0 }, { name := "UTF16", type := .byte, accessFlags := 24, slot := 6, constantValue := 0 }]
  methods := #[k7m0, k7m1, k7m2, k7m3, k7m4, k7m5, k7m6, k7m7, k7m8, k7m9, k7m10, k7m11, k7m12, k7m13, k7m14, k7m15, k7m16, k7m17]
  instanceTypes := #[(.array .byte), .byte, .int, .boolean]
  staticTypes := #[.long, .boolean, (.array (.object "java/io/ObjectStreamField")), .char, (.object "java/util/Comparator"), .byte, .byte]
  resolved := Array.replicate 1451 none
  statics := some 0 }

def pool8 : Array CpInfo := pool [(3, .class_ 4), (0, u "java/lang/String"), (1, .class_ 8), (1, u "java/lang/Object"), (0, u "<init>"), (0, u "()V"), (0, .methodref 12 13), (0, .class_ 14), (0, .nameAndType 15 16), (0, u "java/lang/StringUTF16"), (0, u "newBytesLength"), (0, u "(I)I"), (3, .integer 1073741823), (23, .fieldref 12 45), (0, .nameAndType 46 47), (0, u "$assertionsDisabled"), (0, u "Z"), (0, .methodref 12 49), (0, .nameAndType 50 51), (0, u "length"), (0, u "([B)I"), (7, .fieldref 12 60), (0, .nameAndType 61 62), (0, u "HI_BYTE_SHIFT"), (0, u "I"), (0, .fieldref 12 64), (0, .nameAndType 65 62), (0, u "LO_BYTE_SHIFT"), (1, .methodref 12 68), (0, .nameAndType 69 70), (0, u "checkIndex"), (0, u "(I[B)V"), (0, .methodref 12 72), (0, .nameAndType 73 74), (0, u "getChar"), (0, u "([BI)C"), (0, .methodref 76 77), (0, .class_ 78), (0, .nameAndType 79 80), (0, u "java/lang/Character"), (0, u "isHighSurrogate"), (0, u "(C)Z"), (0, .methodref 76 82), (0, .nameAndType 83 80), (0, u "isLowSurrogate"), (0, .methodref 76 85), (0, .nameAndType 86 87), (0, u "toCodePoint"), (0, u "(CC)I"), (0, .methodref 12 89), (0, .nameAndType 90 91), (0, u "codePointAt"), (0, u "([BIIZ)I"), (7, u "(II[B)V"), (7, .methodref 12 108), (0, .nameAndType 109 110), (0, u "newBytesFor"), (0, u "(I)[B"), (0, .methodref 12 112), (0, .nameAndType 113 114), (0, u "putChar"), (0, u "([BII)V"), (0, .methodref 12 116), (0, .nameAndType 117 118), (0, u "compress"), (0, u "([CI[BII)I"), (0, .methodref 12 120), (0, .nameAndType 121 122), (0, u "toBytes"), (0, u "([CII)[B"), (0, .methodref 12 124), (0, .nameAndType 117 125), (0, u "([BI[BII)I"), (0, .methodref 127 128), (0, .class_ 129), (0, .nameAndType 130 131), (0, u "java/util/Arrays"), (0, u "copyOfRange"), (0, u "([BII)[B"), (8, u "inflate"), (0, u "([BI[BII)V"), (31, .methodref 12 174), (0, .nameAndType 175 99), (0, u "checkBoundsOffCount"), (74, u "([BII)I"), (0, .fieldref 3 252), (0, .nameAndType 253 47), (0, u "COMPACT_STRINGS"), (3, .methodref 12 258), (0, .nameAndType 117 131), (0, .methodref 12 260), (0, .nameAndType 261 262), (0, u "coderFromArrayLen"), (0, u "([BI)B"), (0, .methodref 3 264), (0, .nameAndType 9 265), (0, u "([BB)V"), (15, u "(III)I"), (45, u "newString"), (0, u "([BII)Ljava/lang/String;"), (40, .class_ 371), (1, u "java/lang/StringUTF16$LinesSpliterator"), (20, u "charAt"), (21, .methodref 3 415), (0, .nameAndType 69 416), (0, u "(II)V"), (2, .methodref 3 420), (0, .nameAndType 175 281), (9, u "MAX_LENGTH"), (196, .class_ 628), (0, u "java/lang/StringUTF16$CodePointsSpliterator"), (0, .class_ 630), (0, u "java/lang/StringUTF16$CharsSpliterator")] 4

def k8m0 : Method := { name := "<init>", desc := "()V", sig := { parameters := [], returnType := none }, accessFlags := 0, code := none }
def k8c1 : Code := { maxStack := 1, maxLocals := 1, code := jdk_52_method_2_code, exceptionTable := #[], attributes := #[] }
def k8m1 : Method := { name := "newBytesFor", desc := "(I)[B", sig := { parameters := [.int], returnType := some (.array .byte) }, accessFlags := 9, code := some k8c1 }
def k8c2 : Code := { maxStack := 4, maxLocals := 1, code := jdk_52_method_3_code, exceptionTable := #[], attributes := #[] }
def k8m2 : Method := { name := "newBytesLength", desc := "(I)I", sig := { parameters := [.int], returnType := some .int }, accessFlags := 9, code := some k8c2 }
def k8c3 : Code := { maxStack := 4, maxLocals := 3, code := jdk_52_method_4_code, exceptionTable := #[], attributes := #[] }
def k8m3 : Method := { name := "putChar", desc := "([BII)V", sig := { parameters := [(.array .byte), .int, .int], returnType := none }, accessFlags := 8, code := some k8c3 }
def k8c4 : Code := { maxStack := 3, maxLocals := 2, code := jdk_52_method_5_code, exceptionTable := #[], attributes := #[] }
def k8m4 : Method := { name := "getChar", desc := "([BI)C", sig := { parameters := [(.array .byte), .int], returnType := some .char }, accessFlags := 8, code := some k8c4 }
def k8c5 : Code := { maxStack := 2, maxLocals := 1, code := jdk_52_method_6_code, exceptionTable := #[], attributes := #[] }
def k8m5 : Method := { name := "length", desc := "([B)I", sig := { parameters := [(.array .byte)], returnType := some .int }, accessFlags := 9, code := some k8c5 }
def k8c6 : Code := { maxStack := 2, maxLocals := 6, code := jdk_52_method_7_code, exceptionTable := #[], attributes := #[] }
def k8m6 : Method := { name := "codePointAt", desc := "([BIIZ)I", sig := { parameters := [(.array .byte), .int, .int, .boolean], returnType := some .int }, accessFlags := 10, code := some k8c6 }
def k8c7 : Code := { maxStack := 4, maxLocals := 3, code := jdk_52_method_8_code, exceptionTable := #[], attributes := #[] }
def k8m7 : Method := { name := "codePointAt", desc := "([BII)I", sig := { parameters := [(.array .byte), .int, .int], returnType := some .int }, accessFlags := 9, code := some k8c7 }
def k8c8 : Code := { maxStack := 4, maxLocals := 5, code := jdk_52_method_14_code, exceptionTable := #[], attributes := #[] }
def k8m8 : Method := { name := "toBytes", desc := "([CII)[B", sig := { parameters := [(.array .char), .int, .int], returnType := some (.array .byte) }, accessFlags := 9, code := some k8c8 }
def k8c9 : Code := { maxStack := 2, maxLocals := 2, code := jdk_52_method_15_code, exceptionTable := #[], attributes := #[] }
def k8m9 : Method := { name := "coderFromArrayLen", desc := "([BI)B", sig := { parameters := [(.array .byte), .int], returnType := some .byte }, accessFlags := 8, code := some k8c9 }
def k8c10 : Code := { maxStack := 5, maxLocals := 6, code := jdk_52_method_16_code, exceptionTable := #[], attributes := #[] }
def k8m10 : Method := { name := "compress", desc := "([CII)[B", sig := { parameters := [(.array .char), .int, .int], returnType := some (.array .byte) }, accessFlags := 9, code := some k8c10 }
def k8c11 : Code := { maxStack := 5, maxLocals := 6, code := jdk_52_method_17_code, exceptionTable := #[], attributes := #[] }
def k8m11 : Method := { name := "compress", desc := "([BII)[B", sig := { parameters := [(.array .byte), .int, .int], returnType := some (.array .byte) }, accessFlags := 9, code := some k8c11 }
def k8c12 : Code := { maxStack := 3, maxLocals := 7, code := jdk_52_method_21_code, exceptionTable := #[], attributes := #[] }
def k8m12 : Method := { name := "compress", desc := "([CI[BII)I", sig := { parameters := [(.array .char), .int, (.array .byte), .int, .int], returnType := some .int }, accessFlags := 9, code := some k8c12 }
def k8c13 : Code := { maxStack := 3, maxLocals := 7, code := jdk_52_method_22_code, exceptionTable := #[], attributes := #[] }
def k8m13 : Method := { name := "compress", desc := "([BI[BII)I", sig := { parameters := [(.array .byte), .int, (.array .byte), .int, .int], returnType := some .int }, accessFlags := 9, code := some k8c13 }
def k8c14 : Code := { maxStack := 6, maxLocals := 5, code := jdk_52_method_69_code, exceptionTable := #[], attributes := #[] }
def k8m14 : Method := { name := "newString", desc := "([BII)Ljava/lang/String;", sig := { parameters := [(.array .byte), .int, .int], returnType := some (.object "java/lang/String") }, accessFlags := 9, code := some k8c14 }
def k8c15 : Code := { maxStack := 2, maxLocals := 2, code := jdk_52_method_83_code, exceptionTable := #[], attributes := #[] }
def k8m15 : Method := { name := "charAt", desc := "([BI)C", sig := { parameters := [(.array .byte), .int], returnType := some .char }, accessFlags := 9, code := some k8c15 }
def k8c16 : Code := { maxStack := 4, maxLocals := 6, code := jdk_52_method_86_code, exceptionTable := #[], attributes := #[] }
def k8m16 : Method := { name := "inflate", desc := "([BI[BII)V", sig := { parameters := [(.array .byte), .int, (.array .byte), .int, .int], returnType := none }, accessFlags := 9, code := some k8c16 }
def k8c17 : Code := { maxStack := 2, maxLocals := 2, code := jdk_52_method_91_code, exceptionTable := #[], attributes := #[] }
def k8m17 : Method := { name := "checkIndex", desc := "(I[B)V", sig := { parameters := [.int, (.array .byte)], returnType := none }, accessFlags := 9, code := some k8c17 }
def k8c18 : Code := { maxStack := 3, maxLocals := 3, code := jdk_52_method_94_code, exceptionTable := #[], attributes := #[] }
def k8m18 : Method := { name := "checkBoundsOffCount", desc := "(II[B)V", sig := { parameters := [.int, .int, (.array .byte)], returnType := none }, accessFlags := 9, code := some k8c18 }
/-- java/lang/StringUTF16 -/
def k8 : Class := { plain "java/lang/StringUTF16" (some 0) with
  accessFlags := 48
  interfaces := #[]
  cf := some (fileOf pool8 12 #[.nestMembers #[627, 629, 369]] #[{ accessFlags := 0, nameIndex := 9, descriptorIndex := 10, attributes := #[] }, { accessFlags := 9, nameIndex := 109, descriptorIndex := 110, attributes := #[] }, { accessFlags := 9, nameIndex := 15, descriptorIndex := 16, attributes := #[] }, { accessFlags := 8, nameIndex := 113, descriptorIndex := 114, attributes := #[] }, { accessFlags := 8, nameIndex := 73, descriptorIndex := 74, attributes := #[] }, { accessFlags := 9, nameIndex := 50, descriptorIndex := 51, attributes := #[] }, { accessFlags := 10, nameIndex := 90, descriptorIndex := 91, attributes := #[] }, { accessFlags := 9, nameIndex := 90, descriptorIndex := 250, attributes := #[] }, { accessFlags := 9, nameIndex := 121, descriptorIndex := 122, attributes := #[] }, { accessFlags := 8, nameIndex := 261, descriptorIndex := 262, attributes := #[] }, { accessFlags := 9, nameIndex := 117, descriptorIndex := 122, attributes := #[] }, { accessFlags := 9, nameIndex := 117, descriptorIndex := 131, attributes := #[] }, { accessFlags := 9, nameIndex := 117, descriptorIndex := 118, attributes := #[] }, { accessFlags := 9, nameIndex := 117, descriptorIndex := 125, attributes := #[] }, { accessFlags := 9, nameIndex := 327, descriptorIndex := 328, attributes := #[] }, { accessFlags := 9, nameIndex := 392, descriptorIndex := 74, attributes := #[] }, { accessFlags := 9, nameIndex := 140, descriptorIndex := 141, attributes := #[] }, { accessFlags := 9, nameIndex := 69, descriptorIndex := 70, attributes := #[] }, { accessFlags := 9, nameIndex := 175, descriptorIndex := 99, attributes := #[] }] 48 6 #[] #[{ accessFlags := 26, nameIndex := 61, descriptorIndex := 62, attributes := #[] }, { accessFlags := 26, nameIndex := 65, descriptorIndex := 62, attributes := #[] }, { accessFlags := 24, nameIndex := 430, descriptorIndex := 62, attributes := #[] }, { accessFlags := 4120, nameIndex := 46, descriptorIndex := 47, attributes := #[] }])
  fields := #[{ name := "HI_BYTE_SHIFT", type := .int, accessFlags := 26, slot := 0, constantValue := 0 }, { name := "LO_BYTE_SHIFT", type := .int, accessFlags := 26, slot := 1, constantValue := 0 }, { name := "MAX_LENGTH", type := .int, accessFlags := 24, slot := 2, constantValue := 0 }, { name := "$assertionsDisabled", type := .boolean, accessFlags := 4120, slot := 3, constantValue := 0 }]
  methods := #[k8m0, k8m1, k8m2, k8m3, k8m4, k8m5, k8m6, k8m7, k8m8, k8m9, k8m10, k8m11, k8m12, k8m13, k8m14, k8m15, k8m16, k8m17, k8m18]
  instanceTypes := #[]
  staticTypes := #[.int, .int, .int, .boolean]
  resolved := Array.replicate 635 none
  statics := some 1 }

def pool9 : Array CpInfo := pool [(2, .class_ 4), (0, .nameAndType 5 6), (0, u "java/lang/Object"), (0, u "<init>"), (0, u "()V"), (0, .class_ 8), (0, u "com/example/helvedir/helvedir/Diagnostic"), (0, .methodref 10 11), (0, .class_ 12), (0, .nameAndType 13 14), (0, u "java/lang/String"), (0, u "length"), (0, u "()I"), (0, .methodref 10 16), (0, .nameAndType 17 18), (0, u "codePointAt"), (0, u "(I)I"), (0, .methodref 20 21), (0, .class_ 22), (0, .nameAndType 23 18), (0, u "java/lang/Character"), (0, u "charCount"), (0, .class_ 25), (0, u "java/lang/StringBuilder"), (0, .methodref 24 3), (0, .methodref 10 28), (0, .nameAndType 29 30), (0, u "substring"), (0, u "(II)Ljava/lang/String;"), (0, .methodref 24 32), (0, .nameAndType 33 34), (0, u "append"), (0, u "(Ljava/lang/String;)Ljava/lang/StringBuilder;"), (0, .string 36), (0, u "..."), (0, .methodref 24 38), (0, .nameAndType 39 40), (0, u "toString"), (0, u "()Ljava/lang/String;"), (0, u "MOST_QUOTED"), (0, u "I"), (2, u "CUT"), (0, u "Ljava/lang/String;"), (2, u "quote"), (0, u "(Ljava/lang/String;)Ljava/lang/String;")] 3

def k9m0 : Method := { name := "<init>", desc := "()V", sig := { parameters := [], returnType := none }, accessFlags := 2, code := none }
def k9c1 : Code := { maxStack := 4, maxLocals := 3, code := prog_2_method_2_code, exceptionTable := #[], attributes := #[] }
def k9m1 : Method := { name := "quote", desc := "(Ljava/lang/String;)Ljava/lang/String;", sig := { parameters := [(.object "java/lang/String")], returnType := some (.object "java/lang/String") }, accessFlags := 8, code := some k9c1 }
/-- com/example/helvedir/helvedir/Diagnostic -/
def k9 : Class := { plain "com/example/helvedir/helvedir/Diagnostic" (some 0) with
  accessFlags := 48
  interfaces := #[]
  cf := some (fileOf pool9 7 #[] #[{ accessFlags := 2, nameIndex := 5, descriptorIndex := 6, attributes := #[] }, { accessFlags := 8, nameIndex := 49, descriptorIndex := 50, attributes := #[] }] 48 2 #[] #[{ accessFlags := 26, nameIndex := 41, descriptorIndex := 42, attributes := #[] }, { accessFlags := 26, nameIndex := 45, descriptorIndex := 46, attributes := #[] }])
  fields := #[{ name := "MOST_QUOTED", type := .int, accessFlags := 26, slot := 0, constantValue := 0 }, { name := "CUT", type := (.object "java/lang/String"), accessFlags := 26, slot := 1, constantValue := 0 }]
  methods := #[k9m0, k9m1]
  instanceTypes := #[]
  staticTypes := #[.int, (.object "java/lang/String")]
  resolved := Array.replicate 54 none
  statics := none }

def pool10 : Array CpInfo := pool [(2, .class_ 4), (1, u "java/lang/Object"), (0, u "<init>"), (0, u "()V"), (17, .class_ 26), (1, u "jdk/internal/util/Preconditions"), (6, u "checkIndex"), (13, u "checkFromToIndex"), (1, u "checkFromIndexSize"), (5, .class_ 56), (0, u "jdk/internal/util/Preconditions$4"), (57, .class_ 115), (0, u "jdk/internal/util/Preconditions$1"), (7, u "SIOOBE_FORMATTER"), (0, u "Ljava/util/function/BiFunction;"), (0, .class_ 126), (0, u "jdk/internal/util/Preconditions$2"), (3, u "AIOOBE_FORMATTER"), (0, .class_ 132), (0, u "jdk/internal/util/Preconditions$3"), (3, u "IOOBE_FORMATTER"), (41, u "(IILjava/util/function/BiFunction;)I"), (4, u "(IIILjava/util/function/BiFunction;)I")] 10

def k10m0 : Method := { name := "<init>", desc := "()V", sig := { parameters := [], returnType := none }, accessFlags := 1, code := none }
def k10c1 : Code := { maxStack := 3, maxLocals := 3, code := jdk_41_method_11_code, exceptionTable := #[], attributes := #[] }
def k10m1 : Method := { name := "checkIndex", desc := "(IILjava/util/function/BiFunction;)I", sig := { parameters := [.int, .int, (.object "java/util/function/BiFunction")], returnType := some .int }, accessFlags := 9, code := some k10c1 }
def k10c2 : Code := { maxStack := 4, maxLocals := 4, code := jdk_41_method_12_code, exceptionTable := #[], attributes := #[] }
def k10m2 : Method := { name := "checkFromToIndex", desc := "(IIILjava/util/function/BiFunction;)I", sig := { parameters := [.int, .int, .int, (.object "java/util/function/BiFunction")], returnType := some .int }, accessFlags := 9, code := some k10c2 }
def k10c3 : Code := { maxStack := 4, maxLocals := 4, code := jdk_41_method_13_code, exceptionTable := #[], attributes := #[] }
def k10m3 : Method := { name := "checkFromIndexSize", desc := "(IIILjava/util/function/BiFunction;)I", sig := { parameters := [.int, .int, .int, (.object "java/util/function/BiFunction")], returnType := some .int }, accessFlags := 9, code := some k10c3 }
/-- jdk/internal/util/Preconditions -/
def k10 : Class := { plain "jdk/internal/util/Preconditions" (some 0) with
  accessFlags := 33
  interfaces := #[]
  cf := some (fileOf pool10 24 #[.nestMembers #[55, 131, 125, 114]] #[{ accessFlags := 1, nameIndex := 5, descriptorIndex := 6, attributes := #[] }, { accessFlags := 9, nameIndex := 33, descriptorIndex := 178, attributes := #[] }, { accessFlags := 9, nameIndex := 47, descriptorIndex := 183, attributes := #[] }, { accessFlags := 9, nameIndex := 49, descriptorIndex := 183, attributes := #[] }] 33 2 #[] #[{ accessFlags := 25, nameIndex := 123, descriptorIndex := 124, attributes := #[] }, { accessFlags := 25, nameIndex := 130, descriptorIndex := 124, attributes := #[] }, { accessFlags := 25, nameIndex := 136, descriptorIndex := 124, attributes := #[] }])
  fields := #[{ name := "SIOOBE_FORMATTER", type := (.object "java/util/function/BiFunction"), accessFlags := 25, slot := 0, constantValue := 0 }, { name := "AIOOBE_FORMATTER", type := (.object "java/util/function/BiFunction"), accessFlags := 25, slot := 1, constantValue := 0 }, { name := "IOOBE_FORMATTER", type := (.object "java/util/function/BiFunction"), accessFlags := 25, slot := 2, constantValue := 0 }]
  methods := #[k10m0, k10m1, k10m2, k10m3]
  instanceTypes := #[]
  staticTypes := #[(.object "java/util/function/BiFunction"), (.object "java/util/function/BiFunction"), (.object "java/util/function/BiFunction")]
  resolved := Array.replicate 194 none
  statics := some 2 }

def pool11 : Array CpInfo := pool [(1, .class_ 2), (0, u "java/lang/Character"), (18, u "value"), (0, u "C"), (19, .class_ 44), (1, u "java/lang/Object"), (3, .class_ 50), (1, u "java/lang/Character$CharacterCache"), (22, .integer 65536), (1, .integer 55296), (0, .integer 56320), (0, .integer 57344), (2, u "isHighSurrogate"), (0, u "(C)Z"), (2, u "isLowSurrogate"), (0, .integer 4238353408), (12, u "toCodePoint"), (0, u "(CC)I"), (74, u "(I)I"), (109, u "$assertionsDisabled"), (0, u "Z"), (21, .class_ 309), (1, u "java/lang/Character$UnicodeBlock"), (73, u "TYPE"), (0, u "Ljava/lang/Class;"), (0, .class_ 386), (0, u "java/io/Serializable"), (0, .class_ 388), (0, u "java/lang/Comparable"), (0, .class_ 390), (0, u "java/lang/constant/Constable"), (0, u "MIN_RADIX"), (0, u "I"), (2, u "MAX_RADIX"), (1, u "MIN_VALUE"), (1, u "MAX_VALUE"), (3, u "UNASSIGNED"), (0, u "B"), (0, u "UPPERCASE_LETTER"), (1, u "LOWERCASE_LETTER"), (0, u "TITLECASE_LETTER"), (1, u "MODIFIER_LETTER"), (1, u "OTHER_LETTER"), (1, u "NON_SPACING_MARK"), (1, u "ENCLOSING_MARK"), (1, u "COMBINING_SPACING_MARK"), (1, u "DECIMAL_DIGIT_NUMBER"), (1, u "LETTER_NUMBER"), (1, u "OTHER_NUMBER"), (1, u "SPACE_SEPARATOR"), (1, u "LINE_SEPARATOR"), (1, u "PARAGRAPH_SEPARATOR"), (1, u "CONTROL"), (1, u "FORMAT"), (1, u "PRIVATE_USE"), (1, u "SURROGATE"), (1, u "DASH_PUNCTUATION"), (1, u "START_PUNCTUATION"), (1, u "END_PUNCTUATION"), (1, u "CONNECTOR_PUNCTUATION"), (1, u "OTHER_PUNCTUATION"), (1, u "MATH_SYMBOL"), (1, u "CURRENCY_SYMBOL"), (1, u "MODIFIER_SYMBOL"), (1, u "OTHER_SYMBOL"), (1, u "INITIAL_QUOTE_PUNCTUATION"), (1, u "FINAL_QUOTE_PUNCTUATION"), (1, u "ERROR"), (1, u "DIRECTIONALITY_UNDEFINED"), (0, u "DIRECTIONALITY_LEFT_TO_RIGHT"), (0, u "DIRECTIONALITY_RIGHT_TO_LEFT"), (0, u "DIRECTIONALITY_RIGHT_TO_LEFT_ARABIC"), (0, u "DIRECTIONALITY_EUROPEAN_NUMBER"), (0, u "DIRECTIONALITY_EUROPEAN_NUMBER_SEPARATOR"), (0, u "DIRECTIONALITY_EUROPEAN_NUMBER_TERMINATOR"), (0, u "DIRECTIONALITY_ARABIC_NUMBER"), (0, u "DIRECTIONALITY_COMMON_NUMBER_SEPARATOR"), (0, u "DIRECTIONALITY_NONSPACING_MARK"), (0, u "DIRECTIONALITY_BOUNDARY_NEUTRAL"), (0, u "DIRECTIONALITY_PARAGRAPH_SEPARATOR"), (0, u "DIRECTIONALITY_SEGMENT_SEPARATOR"), (0, u "DIRECTIONALITY_WHITESPACE"), (0, u "DIRECTIONALITY_OTHER_NEUTRALS"), (0, u "DIRECTIONALITY_LEFT_TO_RIGHT_EMBEDDING"), (0, u "DIRECTIONALITY_LEFT_TO_RIGHT_OVERRIDE"), (0, u "DIRECTIONALITY_RIGHT_TO_LEFT_EMBEDDING"), (0, u "DIRECTIONALITY_RIGHT_TO_LEFT_OVERRIDE"), (1, u "DIRECTIONALITY_POP_DIRECTIONAL_FORMAT"), (0, u "DIRECTIONALITY_LEFT_TO_RIGHT_ISOLATE"), (0, u "DIRECTIONALITY_RIGHT_TO_LEFT_ISOLATE"), (0, u "DIRECTIONALITY_FIRST_STRONG_ISOLATE"), (0, u "DIRECTIONALITY_POP_DIRECTIONAL_ISOLATE"), (0, u "MIN_HIGH_SURROGATE"), (0, u "MAX_HIGH_SURROGATE"), (1, u "MIN_LOW_SURROGATE"), (0, u "MAX_LOW_SURROGATE"), (1, u "MIN_SURROGATE"), (0, u "MAX_SURROGATE"), (0, u "MIN_SUPPLEMENTARY_CODE_POINT"), (0, u "MIN_CODE_POINT"), (0, u "MAX_CODE_POINT"), (1, u "serialVersionUID"), (0, u "J"), (2, u "SIZE"), (0, u "BYTES"), (29, u "charCount"), (58, .class_ 596), (0, u "java/lang/Character$UnicodeScript"), (0, .class_ 598), (0, u "java/lang/Character$Subset")] 5

def k11c0 : Code := { maxStack := 2, maxLocals := 1, code := jdk_89_method_14_code, exceptionTable := #[], attributes := #[] }
def k11m0 : Method := { name := "isHighSurrogate", desc := "(C)Z", sig := { parameters := [.char], returnType := some .boolean }, accessFlags := 9, code := some k11c0 }
def k11c1 : Code := { maxStack := 2, maxLocals := 1, code := jdk_89_method_15_code, exceptionTable := #[], attributes := #[] }
def k11m1 : Method := { name := "isLowSurrogate", desc := "(C)Z", sig := { parameters := [.char], returnType := some .boolean }, accessFlags := 9, code := some k11c1 }
def k11c2 : Code := { maxStack := 2, maxLocals := 1, code := jdk_89_method_18_code, exceptionTable := #[], attributes := #[] }
def k11m2 : Method := { name := "charCount", desc := "(I)I", sig := { parameters := [.int], returnType := some .int }, accessFlags := 9, code := some k11c2 }
def k11c3 : Code := { maxStack := 2, maxLocals := 2, code := jdk_89_method_19_code, exceptionTable := #[], attributes := #[] }
def k11m3 : Method := { name := "toCodePoint", desc := "(CC)I", sig := { parameters := [.char, .char], returnType := some .int }, accessFlags := 9, code := some k11c3 }
/-- java/lang/Character -/
def k11 : Class := { plain "java/lang/Character" (some 0) with
  accessFlags := 49
  interfaces := #[2, 3, 5]
  cf := some (fileOf pool11 1 #[.nestMembers #[48, 595, 307, 597]] #[{ accessFlags := 9, nameIndex := 80, descriptorIndex := 81, attributes := #[] }, { accessFlags := 9, nameIndex := 84, descriptorIndex := 81, attributes := #[] }, { accessFlags := 9, nameIndex := 536, descriptorIndex := 174, attributes := #[] }, { accessFlags := 9, nameIndex := 98, descriptorIndex := 99, attributes := #[] }] 49 42 #[385, 387, 389] #[{ accessFlags := 25, nameIndex := 391, descriptorIndex := 392, attributes := #[] }, { accessFlags := 25, nameIndex := 395, descriptorIndex := 392, attributes := #[] }, { accessFlags := 25, nameIndex := 397, descriptorIndex := 22, attributes := #[] }, { accessFlags := 25, nameIndex := 399, descriptorIndex := 22, attributes := #[] }, { accessFlags := 25, nameIndex := 383, descriptorIndex := 384, attributes := #[] }, { accessFlags := 25, nameIndex := 403, descriptorIndex := 404, attributes := #[] }, { accessFlags := 25, nameIndex := 405, descriptorIndex := 404, attributes := #[] }, { accessFlags := 25, nameIndex := 407, descriptorIndex := 404, attributes := #[] }, { accessFlags := 25, nameIndex := 408, descriptorIndex := 404, attributes := #[] }, { accessFlags := 25, nameIndex := 410, descriptorIndex := 404, attributes := #[] }, { accessFlags := 25, nameIndex := 412, descriptorIndex := 404, attributes := #[] }, { accessFlags := 25, nameIndex := 414, descriptorIndex := 404, attributes := #[] }, { accessFlags := 25, nameIndex := 416, descriptorIndex := 404, attributes := #[] }, { accessFlags := 25, nameIndex := 418, descriptorIndex := 404, attributes := #[] }, { accessFlags := 25, nameIndex := 420, descriptorIndex := 404, attributes := #[] }, { accessFlags := 25, nameIndex := 422, descriptorIndex := 404, attributes := #[] }, { accessFlags := 25, nameIndex := 424, descriptorIndex := 404, attributes := #[] }, { accessFlags := 25, nameIndex := 426, descriptorIndex := 404, attributes := #[] }, { accessFlags := 25, nameIndex := 428, descriptorIndex := 404, attributes := #[] }, { accessFlags := 25, nameIndex := 430, descriptorIndex := 404, attributes := #[] }, { accessFlags := 25, nameIndex := 432, descriptorIndex := 404, attributes := #[] }, { accessFlags := 25, nameIndex := 434, descriptorIndex := 404, attributes := #[] }, { accessFlags := 25, nameIndex := 436, descriptorIndex := 404, attributes := #[] }, { accessFlags := 25, nameIndex := 438, descriptorIndex := 404, attributes := #[] }, { accessFlags := 25, nameIndex := 440, descriptorIndex := 404, attributes := #[] }, { accessFlags := 25, nameIndex := 442, descriptorIndex := 404, attributes := #[] }, { accessFlags := 25, nameIndex := 444, descriptorIndex := 404, attributes := #[] }, { accessFlags := 25, nameIndex := 446, descriptorIndex := 404, attributes := #[] }, { accessFlags := 25, nameIndex := 448, descriptorIndex := 404, attributes := #[] }, { accessFlags := 25, nameIndex := 450, descriptorIndex := 404, attributes := #[] }, { accessFlags := 25, nameIndex := 452, descriptorIndex := 404, attributes := #[] }, { accessFlags := 25, nameIndex := 454, descriptorIndex := 404, attributes := #[] }, { accessFlags := 25, nameIndex := 456, descriptorIndex := 404, attributes := #[] }, { accessFlags := 25, nameIndex := 458, descriptorIndex := 404, attributes := #[] }, { accessFlags := 25, nameIndex := 460, descriptorIndex := 404, attributes := #[] }, { accessFlags := 24, nameIndex := 462, descriptorIndex := 392, attributes := #[] }, { accessFlags := 25, nameIndex := 464, descriptorIndex := 404, attributes := #[] }, { accessFlags := 25, nameIndex := 465, descriptorIndex := 404, attributes := #[] }, { accessFlags := 25, nameIndex := 466, descriptorIndex := 404, attributes := #[] }, { accessFlags := 25, nameIndex := 467, descriptorIndex := 404, attributes := #[] }, { accessFlags := 25, nameIndex := 468, descriptorIndex := 404, attributes := #[] }, { accessFlags := 25, nameIndex := 469, descriptorIndex := 404, attributes := #[] }, { accessFlags := 25, nameIndex := 470, descriptorIndex := 404, attributes := #[] }, { accessFlags := 25, nameIndex := 471, descriptorIndex := 404, attributes := #[] }, { accessFlags := 25, nameIndex := 472, descriptorIndex := 404, attributes := #[] }, { accessFlags := 25, nameIndex := 473, descriptorIndex := 404, attributes := #[] }, { accessFlags := 25, nameIndex := 474, descriptorIndex := 404, attributes := #[] }, { accessFlags := 25, nameIndex := 475, descriptorIndex := 404, attributes := #[] }, { accessFlags := 25, nameIndex := 476, descriptorIndex := 404, attributes := #[] }, { accessFlags := 25, nameIndex := 477, descriptorIndex := 404, attributes := #[] }, { accessFlags := 25, nameIndex := 478, descriptorIndex := 404, attributes := #[] }, { accessFlags := 25, nameIndex := 479, descriptorIndex := 404, attributes := #[] }, { accessFlags := 25, nameIndex := 480, descriptorIndex := 404, attributes := #[] }, { accessFlags := 25, nameIndex := 481, descriptorIndex := 404, attributes := #[] }, { accessFlags := 25, nameIndex := 482, descriptorIndex := 404, attributes := #[] }, { accessFlags := 25, nameIndex := 484, descriptorIndex := 404, attributes := #[] }, { accessFlags := 25, nameIndex := 485, descriptorIndex := 404, attributes := #[] }, { accessFlags := 25, nameIndex := 486, descriptorIndex := 404, attributes := #[] }, { accessFlags := 25, nameIndex := 487, descriptorIndex := 404, attributes := #[] }, { accessFlags := 25, nameIndex := 488, descriptorIndex := 404, attributes := #[] }, { accessFlags := 25, nameIndex := 489, descriptorIndex := 22, attributes := #[] }, { accessFlags := 25, nameIndex := 490, descriptorIndex := 22, attributes := #[] }, { accessFlags := 25, nameIndex := 492, descriptorIndex := 22, attributes := #[] }, { accessFlags := 25, nameIndex := 493, descriptorIndex := 22, attributes := #[] }, { accessFlags := 25, nameIndex := 495, descriptorIndex := 22, attributes := #[] }, { accessFlags := 25, nameIndex := 496, descriptorIndex := 22, attributes := #[] }, { accessFlags := 25, nameIndex := 497, descriptorIndex := 392, attributes := #[] }, { accessFlags := 25, nameIndex := 498, descriptorIndex := 392, attributes := #[] }, { accessFlags := 25, nameIndex := 499, descriptorIndex := 392, attributes := #[] }, { accessFlags := 18, nameIndex := 21, descriptorIndex := 22, attributes := #[] }, { accessFlags := 26, nameIndex := 501, descriptorIndex := 502, attributes := #[] }, { accessFlags := 25, nameIndex := 505, descriptorIndex := 392, attributes := #[] }, { accessFlags := 25, nameIndex := 506, descriptorIndex := 392, attributes := #[] }, { accessFlags := 4120, nameIndex := 284, descriptorIndex := 285, attributes := #[] }])
  fields := #[{ name := "MIN_RADIX", type := .int, accessFlags := 25, slot := 0, constantValue := 0 }, { name := "MAX_RADIX", type := .int, accessFlags := 25, slot := 1, constantValue := 0 }, { name := "MIN_VALUE", type := .char, accessFlags := 25, slot := 2, constantValue := 0 }, { name := "MAX_VALUE", type := .char, accessFlags := 25, slot := 3, constantValue := 0 }, { name := "TYPE", type := (.object "java/lang/Class"), accessFlags := 25, slot := 4, constantValue := 0 }, { name := "UNASSIGNED", type := .byte, accessFlags := 25, slot := 5, constantValue := 0 }, { name := "UPPERCASE_LETTER", type := .byte, accessFlags := 25, slot := 6, constantValue := 0 }, { name := "LOWERCASE_LETTER", type := .byte, accessFlags := 25, slot := 7, constantValue := 0 }, { name := "TITLECASE_LETTER", type := .byte, accessFlags := 25, slot := 8, constantValue := 0 }, { name := "MODIFIER_LETTER", type := .byte, accessFlags := 25, slot := 9, constantValue := 0 }, { name := "OTHER_LETTER", type := .byte, accessFlags := 25, slot := 10, constantValue := 0 }, { name := "NON_SPACING_MARK", type := .byte, accessFlags := 25, slot := 11, constantValue := 0 }, { name := "ENCLOSING_MARK", type := .byte, accessFlags := 25, slot := 12, constantValue := 0 }, { name := "COMBINING_SPACING_MARK", type := .byte, accessFlags := 25, slot := 13, constantValue := 0 }, { name := "DECIMAL_DIGIT_NUMBER", type := .byte, accessFlags := 25, slot := 14, constantValue := 0 }, { name := "LETTER_NUMBER", type := .byte, accessFlags := 25, slot := 15, constantValue := 0 }, { name := "OTHER_NUMBER", type := .byte, accessFlags := 25, slot := 16, constantValue := 0 }, { name := "SPACE_SEPARATOR", type := .byte, accessFlags := 25, slot := 17, constantValue := 0 }, { name := "LINE_SEPARATOR", type := .byte, accessFlags := 25, slot := 18, constantValue := 0 }, { name := "PARAGRAPH_SEPARATOR", type := .byte, accessFlags := 25, slot := 19, constantValue := 0 }, { name := "CONTROL", type := .byte, accessFlags := 25, slot := 20, constantValue := 0 }, { name := "FORMAT", type := .byte, accessFlags := 25, slot := 21, constantValue := 0 }, { name := "PRIVATE_USE", type := .byte, accessFlags := 25, slot := 22, constantValue := 0 }, { name := "SURROGATE", type := .byte, accessFlags := 25, slot := 23, constantValue := 0 }, { name := "DASH_PUNCTUATION", type := .byte, accessFlags := 25, slot := 24, constantValue := 0 }, { name := "START_PUNCTUATION", type := .byte, accessFlags := 25, slot := 25, constantValue := 0 }, { name := "END_PUNCTUATION", type := .byte, accessFlags := 25, slot := 26, constantValue := 0 }, { name := "CONNECTOR_PUNCTUATION", type := .byte, accessFlags := 25, slot := 27, constantValue := 0 }, { name := "OTHER_PUNCTUATION", type := .byte, accessFlags := 25, slot := 28, constantValue := 0 }, { name := "MATH_SYMBOL", type := .byte, accessFlags := 25, slot := 29, constantValue := 0 }, { name := "CURRENCY_SYMBOL", type := .byte, accessFlags := 25, slot := 30, constantValue := 0 }, { name := "MODIFIER_SYMBOL", type := .byte, accessFlags := 25, slot := 31, constantValue := 0 }, { name := "OTHER_SYMBOL", type := .byte, accessFlags := 25, slot := 32, constantValue := 0 }, { name := "INITIAL_QUOTE_PUNCTUATION", type := .byte, accessFlags := 25, slot := 33, constantValue := 0 }, { name := "FINAL_QUOTE_PUNCTUATION", type := .byte, accessFlags := 25, slot := 34, constantValue := 0 }, { name := "ERROR", type := .int, accessFlags := 24, slot := 35, constantValue := 0 }, { name := "DIRECTIONALITY_UNDEFINED", type := .byte, accessFlags := 25, slot := 36, constantValue := 0 }, { name := "DIRECTIONALITY_LEFT_TO_RIGHT", type := .byte, accessFlags := 25, slot := 37, constantValue := 0 }, { name := "DIRECTIONALITY_RIGHT_TO_LEFT", type := .byte, accessFlags := 25, slot := 38, constantValue := 0 }, { name := "DIRECTIONALITY_RIGHT_TO_LEFT_ARABIC", type := .byte, accessFlags := 25, slot := 39, constantValue := 0 }, { name := "DIRECTIONALITY_EUROPEAN_NUMBER", type := .byte, accessFlags := 25, slot := 40, constantValue := 0 }, { name := "DIRECTIONALITY_EUROPEAN_NUMBER_SEPARATOR", type := .byte, accessFlags := 25, slot := 41, constantValue := 0 }, { name := "DIRECTIONALITY_EUROPEAN_NUMBER_TERMINATOR", type := .byte, accessFlags := 25, slot := 42, constantValue := 0 }, { name := "DIRECTIONALITY_ARABIC_NUMBER", type := .byte, accessFlags := 25, slot := 43, constantValue := 0 }, { name := "DIRECTIONALITY_COMMON_NUMBER_SEPARATOR", type := .byte, accessFlags := 25, slot := 44, constantValue := 0 }, { name := "DIRECTIONALITY_NONSPACING_MARK", type := .byte, accessFlags := 25, slot := 45, constantValue := 0 }, { name := "DIRECTIONALITY_BOUNDARY_NEUTRAL", type := .byte, accessFlags := 25, slot := 46, constantValue := 0 }, { name := "DIRECTIONALITY_PARAGRAPH_SEPARATOR", type := .byte, accessFlags := 25, slot := 47, constantValue := 0 }, { name := "DIRECTIONALITY_SEGMENT_SEPARATOR", type := .byte, accessFlags := 25, slot := 48, constantValue := 0 }, { name := "DIRECTIONALITY_WHITESPACE", type := .byte, accessFlags := 25, slot := 49, constantValue := 0 }, { name := "DIRECTIONALITY_OTHER_NEUTRALS", type := .byte, accessFlags := 25, slot := 50, constantValue := 0 }, { name := "DIRECTIONALITY_LEFT_TO_RIGHT_EMBEDDING", type := .byte, accessFlags := 25, slot := 51, constantValue := 0 }, { name := "DIRECTIONALITY_LEFT_TO_RIGHT_OVERRIDE", type := .byte, accessFlags := 25, slot := 52, constantValue := 0 }, { name := "DIRECTIONALITY_RIGHT_TO_LEFT_EMBEDDING", type := .byte, accessFlags := 25, slot := 53, constantValue := 0 }, { name := "DIRECTIONALITY_RIGHT_TO_LEFT_OVERRIDE", type := .byte, accessFlags := 25, slot := 54, constantValue := 0 }, { name := "DIRECTIONALITY_POP_DIRECTIONAL_FORMAT", type := .byte, accessFlags := 25, slot := 55, constantValue := 0 }, { name := "DIRECTIONALITY_LEFT_TO_RIGHT_ISOLATE", type := .byte, accessFlags := 25, slot := 56, constantValue := 0 }, { name := "DIRECTIONALITY_RIGHT_TO_LEFT_ISOLATE", type := .byte, accessFlags := 25, slot := 57, constantValue := 0 }, { name := "DIRECTIONALITY_FIRST_STRONG_ISOLATE", type := .byte, accessFlags := 25, slot := 58, constantValue := 0 }, { name := "DIRECTIONALITY_POP_DIRECTIONAL_ISOLATE", type := .byte, accessFlags := 25, slot := 59, constantValue := 0 }, { name := "MIN_HIGH_SURROGATE", type := .char, accessFlags := 25, slot := 60, constantValue := 0 }, { name := "MAX_HIGH_SURROGATE", type := .char, accessFlags := 25, slot := 61, constantValue := 0 }, { name := "MIN_LOW_SURROGATE", type := .char, accessFlags := 25, slot := 62, constantValue := 0 }, { name := "MAX_LOW_SURROGATE", type := .char, accessFlags := 25, slot := 63, constantValue := 0 }, { name := "MIN_SURROGATE", type := .char, accessFlags := 25, slot := 64, constantValue := 0 }, { name := "MAX_SURROGATE", type := .char, accessFlags := 25, slot := 65, constantValue := 0 }, { name := "MIN_SUPPLEMENTARY_CODE_POINT", type := .int, accessFlags := 25, slot := 66, constantValue := 0 }, { name := "MIN_CODE_POINT", type := .int, accessFlags := 25, slot := 67, constantValue := 0 }, { name := "MAX_CODE_POINT", type := .int, accessFlags := 25, slot := 68, constantValue := 0 }, { name := "value", type := .char, accessFlags := 18, slot := 0, constantValue := 0 }, { name := "serialVersionUID", type := .long, accessFlags := 26, slot := 69, constantValue := 0 }, { name := "SIZE", type := .int, accessFlags := 25, slot := 70, constantValue := 0 }, { name := "BYTES", type := .int, accessFlags := 25, slot := 71, constantValue := 0 }, { name := "$assertionsDisabled", type := .boolean, accessFlags := 4120, slot := 72, constantValue := 0 }]
  methods := #[k11m0, k11m1, k11m2, k11m3]
  instanceTypes := #[.char]
  staticTypes := #[.int, .int, .char, .char, (.object "java/lang/Class"), .byte, .byte, .byte, .byte, .byte, .byte, .byte, .byte, .byte, .byte, .byte, .byte, .byte, .byte, .byte, .byte, .byte, .byte, .byte, .byte, .byte, .byte, .byte, .byte, .byte, .byte, .byte, .byte, .byte, .byte, .int, .byte, .byte, .byte, .byte, .byte, .byte, .byte, .byte, .byte, .byte, .byte, .byte, .byte, .byte, .byte, .byte, .byte, .byte, .byte, .byte, .byte, .byte, .byte, .byte, .char, .char, .char, .char, .char, .char, .int, .int, .int, .long, .int, .int, .boolean]
  resolved := Array.replicate 604 none
  statics := none }

def pool12 : Array CpInfo := pool [(1, .class_ 2), (0, u "java/lang/Appendable"), (0, .class_ 4), (0, u "java/lang/Object")] 9

/-- java/lang/Appendable -/
def k12 : Class := { plain "java/lang/Appendable" (some 0) with
  accessFlags := 1537
  interfaces := #[]
  cf := some (fileOf pool12 1 #[] #[] 1537 3 #[] #[])
  fields := #[]
  methods := #[]
  instanceTypes := #[]
  staticTypes := #[]
  resolved := Array.replicate 14 none
  statics := none }

def pool13 : Array CpInfo := pool [(1, .class_ 2), (0, u "java/lang/String"), (0, .methodref 4 5), (0, .class_ 6), (0, .nameAndType 7 8), (0, u "java/lang/Object"), (0, u "<init>"), (0, u "()V"), (1, .class_ 12), (1, u "java/lang/AbstractStringBuilder"), (0, u "EMPTYVALUE"), (0, u "[B"), (0, .fieldref 10 16), (0, .nameAndType 17 14), (0, u "value"), (0, .fieldref 1 19), (0, .nameAndType 20 21), (0, u "COMPACT_STRINGS"), (0, u "Z"), (0, .fieldref 10 23), (0, .nameAndType 24 25), (0, u "coder"), (0, u "B"), (0, .methodref 27 28), (0, .class_ 29), (0, .nameAndType 30 31), (0, u "java/lang/StringUTF16"), (0, u "newBytesFor"), (0, u "(I)[B"), (0, .methodref 1 33), (0, .nameAndType 34 35), (0, u "length"), (0, u "()I"), (3, .integer 2147483647), (0, .methodref 1 41), (0, .nameAndType 24 42), (0, u "()B"), (2, u "append"), (0, u "(Ljava/lang/String;)Ljava/lang/AbstractStringBuilder;"), (1, .class_ 49), (0, u "java/lang/CharSequence"), (19, u "(Ljava/lang/String;)V"), (5, u "maybeLatin1"), (3, .fieldref 10 80), (0, .nameAndType 81 82), (0, u "count"), (0, u "I"), (0, .methodref 10 84), (0, .nameAndType 85 86), (0, u "isLatin1"), (0, u "()Z"), (1, .class_ 90), (1, u "java/lang/StringLatin1"), (9, .methodref 10 101), (0, .nameAndType 102 103), (0, u "ensureCapacityInternal"), (0, u "(I)V"), (0, .methodref 10 105), (0, .nameAndType 106 107), (0, u "newCapacity"), (0, u "(I)I"), (0, .methodref 109 110), (0, .class_ 111), (0, .nameAndType 112 113), (0, u "java/util/Arrays"), (0, u "copyOf"), (0, u "([BI)[B"), (0, .methodref 115 116), (0, .class_ 117), (0, .nameAndType 118 119), (0, u "jdk/internal/util/ArraysSupport"), (0, u "newLength"), (0, u "(III)I"), (5, .methodref 88 126), (0, .nameAndType 127 128), (0, u "inflate"), (0, u "([BI[BII)V"), (66, .methodref 10 196), (0, .nameAndType 127 8), (11, .methodref 10 209), (0, .nameAndType 210 211), (0, u "putStringAt"), (0, u "(ILjava/lang/String;)V"), (5, u "inflateIfNeededFor"), (2, .nameAndType 221 222), (0, u "getBytes"), (0, u "([BIB)V"), (174, .methodref 10 398), (0, .nameAndType 217 69), (0, .methodref 1 220), (3, u "()[B"), (40, .class_ 445), (0, u "java/lang/Appendable"), (106, u "getValue")] 56

def k13m0 : Method := { name := "<init>", desc := "()V", sig := { parameters := [], returnType := none }, accessFlags := 0, code := none }
def k13c1 : Code := { maxStack := 2, maxLocals := 2, code := jdk_68_method_2_code, exceptionTable := #[], attributes := #[] }
def k13m1 : Method := { name := "<init>", desc := "(I)V", sig := { parameters := [.int], returnType := none }, accessFlags := 0, code := some k13c1 }
def k13c2 : Code := { maxStack := 1, maxLocals := 1, code := jdk_68_method_6_code, exceptionTable := #[], attributes := #[] }
def k13m2 : Method := { name := "length", desc := "()I", sig := { parameters := [], returnType := some .int }, accessFlags := 1, code := some k13c2 }
def k13c3 : Code := { maxStack := 4, maxLocals := 3, code := jdk_68_method_9_code, exceptionTable := #[], attributes := #[] }
def k13m3 : Method := { name := "ensureCapacityInternal", desc := "(I)V", sig := { parameters := [.int], returnType := none }, accessFlags := 2, code := some k13c3 }
def k13c4 : Code := { maxStack := 5, maxLocals := 6, code := jdk_68_method_10_code, exceptionTable := #[], attributes := #[] }
def k13m4 : Method := { name := "newCapacity", desc := "(I)I", sig := { parameters := [.int], returnType := some .int }, accessFlags := 2, code := some k13c4 }
def k13c5 : Code := { maxStack := 5, maxLocals := 2, code := jdk_68_method_11_code, exceptionTable := #[], attributes := #[] }
def k13m5 : Method := { name := "inflate", desc := "()V", sig := { parameters := [], returnType := none }, accessFlags := 2, code := some k13c5 }
def k13c6 : Code := { maxStack := 3, maxLocals := 3, code := jdk_68_method_22_code, exceptionTable := #[], attributes := #[] }
def k13m6 : Method := { name := "append", desc := "(Ljava/lang/String;)Ljava/lang/AbstractStringBuilder;", sig := { parameters := [(.object "java/lang/String")], returnType := some (.object "java/lang/AbstractStringBuilder") }, accessFlags := 1, code := some k13c6 }
def k13c7 : Code := { maxStack := 1, maxLocals := 1, code := jdk_68_method_64_code, exceptionTable := #[], attributes := #[] }
def k13m7 : Method := { name := "getValue", desc := "()[B", sig := { parameters := [], returnType := some (.array .byte) }, accessFlags := 16, code := some k13c7 }
def k13c8 : Code := { maxStack := 1, maxLocals := 1, code := jdk_68_method_68_code, exceptionTable := #[], attributes := #[] }
def k13m8 : Method := { name := "isLatin1", desc := "()Z", sig := { parameters := [], returnType := some .boolean }, accessFlags := 16, code := some k13c8 }
def k13c9 : Code := { maxStack := 2, maxLocals := 2, code := jdk_68_method_71_code, exceptionTable := #[], attributes := #[] }
def k13m9 : Method := { name := "inflateIfNeededFor", desc := "(Ljava/lang/String;)V", sig := { parameters := [(.object "java/lang/String")], returnType := none }, accessFlags := 2, code := some k13c9 }
def k13c10 : Code := { maxStack := 4, maxLocals := 3, code := jdk_68_method_73_code, exceptionTable := #[], attributes := #[] }
def k13m10 : Method := { name := "putStringAt", desc := "(ILjava/lang/String;)V", sig := { parameters := [.int, (.object "java/lang/String")], returnType := none }, accessFlags := 2, code := some k13c10 }
/-- java/lang/AbstractStringBuilder -/
def k13 : Class := { plain "java/lang/AbstractStringBuilder" (some 0) with
  accessFlags := 1056
  interfaces := #[12, 4]
  cf := some (fileOf pool13 10 #[] #[{ accessFlags := 0, nameIndex := 7, descriptorIndex := 8, attributes := #[] }, { accessFlags := 0, nameIndex := 7, descriptorIndex := 103, attributes := #[] }, { accessFlags := 1, nameIndex := 34, descriptorIndex := 35, attributes := #[] }, { accessFlags := 2, nameIndex := 102, descriptorIndex := 103, attributes := #[] }, { accessFlags := 2, nameIndex := 106, descriptorIndex := 107, attributes := #[] }, { accessFlags := 2, nameIndex := 127, descriptorIndex := 8, attributes := #[] }, { accessFlags := 1, nameIndex := 45, descriptorIndex := 46, attributes := #[] }, { accessFlags := 16, nameIndex := 552, descriptorIndex := 403, attributes := #[] }, { accessFlags := 16, nameIndex := 85, descriptorIndex := 86, attributes := #[] }, { accessFlags := 2, nameIndex := 217, descriptorIndex := 69, attributes := #[] }, { accessFlags := 2, nameIndex := 210, descriptorIndex := 211, attributes := #[] }] 1056 4 #[444, 48] #[{ accessFlags := 0, nameIndex := 17, descriptorIndex := 14, attributes := #[] }, { accessFlags := 0, nameIndex := 24, descriptorIndex := 25, attributes := #[] }, { accessFlags := 0, nameIndex := 75, descriptorIndex := 21, attributes := #[] }, { accessFlags := 0, nameIndex := 81, descriptorIndex := 82, attributes := #[] }, { accessFlags := 26, nameIndex := 13, descriptorIndex := 14, attributes := #[] }])
  fields := #[{ name := "value", type := (.array .byte), accessFlags := 0, slot := 0, constantValue := 0 }, { name := "coder", type := .byte, accessFlags := 0, slot := 1, constantValue := 0 }, { name := "maybeLatin1", type := .boolean, accessFlags := 0, slot := 2, constantValue := 0 }, { name := "count", type := .int, accessFlags := 0, slot := 3, constantValue := 0 }, { name := "EMPTYVALUE", type := (.array .byte), accessFlags := 26, slot := 0, constantValue := 0 }]
  methods := #[k13m0, k13m1, k13m2, k13m3, k13m4, k13m5, k13m6, k13m7, k13m8, k13m9, k13m10]
  instanceTypes := #[(.array .byte), .byte, .boolean, .int]
  staticTypes := #[(.array .byte)]
  resolved := Array.replicate 609 none
  statics := none }

def pool14 : Array CpInfo := pool [(1, .methodref 2 3), (0, .class_ 4), (0, .nameAndType 5 6), (0, u "java/lang/AbstractStringBuilder"), (0, u "<init>"), (0, u "(I)V"), (11, .class_ 20), (1, u "java/lang/String"), (3, .class_ 26), (1, u "java/lang/StringBuilder"), (0, u "append"), (0, u "(Ljava/lang/String;)Ljava/lang/StringBuilder;"), (0, .methodref 2 30), (0, .nameAndType 27 31), (0, u "(Ljava/lang/String;)Ljava/lang/AbstractStringBuilder;"), (105, .methodref 18 138), (0, .nameAndType 5 139), (0, u "(Ljava/lang/StringBuilder;)V"), (5, u "()V"), (10, u "()I"), (186, .methodref 2 344), (0, .nameAndType 345 156), (0, u "length"), (3, .class_ 350), (0, u "java/lang/Appendable"), (0, .class_ 352), (0, u "java/io/Serializable"), (0, .class_ 354), (0, u "java/lang/Comparable"), (0, .class_ 356), (0, u "java/lang/CharSequence"), (0, u "serialVersionUID"), (0, u "J"), (40, u "toString"), (0, u "()Ljava/lang/String;")] 21

def k14c0 : Code := { maxStack := 2, maxLocals := 1, code := jdk_67_method_1_code, exceptionTable := #[], attributes := #[] }
def k14m0 : Method := { name := "<init>", desc := "()V", sig := { parameters := [], returnType := none }, accessFlags := 1, code := some k14c0 }
def k14c1 : Code := { maxStack := 2, maxLocals := 2, code := jdk_67_method_7_code, exceptionTable := #[], attributes := #[] }
def k14m1 : Method := { name := "append", desc := "(Ljava/lang/String;)Ljava/lang/StringBuilder;", sig := { parameters := [(.object "java/lang/String")], returnType := some (.object "java/lang/StringBuilder") }, accessFlags := 1, code := some k14c1 }
def k14c2 : Code := { maxStack := 3, maxLocals := 1, code := jdk_67_method_42_code, exceptionTable := #[], attributes := #[] }
def k14m2 : Method := { name := "toString", desc := "()Ljava/lang/String;", sig := { parameters := [], returnType := some (.object "java/lang/String") }, accessFlags := 1, code := some k14c2 }
def k14c3 : Code := { maxStack := 1, maxLocals := 1, code := jdk_67_method_93_code, exceptionTable := #[], attributes := #[] }
def k14m3 : Method := { name := "length", desc := "()I", sig := { parameters := [], returnType := some .int }, accessFlags := 4161, code := some k14c3 }
/-- java/lang/StringBuilder -/
def k14 : Class := { plain "java/lang/StringBuilder" (some 13) with
  accessFlags := 49
  interfaces := #[12, 2, 3, 4]
  cf := some (fileOf pool14 24 #[] #[{ accessFlags := 1, nameIndex := 5, descriptorIndex := 145, attributes := #[] }, { accessFlags := 1, nameIndex := 27, descriptorIndex := 28, attributes := #[] }, { accessFlags := 1, nameIndex := 399, descriptorIndex := 400, attributes := #[] }, { accessFlags := 4161, nameIndex := 345, descriptorIndex := 156, attributes := #[] }] 49 2 #[349, 351, 353, 355] #[{ accessFlags := 24, nameIndex := 357, descriptorIndex := 358, attributes := #[] }])
  fields := #[{ name := "serialVersionUID", type := .long, accessFlags := 24, slot := 0, constantValue := 0 }]
  methods := #[k14m0, k14m1, k14m2, k14m3]
  instanceTypes := #[(.array .byte), .byte, .boolean, .int]
  staticTypes := #[.long]
  resolved := Array.replicate 422 none
  statics := none }

def pool15 : Array CpInfo := pool [(1, .class_ 2), (0, u "java/lang/String"), (1, .class_ 6), (1, u "java/lang/Object"), (0, u "<init>"), (0, u "()V"), (0, .methodref 1 10), (0, .nameAndType 11 12), (0, u "checkIndex"), (0, u "(II)V"), (1, .class_ 16), (1, u "java/lang/StringLatin1"), (0, u "inflate"), (2, .class_ 22), (1, u "java/lang/StringUTF16"), (3, .nameAndType 17 27), (0, u "([BI[BII)V"), (25, u "([BI)C"), (58, .methodref 1 113), (0, .nameAndType 7 114), (0, u "([BB)V"), (6, u "$assertionsDisabled"), (0, u "Z"), (8, .class_ 133), (1, u "java/util/Arrays"), (62, u "newString"), (0, u "([BII)Ljava/lang/String;"), (23, .class_ 223), (1, u "java/lang/StringLatin1$LinesSpliterator"), (8, .methodref 131 233), (0, .nameAndType 234 235), (0, u "copyOfRange"), (0, u "([BII)[B"), (4, .methodref 20 26), (11, u "charAt"), (137, .class_ 391), (0, u "java/lang/StringLatin1$CharsSpliterator")] 3

def k15m0 : Method := { name := "<init>", desc := "()V", sig := { parameters := [], returnType := none }, accessFlags := 0, code := none }
def k15c1 : Code := { maxStack := 2, maxLocals := 2, code := jdk_43_method_2_code, exceptionTable := #[], attributes := #[] }
def k15m1 : Method := { name := "charAt", desc := "([BI)C", sig := { parameters := [(.array .byte), .int], returnType := some .char }, accessFlags := 9, code := some k15c1 }
def k15c2 : Code := { maxStack := 6, maxLocals := 3, code := jdk_43_method_47_code, exceptionTable := #[], attributes := #[] }
def k15m2 : Method := { name := "newString", desc := "([BII)Ljava/lang/String;", sig := { parameters := [(.array .byte), .int, .int], returnType := some (.object "java/lang/String") }, accessFlags := 9, code := some k15c2 }
def k15c3 : Code := { maxStack := 5, maxLocals := 5, code := jdk_43_method_50_code, exceptionTable := #[], attributes := #[] }
def k15m3 : Method := { name := "inflate", desc := "([BI[BII)V", sig := { parameters := [(.array .byte), .int, (.array .byte), .int, .int], returnType := none }, accessFlags := 9, code := some k15c3 }
/-- java/lang/StringLatin1 -/
def k15 : Class := { plain "java/lang/StringLatin1" (some 0) with
  accessFlags := 48
  interfaces := #[]
  cf := some (fileOf pool15 14 #[.nestMembers #[390, 221]] #[{ accessFlags := 0, nameIndex := 7, descriptorIndex := 8, attributes := #[] }, { accessFlags := 9, nameIndex := 252, descriptorIndex := 53, attributes := #[] }, { accessFlags := 9, nameIndex := 196, descriptorIndex := 197, attributes := #[] }, { accessFlags := 9, nameIndex := 17, descriptorIndex := 27, attributes := #[] }] 48 4 #[] #[{ accessFlags := 4120, nameIndex := 121, descriptorIndex := 122, attributes := #[] }])
  fields := #[{ name := "$assertionsDisabled", type := .boolean, accessFlags := 4120, slot := 0, constantValue := 0 }]
  methods := #[k15m0, k15m1, k15m2, k15m3]
  instanceTypes := #[]
  staticTypes := #[.boolean]
  resolved := Array.replicate 395 none
  statics := none }

def pool16 : Array CpInfo := pool [(2, .class_ 4), (1, u "java/lang/Object"), (0, u "<init>"), (0, u "()V"), (7, .class_ 16), (1, u "java/util/Arrays"), (57, .class_ 76), (1, u "java/util/Arrays$NaturalOrder"), (36, .class_ 115), (1, u "java/util/Arrays$LegacyMergeSort"), (1, u "Z"), (21, u "copyOfRange"), (10, .methodref 151 152), (0, .class_ 153), (0, .nameAndType 154 155), (0, u "java/lang/System"), (0, u "arraycopy"), (0, u "(Ljava/lang/Object;ILjava/lang/Object;II)V"), (146, u "copyOf"), (1, .methodref 305 306), (0, .class_ 307), (0, .nameAndType 308 309), (0, u "java/lang/Math"), (0, u "min"), (0, u "(II)I"), (29, .methodref 14 340), (0, .nameAndType 341 342), (0, u "copyOfRangeByte"), (0, u "([BII)[B"), (0, .methodref 14 344), (0, .nameAndType 345 346), (0, u "checkLength"), (0, u "(II)V"), (28, .class_ 376), (0, u "java/util/Arrays$ArrayList"), (68, u "$assertionsDisabled"), (269, u "MIN_ARRAY_SORT_GRAN"), (0, u "I"), (2, u "INSERTIONSORT_THRESHOLD"), (149, u "([BI)[B"), (105, .class_ 976), (0, u "java/util/Arrays$ArrayItr")] 52

def k16m0 : Method := { name := "<init>", desc := "()V", sig := { parameters := [], returnType := none }, accessFlags := 2, code := none }
def k16c1 : Code := { maxStack := 6, maxLocals := 3, code := jdk_65_method_121_code, exceptionTable := #[], attributes := #[] }
def k16m1 : Method := { name := "copyOf", desc := "([BI)[B", sig := { parameters := [(.array .byte), .int], returnType := some (.array .byte) }, accessFlags := 9, code := some k16c1 }
def k16c2 : Code := { maxStack := 4, maxLocals := 2, code := jdk_65_method_131_code, exceptionTable := #[], attributes := #[] }
def k16m2 : Method := { name := "checkLength", desc := "(II)V", sig := { parameters := [.int, .int], returnType := none }, accessFlags := 10, code := some k16c2 }
def k16c3 : Code := { maxStack := 3, maxLocals := 3, code := jdk_65_method_132_code, exceptionTable := #[], attributes := #[] }
def k16m3 : Method := { name := "copyOfRange", desc := "([BII)[B", sig := { parameters := [(.array .byte), .int, .int], returnType := some (.array .byte) }, accessFlags := 9, code := some k16c3 }
def k16c4 : Code := { maxStack := 6, maxLocals := 5, code := jdk_65_method_133_code, exceptionTable := #[], attributes := #[] }
def k16m4 : Method := { name := "copyOfRangeByte", desc := "([BII)[B", sig := { parameters := [(.array .byte), .int, .int], returnType := some (.array .byte) }, accessFlags := 10, code := some k16c4 }
/-- java/util/Arrays -/
def k16 : Class := { plain "java/util/Arrays" (some 0) with
  accessFlags := 49
  interfaces := #[]
  cf := some (fileOf pool16 14 #[.nestMembers #[975, 375, 113, 74]] #[{ accessFlags := 2, nameIndex := 5, descriptorIndex := 6, attributes := #[] }, { accessFlags := 9, nameIndex := 302, descriptorIndex := 869, attributes := #[] }, { accessFlags := 10, nameIndex := 345, descriptorIndex := 346, attributes := #[] }, { accessFlags := 9, nameIndex := 139, descriptorIndex := 342, attributes := #[] }, { accessFlags := 10, nameIndex := 341, descriptorIndex := 342, attributes := #[] }] 49 2 #[] #[{ accessFlags := 26, nameIndex := 715, descriptorIndex := 716, attributes := #[] }, { accessFlags := 26, nameIndex := 719, descriptorIndex := 716, attributes := #[] }, { accessFlags := 4120, nameIndex := 445, descriptorIndex := 117, attributes := #[] }])
  fields := #[{ name := "MIN_ARRAY_SORT_GRAN", type := .int, accessFlags := 26, slot := 0, constantValue := 0 }, { name := "INSERTIONSORT_THRESHOLD", type := .int, accessFlags := 26, slot := 1, constantValue := 0 }, { name := "$assertionsDisabled", type := .boolean, accessFlags := 4120, slot := 2, constantValue := 0 }]
  methods := #[k16m0, k16m1, k16m2, k16m3, k16m4]
  instanceTypes := #[]
  staticTypes := #[.int, .int, .boolean]
  resolved := Array.replicate 1029 none
  statics := none }

def pool17 : Array CpInfo := pool [(1, .class_ 2), (0, u "java/lang/Math"), (1, .class_ 6), (1, u "java/lang/Object"), (0, u "<init>"), (0, u "()V"), (89, .class_ 100), (1, u "java/lang/Math$RandomNumberGeneratorHolder"), (71, u "negativeZeroFloatBits"), (0, u "J"), (2, u "negativeZeroDoubleBits"), (21, u "max"), (2, u "min"), (43, u "$assertionsDisabled"), (0, u "Z"), (88, u "(II)I"), (2, u "twoToTheDoubleScaleDown"), (0, u "D"), (4, u "twoToTheDoubleScaleUp"), (9, u "E"), (3, u "PI"), (2, u "TAU"), (2, u "DEGREES_TO_RADIANS"), (0, u "RADIANS_TO_DEGREES")] 94

def k17m0 : Method := { name := "<init>", desc := "()V", sig := { parameters := [], returnType := none }, accessFlags := 2, code := none }
def k17c1 : Code := { maxStack := 2, maxLocals := 2, code := jdk_29_method_65_code, exceptionTable := #[], attributes := #[] }
def k17m1 : Method := { name := "max", desc := "(II)I", sig := { parameters := [.int, .int], returnType := some .int }, accessFlags := 9, code := some k17c1 }
def k17c2 : Code := { maxStack := 2, maxLocals := 2, code := jdk_29_method_69_code, exceptionTable := #[], attributes := #[] }
def k17m2 : Method := { name := "min", desc := "(II)I", sig := { parameters := [.int, .int], returnType := some .int }, accessFlags := 9, code := some k17c2 }
/-- java/lang/Math -/
def k17 : Class := { plain "java/lang/Math" (some 0) with
  accessFlags := 49
  interfaces := #[]
  cf := some (fileOf pool17 1 #[.nestMembers #[98]] #[{ accessFlags := 2, nameIndex := 7, descriptorIndex := 8, attributes := #[] }, { accessFlags := 9, nameIndex := 198, descriptorIndex := 335, attributes := #[] }, { accessFlags := 9, nameIndex := 201, descriptorIndex := 335, attributes := #[] }] 49 4 #[] #[{ accessFlags := 25, nameIndex := 354, descriptorIndex := 339, attributes := #[] }, { accessFlags := 25, nameIndex := 358, descriptorIndex := 339, attributes := #[] }, { accessFlags := 25, nameIndex := 361, descriptorIndex := 339, attributes := #[] }, { accessFlags := 26, nameIndex := 364, descriptorIndex := 339, attributes := #[] }, { accessFlags := 26, nameIndex := 365, descriptorIndex := 339, attributes := #[] }, { accessFlags := 26, nameIndex := 172, descriptorIndex := 173, attributes := #[] }, { accessFlags := 26, nameIndex := 176, descriptorIndex := 173, attributes := #[] }, { accessFlags := 8, nameIndex := 344, descriptorIndex := 339, attributes := #[] }, { accessFlags := 8, nameIndex := 338, descriptorIndex := 339, attributes := #[] }, { accessFlags := 4120, nameIndex := 245, descriptorIndex := 246, attributes := #[] }])
  fields := #[{ name := "E", type := .double, accessFlags := 25, slot := 0, constantValue := 0 }, { name := "PI", type := .double, accessFlags := 25, slot := 1, constantValue := 0 }, { name := "TAU", type := .double, accessFlags := 25, slot := 2, constantValue := 0 }, { name := "DEGREES_TO_RADIANS", type := .double, accessFlags := 26, slot := 3, constantValue := 0 }, { name := "RADIANS_TO_DEGREES", type := .double, accessFlags := 26, slot := 4, constantValue := 0 }, { name := "negativeZeroFloatBits", type := .long, accessFlags := 26, slot := 5, constantValue := 0 }, { name := "negativeZeroDoubleBits", type := .long, accessFlags := 26, slot := 6, constantValue := 0 }, { name := "twoToTheDoubleScaleUp", type := .double, accessFlags := 8, slot := 7, constantValue := 0 }, { name := "twoToTheDoubleScaleDown", type := .double, accessFlags := 8, slot := 8, constantValue := 0 }, { name := "$assertionsDisabled", type := .boolean, accessFlags := 4120, slot := 9, constantValue := 0 }]
  methods := #[k17m0, k17m1, k17m2]
  instanceTypes := #[]
  staticTypes := #[.double, .double, .double, .double, .double, .long, .long, .double, .double, .boolean]
  resolved := Array.replicate 460 none
  statics := none }

def pool18 : Array CpInfo := pool [(2, .class_ 4), (1, u "java/lang/Object"), (0, u "<init>"), (0, u "()V"), (1, .class_ 10), (1, u "java/lang/System"), (0, u "allowSecurityManager"), (0, u "I"), (16, u "cons"), (0, u "Ljava/io/Console;"), (77, .class_ 110), (1, u "java/lang/System$CallersHolder"), (43, u "initialErrStream"), (0, u "Ljava/io/PrintStream;"), (19, u "security"), (0, u "Ljava/lang/SecurityManager;"), (31, .class_ 209), (0, u "java/lang/System$1"), (7, u "props"), (0, u "Ljava/util/Properties;"), (2, u "lineSeparator"), (0, u "Ljava/lang/String;"), (96, .class_ 321), (1, u "java/lang/System$LoggerFinder"), (5, .class_ 328), (0, u "java/lang/System$Logger"), (67, u "err"), (2, u "out"), (91, u "notSupportedJnuEncoding"), (15, u "in"), (17, u "initialIn"), (0, u "Ljava/io/InputStream;"), (35, u "bootLayer"), (0, u "Ljava/lang/ModuleLayer;"), (99, .class_ 664), (0, u "java/lang/System$2"), (9, u "NEVER"), (2, u "MAYBE"), (49, u "arraycopy"), (0, u "(Ljava/lang/Object;ILjava/lang/Object;II)V"), (72, .class_ 802), (0, u "java/lang/System$Logger$Level")] 31

def k18m0 : Method := { name := "<init>", desc := "()V", sig := { parameters := [], returnType := none }, accessFlags := 2, code := none }
def k18m1 : Method := { name := "arraycopy", desc := "(Ljava/lang/Object;ILjava/lang/Object;II)V", sig := { parameters := [(.object "java/lang/Object"), .int, (.object "java/lang/Object"), .int, .int], returnType := none }, accessFlags := 265, code := none }
/-- java/lang/System -/
def k18 : Class := { plain "java/lang/System" (some 0) with
  accessFlags := 49
  interfaces := #[]
  cf := some (fileOf pool18 8 #[.nestMembers #[319, 327, 801, 108, 663, 208]] #[{ accessFlags := 2, nameIndex := 5, descriptorIndex := 6, attributes := #[] }, { accessFlags := 265, nameIndex := 727, descriptorIndex := 728, attributes := #[] }] 49 2 #[] #[{ accessFlags := 25, nameIndex := 507, descriptorIndex := 526, attributes := #[] }, { accessFlags := 25, nameIndex := 399, descriptorIndex := 155, attributes := #[] }, { accessFlags := 25, nameIndex := 396, descriptorIndex := 155, attributes := #[] }, { accessFlags := 10, nameIndex := 525, descriptorIndex := 526, attributes := #[] }, { accessFlags := 26, nameIndex := 674, descriptorIndex := 12, attributes := #[] }, { accessFlags := 26, nameIndex := 677, descriptorIndex := 12, attributes := #[] }, { accessFlags := 10, nameIndex := 11, descriptorIndex := 12, attributes := #[] }, { accessFlags := 74, nameIndex := 175, descriptorIndex := 176, attributes := #[] }, { accessFlags := 10, nameIndex := 491, descriptorIndex := 222, attributes := #[] }, { accessFlags := 74, nameIndex := 29, descriptorIndex := 30, attributes := #[] }, { accessFlags := 74, nameIndex := 154, descriptorIndex := 155, attributes := #[] }, { accessFlags := 10, nameIndex := 217, descriptorIndex := 218, attributes := #[] }, { accessFlags := 10, nameIndex := 221, descriptorIndex := 222, attributes := #[] }, { accessFlags := 8, nameIndex := 562, descriptorIndex := 563, attributes := #[] }])
  fields := #[{ name := "in", type := (.object "java/io/InputStream"), accessFlags := 25, slot := 0, constantValue := 0 }, { name := "out", type := (.object "java/io/PrintStream"), accessFlags := 25, slot := 1, constantValue := 0 }, { name := "err", type := (.object "java/io/PrintStream"), accessFlags := 25, slot := 2, constantValue := 0 }, { name := "initialIn", type := (.object "java/io/InputStream"), accessFlags := 10, slot := 3, constantValue := 0 }, { name := "NEVER", type := .int, accessFlags := 26, slot := 4, constantValue := 0 }, { name := "MAYBE", type := .int, accessFlags := 26, slot := 5, constantValue := 0 }, { name := "allowSecurityManager", type := .int, accessFlags := 10, slot := 6, constantValue := 0 }, { name := "security", type := (.object "java/lang/SecurityManager"), accessFlags := 74, slot := 7, constantValue := 0 }, { name := "notSupportedJnuEncoding", type := (.object "java/lang/String"), accessFlags := 10, slot := 8, constantValue := 0 }, { name := "cons", type := (.object "java/io/Console"), accessFlags := 74, slot := 9, constantValue := 0 }, { name := "initialErrStream", type := (.object "java/io/PrintStream"), accessFlags := 74, slot := 10, constantValue := 0 }, { name := "props", type := (.object "java/util/Properties"), accessFlags := 10, slot := 11, constantValue := 0 }, { name := "lineSeparator", type := (.object "java/lang/String"), accessFlags := 10, slot := 12, constantValue := 0 }, { name := "bootLayer", type := (.object "java/lang/ModuleLayer"), accessFlags := 8, slot := 13, constantValue := 0 }]
  methods := #[k18m0, k18m1]
  instanceTypes := #[]
  staticTypes := #[(.object "java/io/InputStream"), (.object "java/io/PrintStream"), (.object "java/io/PrintStream"), (.object "java/io/InputStream"), .int, .int, .int, (.object "java/lang/SecurityManager"), (.object "java/lang/String"), (.object "java/io/Console"), (.object "java/io/PrintStream"), (.object "java/util/Properties"), (.object "java/lang/String"), (.object "java/lang/ModuleLayer")]
  resolved := Array.replicate 834 none
  statics := none }

def pool19 : Array CpInfo := pool [(9, u "<init>"), (6, .class_ 18), (1, u "java/lang/Object"), (0, u "()V"), (1, .class_ 23), (1, u "jdk/internal/util/ArraysSupport"), (0, u "LOG2_ARRAY_LONG_INDEX_SCALE"), (0, u "I"), (2, u "U"), (0, u "Ljdk/internal/misc/Unsafe;"), (8, u "BIG_ENDIAN"), (0, u "Z"), (8, u "LOG2_BYTE_BIT_SIZE"), (4, u "LOG2_ARRAY_INT_INDEX_SCALE"), (54, u "JLA"), (0, u "Ljdk/internal/access/JavaLangAccess;"), (11, u "LOG2_ARRAY_BOOLEAN_INDEX_SCALE"), (9, u "LOG2_ARRAY_BYTE_INDEX_SCALE"), (5, u "LOG2_ARRAY_CHAR_INDEX_SCALE"), (5, u "LOG2_ARRAY_SHORT_INDEX_SCALE"), (18, u "LOG2_ARRAY_FLOAT_INDEX_SCALE"), (24, u "LOG2_ARRAY_DOUBLE_INDEX_SCALE"), (6, .methodref 195 196), (0, .class_ 197), (0, .nameAndType 198 199), (0, u "java/lang/Math"), (0, u "max"), (0, u "(II)I"), (0, .integer 2147483639), (76, u "T_BOOLEAN"), (2, u "T_CHAR"), (1, u "T_FLOAT"), (1, u "T_DOUBLE"), (1, u "T_BYTE"), (1, u "T_SHORT"), (1, u "T_INT"), (1, u "T_LONG"), (1, u "SOFT_MAX_ARRAY_LENGTH"), (56, u "newLength"), (0, u "(III)I")] 25

def k19m0 : Method := { name := "<init>", desc := "()V", sig := { parameters := [], returnType := none }, accessFlags := 2, code := none }
def k19c1 : Code := { maxStack := 3, maxLocals := 4, code := jdk_48_method_27_code, exceptionTable := #[], attributes := #[] }
def k19m1 : Method := { name := "newLength", desc := "(III)I", sig := { parameters := [.int, .int, .int], returnType := some .int }, accessFlags := 9, code := some k19c1 }
/-- jdk/internal/util/ArraysSupport -/
def k19 : Class := { plain "jdk/internal/util/ArraysSupport" (some 0) with
  accessFlags := 33
  interfaces := #[]
  cf := some (fileOf pool19 21 #[] #[{ accessFlags := 2, nameIndex := 9, descriptorIndex := 19, attributes := #[] }, { accessFlags := 9, nameIndex := 351, descriptorIndex := 352, attributes := #[] }] 33 16 #[] #[{ accessFlags := 24, nameIndex := 28, descriptorIndex := 29, attributes := #[] }, { accessFlags := 26, nameIndex := 38, descriptorIndex := 39, attributes := #[] }, { accessFlags := 25, nameIndex := 121, descriptorIndex := 25, attributes := #[] }, { accessFlags := 25, nameIndex := 131, descriptorIndex := 25, attributes := #[] }, { accessFlags := 25, nameIndex := 137, descriptorIndex := 25, attributes := #[] }, { accessFlags := 25, nameIndex := 143, descriptorIndex := 25, attributes := #[] }, { accessFlags := 25, nameIndex := 53, descriptorIndex := 25, attributes := #[] }, { accessFlags := 25, nameIndex := 24, descriptorIndex := 25, attributes := #[] }, { accessFlags := 25, nameIndex := 162, descriptorIndex := 25, attributes := #[] }, { accessFlags := 25, nameIndex := 187, descriptorIndex := 25, attributes := #[] }, { accessFlags := 26, nameIndex := 48, descriptorIndex := 25, attributes := #[] }, { accessFlags := 25, nameIndex := 277, descriptorIndex := 25, attributes := #[] }, { accessFlags := 25, nameIndex := 280, descriptorIndex := 25, attributes := #[] }, { accessFlags := 25, nameIndex := 282, descriptorIndex := 25, attributes := #[] }, { accessFlags := 25, nameIndex := 284, descriptorIndex := 25, attributes := #[] }, { accessFlags := 25, nameIndex := 286, descriptorIndex := 25, attributes := #[] }, { accessFlags := 25, nameIndex := 288, descriptorIndex := 25, attributes := #[] }, { accessFlags := 25, nameIndex := 290, descriptorIndex := 25, attributes := #[] }, { accessFlags := 25, nameIndex := 292, descriptorIndex := 25, attributes := #[] }, { accessFlags := 26, nameIndex := 108, descriptorIndex := 109, attributes := #[] }, { accessFlags := 25, nameIndex := 294, descriptorIndex := 25, attributes := #[] }])
  fields := #[{ name := "U", type := (.object "jdk/internal/misc/Unsafe"), accessFlags := 24, slot := 0, constantValue := 0 }, { name := "BIG_ENDIAN", type := .boolean, accessFlags := 26, slot := 1, constantValue := 0 }, { name := "LOG2_ARRAY_BOOLEAN_INDEX_SCALE", type := .int, accessFlags := 25, slot := 2, constantValue := 0 }, { name := "LOG2_ARRAY_BYTE_INDEX_SCALE", type := .int, accessFlags := 25, slot := 3, constantValue := 0 }, { name := "LOG2_ARRAY_CHAR_INDEX_SCALE", type := .int, accessFlags := 25, slot := 4, constantValue := 0 }, { name := "LOG2_ARRAY_SHORT_INDEX_SCALE", type := .int, accessFlags := 25, slot := 5, constantValue := 0 }, { name := "LOG2_ARRAY_INT_INDEX_SCALE", type := .int, accessFlags := 25, slot := 6, constantValue := 0 }, { name := "LOG2_ARRAY_LONG_INDEX_SCALE", type := .int, accessFlags := 25, slot := 7, constantValue := 0 }, { name := "LOG2_ARRAY_FLOAT_INDEX_SCALE", type := .int, accessFlags := 25, slot := 8, constantValue := 0 }, { name := "LOG2_ARRAY_DOUBLE_INDEX_SCALE", type := .int, accessFlags := 25, slot := 9, constantValue := 0 }, { name := "LOG2_BYTE_BIT_SIZE", type := .int, accessFlags := 26, slot := 10, constantValue := 0 }, { name := "T_BOOLEAN", type := .int, accessFlags := 25, slot := 11, constantValue := 0 }, { name := "T_CHAR", type := .int, accessFlags := 25, slot := 12, constantValue := 0 }, { name := "T_FLOAT", type := .int, accessFlags := 25, slot := 13, constantValue := 0 }, { name := "T_DOUBLE", type := .int, accessFlags := 25, slot := 14, constantValue := 0 }, { name := "T_BYTE", type := .int, accessFlags := 25, slot := 15, constantValue := 0 }, { name := "T_SHORT", type := .int, accessFlags := 25, slot := 16, constantValue := 0 }, { name := "T_INT", type := .int, accessFlags := 25, slot := 17, constantValue := 0 }, { name := "T_LONG", type := .int, accessFlags := 25, slot := 18, constantValue := 0 }, { name := "JLA", type := (.object "jdk/internal/access/JavaLangAccess"), accessFlags := 26, slot := 19, constantValue := 0 }, { name := "SOFT_MAX_ARRAY_LENGTH", type := .int, accessFlags := 25, slot := 20, constantValue := 0 }]
  methods := #[k19m0, k19m1]
  instanceTypes := #[]
  staticTypes := #[(.object "jdk/internal/misc/Unsafe"), .boolean, .int, .int, .int, .int, .int, .int, .int, .int, .int, .int, .int, .int, .int, .int, .int, .int, .int, (.object "jdk/internal/access/JavaLangAccess"), .int]
  resolved := Array.replicate 378 none
  statics := none }

def pool20 : Array CpInfo := pool [(1, u "java/lang/Cloneable"), (0, .class_ 1), (0, u "java/lang/Object"), (0, .class_ 3)] 3

/-- java/lang/Cloneable -/
def k20 : Class := { plain "java/lang/Cloneable" (some 0) with
  accessFlags := 1537
  interfaces := #[]
  cf := some (fileOf pool20 2 #[] #[] 1537 4 #[] #[])
  fields := #[]
  methods := #[]
  instanceTypes := #[]
  staticTypes := #[]
  resolved := Array.replicate 8 none
  statics := none }

/-- the primitive byte -/
def k21 : Class := { plain "byte" none with kind := .primitive 'B', accessFlags := 0x411 }
/-- [B -/
def k22 : Class := { plain "[B" (some 0) with kind := .array 21 .byte, interfaces := #[20, 2], accessFlags := 1041 }

/-- the primitive char -/
def k23 : Class := { plain "char" none with kind := .primitive 'C', accessFlags := 0x411 }
/-- [C -/
def k24 : Class := { plain "[C" (some 0) with kind := .array 23 .char, interfaces := #[20, 2], accessFlags := 1041 }

/-- the primitive int -/
def k25 : Class := { plain "int" none with kind := .primitive 'I', accessFlags := 0x411 }
/-- [I -/
def k26 : Class := { plain "[I" (some 0) with kind := .array 25 .int, interfaces := #[20, 2], accessFlags := 1041 }

def heap : Heap := #[{ cls := 7, slots := #[.long 0, .int 1, .null, .int 0, .null, .int 0, .int 0], vm := .statics 7 },
  { cls := 8, slots := #[.int 0, .int 8, .int 0, .int 1], vm := .statics 8 },
  { cls := 10, slots := #[.null, .null, .null], vm := .statics 10 }]
def classes : Array Class := #[k0, k1, k2, k3, k4, k5, k6, k7, k8, k9, k10, k11, k12, k13, k14, k15, k16, k17, k18, k19, k20, k21, k22, k23, k24, k25, k26]
def interned : List (Array UInt16 × Addr) := []
def slotsUsed : Nat := 14
def theMethod : MethodId := ⟨1, 5⟩
def args0 : Array Value := #[.long 5, .long 6, .int 7, .int 8, .int 9, .int 1]
def aboutOver (below : List Frame) : State where
  vm := { classes := classes, interned := interned.toArray }
  heap := heap
  slotsUsed := slotsUsed
  threads := #[{ frames := .invoking theMethod args0 :: below }]
def below0 : List Frame := [.native { method := ⟨0, 0⟩, args := #[] }]
def about1 : State := aboutOver below0
def p0 : Program := .bare "" "" ""
def e0 : Env := launch0.env 0 0 0
theorem w_frames : about1.frames = Frame.invoking theMethod args0 :: below0 := rfl
set_option maxRecDepth 65536 in
theorem w_args : argsFit about1.vm theMethod args0 = true := by decide +kernel
set_option maxRecDepth 65536 in
theorem w_heap : heapFits about1 = true := by decide +kernel
set_option maxRecDepth 65536 in
theorem w_runnable : about1.curStatus? = some .runnable := by decide +kernel
set_option maxRecDepth 65536 in
theorem w_alone : about1.alone = true := by decide +kernel
set_option maxRecDepth 65536 in
theorem w_named : about1.methodNamed? x = some theMethod := by decide +kernel
set_option maxRecDepth 65536 in
theorem w_hears : about1.hears theMethod below0 = true := by decide +kernel
set_option maxRecDepth 65536 in
theorem w_ripe : about1.ripe theMethod args0 below0 = true := by decide +kernel
theorem w_running : about1.status = .running := rfl
set_option maxRecDepth 65536 in
theorem w_room : about1.hasRoom e0.platform room_1 = true :=
  launch0.hasRoom_least _ room_1 (by decide +kernel) (by decide +kernel) (by decide +kernel) (by decide +kernel) (by decide +kernel) (by decide +kernel)
theorem allAtoms_all (ts : List Jvm.Cond) (a : Array Jvm.Value) (st : Jvm.State) : (allAtoms ts).before a st = ts.all (fun c => c.before a st) := by
  induction ts with
  | nil => rfl
  | cons c t ih =>
    show (Jvm.Cond.and c (allAtoms t)).before a st = _
    rw [Jvm.Cond.before_and, ih, List.all_cons]
def words1 : List Jvm.Cond := Jvm.Cond.code x code maxLocals ret :: tables_1
/-- a 'code' word, met by the world's own term for the bytes: nothing is compared byte by byte -/
theorem code_word {y : MethodName} {bytes : ByteArray} {mx : Nat} {rt : Option FieldType} {a : Array Value} {s : State} {m : MethodId} {meth : Method} {c : Code} (h1 : s.methodNamed? y = some m) (h2 : s.vm.method? m = some meth) (h3 : meth.code = some c) (h4 : c.code = bytes)
    (h5 : (c.maxLocals == mx && c.exceptionTable.isEmpty && decide (c.maxStack ≤ mostOperands) && decide (meth.sig.returnType = rt) && !meth.locks && decide (parseMethodDescriptor y.desc = some meth.sig)) = true) : (Jvm.Cond.code y bytes mx rt).before a s = true := by
  simp only [Bool.and_eq_true, beq_iff_eq, Bool.not_eq_true', decide_eq_true_eq] at h5
  obtain ⟨⟨⟨⟨⟨g1, g2⟩, g3⟩, g4⟩, g5⟩, g6⟩ := h5
  simp [Cond.before, Cond.holds, Cond.value, h1, h2, h3, h4, g1, g2, g3, g4, g5, g6]
def isCode : Jvm.Cond → Bool
  | .code _ _ _ _ => true
  | _ => false
theorem all_split {L : List Jvm.Cond} {P : Jvm.Cond → Bool} (h1 : L.all (fun c => isCode c || P c) = true) (h2 : ∀ c ∈ L.filter isCode, P c = true) : L.all P = true := by
  refine List.all_eq_true.mpr fun c hc => ?_
  have h := List.all_eq_true.mp h1 c hc
  rcases Bool.eq_false_or_eq_true (isCode c) with hi | hi
  · exact h2 c (List.mem_filter.mpr ⟨hc, hi⟩)
  · simpa [hi] using h
set_option maxRecDepth 65536 in
theorem w_c0 : (Jvm.Cond.code x code maxLocals ret).before args0 about1 = true := code_word (m := ⟨1, 5⟩) (meth := k1m5) (c := k1c5) (by decide +kernel) rfl rfl rfl (by decide +kernel)
set_option maxRecDepth 65536 in
theorem w_c1 : (Jvm.Cond.code ({ cls := "com/example/helvedir/helvedir/DiagnosticQuotePinLaw", name := "ch", desc := "(JI)C" } : Jvm.MethodName) method_2_code (5 : Nat) (Option.some Jvm.ClassFile.FieldType.char)).before args0 about1 = true := code_word (m := ⟨1, 1⟩) (meth := k1m1) (c := k1c1) (by decide +kernel) rfl rfl rfl (by decide +kernel)
set_option maxRecDepth 65536 in
theorem w_c2 : (Jvm.Cond.code ({ cls := "java/lang/String", name := "<init>", desc := "([C)V" } : Jvm.MethodName) jdk_42_method_3_code (2 : Nat) (Option.none : Option Jvm.ClassFile.FieldType)).before args0 about1 = true := code_word (m := ⟨7, 1⟩) (meth := k7m1) (c := k7c1) (by decide +kernel) rfl rfl rfl (by decide +kernel)
set_option maxRecDepth 65536 in
theorem w_c3 : (Jvm.Cond.code ({ cls := "java/lang/String", name := "<init>", desc := "([CIILjava/lang/Void;)V" } : Jvm.MethodName) jdk_42_method_149_code (6 : Nat) (Option.none : Option Jvm.ClassFile.FieldType)).before args0 about1 = true := code_word (m := ⟨7, 10⟩) (meth := k7m10) (c := k7c10) (by decide +kernel) rfl rfl rfl (by decide +kernel)
set_option maxRecDepth 65536 in
theorem w_c4 : (Jvm.Cond.code ({ cls := "java/lang/Object", name := "<init>", desc := "()V" } : Jvm.MethodName) object_method_1_code (1 : Nat) (Option.none : Option Jvm.ClassFile.FieldType)).before args0 about1 = true := code_word (m := ⟨0, 0⟩) (meth := k0m0) (c := k0c0) (by decide +kernel) rfl rfl rfl (by decide +kernel)
set_option maxRecDepth 65536 in
theorem w_c5 : (Jvm.Cond.code ({ cls := "java/lang/StringUTF16", name := "compress", desc := "([CII)[B" } : Jvm.MethodName) jdk_52_method_16_code (6 : Nat) (Option.some (Jvm.ClassFile.FieldType.array Jvm.ClassFile.FieldType.byte))).before args0 about1 = true := code_word (m := ⟨8, 10⟩) (meth := k8m10) (c := k8c10) (by decide +kernel) rfl rfl rfl (by decide +kernel)
set_option maxRecDepth 65536 in
theorem w_c6 : (Jvm.Cond.code ({ cls := "java/lang/StringUTF16", name := "compress", desc := "([CI[BII)I" } : Jvm.MethodName) jdk_52_method_21_code (7 : Nat) (Option.some Jvm.ClassFile.FieldType.int)).before args0 about1 = true := code_word (m := ⟨8, 12⟩) (meth := k8m12) (c := k8c12) (by decide +kernel) rfl rfl rfl (by decide +kernel)
set_option maxRecDepth 65536 in
theorem w_c7 : (Jvm.Cond.code ({ cls := "java/lang/StringUTF16", name := "coderFromArrayLen", desc := "([BI)B" } : Jvm.MethodName) jdk_52_method_15_code (2 : Nat) (Option.some Jvm.ClassFile.FieldType.byte)).before args0 about1 = true := code_word (m := ⟨8, 9⟩) (meth := k8m9) (c := k8c9) (by decide +kernel) rfl rfl rfl (by decide +kernel)
set_option maxRecDepth 65536 in
theorem w_c8 : (Jvm.Cond.code ({ cls := "com/example/helvedir/helvedir/Diagnostic", name := "quote", desc := "(Ljava/lang/String;)Ljava/lang/String;" } : Jvm.MethodName) prog_2_method_2_code (3 : Nat) (Option.some (Jvm.ClassFile.FieldType.object "java/lang/String"))).before args0 about1 = true := code_word (m := ⟨9, 1⟩) (meth := k9m1) (c := k9c1) (by decide +kernel) rfl rfl rfl (by decide +kernel)
set_option maxRecDepth 65536 in
theorem w_c9 : (Jvm.Cond.code ({ cls := "java/lang/String", name := "length", desc := "()I" } : Jvm.MethodName) jdk_42_method_54_code (1 : Nat) (Option.some Jvm.ClassFile.FieldType.int)).before args0 about1 = true := code_word (m := ⟨7, 3⟩) (meth := k7m3) (c := k7c3) (by decide +kernel) rfl rfl rfl (by decide +kernel)
set_option maxRecDepth 65536 in
theorem w_c10 : (Jvm.Cond.code ({ cls := "java/lang/String", name := "coder", desc := "()B" } : Jvm.MethodName) jdk_42_method_152_code (1 : Nat) (Option.some Jvm.ClassFile.FieldType.byte)).before args0 about1 = true := code_word (m := ⟨7, 13⟩) (meth := k7m13) (c := k7c13) (by decide +kernel) rfl rfl rfl (by decide +kernel)
set_option maxRecDepth 65536 in
theorem w_c11 : (Jvm.Cond.code ({ cls := "java/lang/String", name := "codePointAt", desc := "(I)I" } : Jvm.MethodName) jdk_42_method_57_code (3 : Nat) (Option.some Jvm.ClassFile.FieldType.int)).before args0 about1 = true := code_word (m := ⟨7, 6⟩) (meth := k7m6) (c := k7c6) (by decide +kernel) rfl rfl rfl (by decide +kernel)
set_option maxRecDepth 65536 in
theorem w_c12 : (Jvm.Cond.code ({ cls := "java/lang/String", name := "isLatin1", desc := "()Z" } : Jvm.MethodName) jdk_42_method_154_code (1 : Nat) (Option.some Jvm.ClassFile.FieldType.boolean)).before args0 about1 = true := code_word (m := ⟨7, 14⟩) (meth := k7m14) (c := k7c14) (by decide +kernel) rfl rfl rfl (by decide +kernel)
set_option maxRecDepth 65536 in
theorem w_c13 : (Jvm.Cond.code ({ cls := "java/lang/String", name := "checkIndex", desc := "(II)V" } : Jvm.MethodName) jdk_42_method_155_code (2 : Nat) (Option.none : Option Jvm.ClassFile.FieldType)).before args0 about1 = true := code_word (m := ⟨7, 15⟩) (meth := k7m15) (c := k7c15) (by decide +kernel) rfl rfl rfl (by decide +kernel)
set_option maxRecDepth 65536 in
theorem w_c14 : (Jvm.Cond.code ({ cls := "jdk/internal/util/Preconditions", name := "checkIndex", desc := "(IILjava/util/function/BiFunction;)I" } : Jvm.MethodName) jdk_41_method_11_code (3 : Nat) (Option.some Jvm.ClassFile.FieldType.int)).before args0 about1 = true := code_word (m := ⟨10, 1⟩) (meth := k10m1) (c := k10c1) (by decide +kernel) rfl rfl rfl (by decide +kernel)
set_option maxRecDepth 65536 in
theorem w_c15 : (Jvm.Cond.code ({ cls := "java/lang/Character", name := "charCount", desc := "(I)I" } : Jvm.MethodName) jdk_89_method_18_code (1 : Nat) (Option.some Jvm.ClassFile.FieldType.int)).before args0 about1 = true := code_word (m := ⟨11, 2⟩) (meth := k11m2) (c := k11c2) (by decide +kernel) rfl rfl rfl (by decide +kernel)
set_option maxRecDepth 65536 in
theorem w_c16 : (Jvm.Cond.code ({ cls := "java/lang/StringBuilder", name := "<init>", desc := "()V" } : Jvm.MethodName) jdk_67_method_1_code (1 : Nat) (Option.none : Option Jvm.ClassFile.FieldType)).before args0 about1 = true := code_word (m := ⟨14, 0⟩) (meth := k14m0) (c := k14c0) (by decide +kernel) rfl rfl rfl (by decide +kernel)
set_option maxRecDepth 65536 in
theorem w_c17 : (Jvm.Cond.code ({ cls := "java/lang/AbstractStringBuilder", name := "<init>", desc := "(I)V" } : Jvm.MethodName) jdk_68_method_2_code (2 : Nat) (Option.none : Option Jvm.ClassFile.FieldType)).before args0 about1 = true := code_word (m := ⟨13, 1⟩) (meth := k13m1) (c := k13c1) (by decide +kernel) rfl rfl rfl (by decide +kernel)
set_option maxRecDepth 65536 in
theorem w_c18 : (Jvm.Cond.code ({ cls := "java/lang/String", name := "substring", desc := "(II)Ljava/lang/String;" } : Jvm.MethodName) jdk_42_method_92_code (5 : Nat) (Option.some (Jvm.ClassFile.FieldType.object "java/lang/String"))).before args0 about1 = true := code_word (m := ⟨7, 8⟩) (meth := k7m8) (c := k7c8) (by decide +kernel) rfl rfl rfl (by decide +kernel)
set_option maxRecDepth 65536 in
theorem w_c19 : (Jvm.Cond.code ({ cls := "java/lang/String", name := "checkBoundsBeginEnd", desc := "(III)V" } : Jvm.MethodName) jdk_42_method_158_code (3 : Nat) (Option.none : Option Jvm.ClassFile.FieldType)).before args0 about1 = true := code_word (m := ⟨7, 17⟩) (meth := k7m17) (c := k7c17) (by decide +kernel) rfl rfl rfl (by decide +kernel)
set_option maxRecDepth 65536 in
theorem w_c20 : (Jvm.Cond.code ({ cls := "jdk/internal/util/Preconditions", name := "checkFromToIndex", desc := "(IIILjava/util/function/BiFunction;)I" } : Jvm.MethodName) jdk_41_method_12_code (4 : Nat) (Option.some Jvm.ClassFile.FieldType.int)).before args0 about1 = true := code_word (m := ⟨10, 2⟩) (meth := k10m2) (c := k10c2) (by decide +kernel) rfl rfl rfl (by decide +kernel)
set_option maxRecDepth 65536 in
theorem w_c21 : (Jvm.Cond.code ({ cls := "java/lang/StringLatin1", name := "newString", desc := "([BII)Ljava/lang/String;" } : Jvm.MethodName) jdk_43_method_47_code (3 : Nat) (Option.some (Jvm.ClassFile.FieldType.object "java/lang/String"))).before args0 about1 = true := code_word (m := ⟨15, 2⟩) (meth := k15m2) (c := k15c2) (by decide +kernel) rfl rfl rfl (by decide +kernel)
set_option maxRecDepth 65536 in
theorem w_c22 : (Jvm.Cond.code ({ cls := "java/util/Arrays", name := "copyOfRange", desc := "([BII)[B" } : Jvm.MethodName) jdk_65_method_132_code (3 : Nat) (Option.some (Jvm.ClassFile.FieldType.array Jvm.ClassFile.FieldType.byte))).before args0 about1 = true := code_word (m := ⟨16, 3⟩) (meth := k16m3) (c := k16c3) (by decide +kernel) rfl rfl rfl (by decide +kernel)
set_option maxRecDepth 65536 in
theorem w_c23 : (Jvm.Cond.code ({ cls := "java/util/Arrays", name := "copyOfRangeByte", desc := "([BII)[B" } : Jvm.MethodName) jdk_65_method_133_code (5 : Nat) (Option.some (Jvm.ClassFile.FieldType.array Jvm.ClassFile.FieldType.byte))).before args0 about1 = true := code_word (m := ⟨16, 4⟩) (meth := k16m4) (c := k16c4) (by decide +kernel) rfl rfl rfl (by decide +kernel)
set_option maxRecDepth 65536 in
theorem w_c24 : (Jvm.Cond.code ({ cls := "java/util/Arrays", name := "checkLength", desc := "(II)V" } : Jvm.MethodName) jdk_65_method_131_code (2 : Nat) (Option.none : Option Jvm.ClassFile.FieldType)).before args0 about1 = true := code_word (m := ⟨16, 2⟩) (meth := k16m2) (c := k16c2) (by decide +kernel) rfl rfl rfl (by decide +kernel)
set_option maxRecDepth 65536 in
theorem w_c25 : (Jvm.Cond.code ({ cls := "java/lang/Math", name := "min", desc := "(II)I" } : Jvm.MethodName) jdk_29_method_69_code (2 : Nat) (Option.some Jvm.ClassFile.FieldType.int)).before args0 about1 = true := code_word (m := ⟨17, 2⟩) (meth := k17m2) (c := k17c2) (by decide +kernel) rfl rfl rfl (by decide +kernel)
set_option maxRecDepth 65536 in
theorem w_c26 : (Jvm.Cond.code ({ cls := "java/lang/String", name := "<init>", desc := "([BB)V" } : Jvm.MethodName) jdk_42_method_151_code (3 : Nat) (Option.none : Option Jvm.ClassFile.FieldType)).before args0 about1 = true := code_word (m := ⟨7, 12⟩) (meth := k7m12) (c := k7c12) (by decide +kernel) rfl rfl rfl (by decide +kernel)
set_option maxRecDepth 65536 in
theorem w_c27 : (Jvm.Cond.code ({ cls := "java/lang/StringBuilder", name := "append", desc := "(Ljava/lang/String;)Ljava/lang/StringBuilder;" } : Jvm.MethodName) jdk_67_method_7_code (2 : Nat) (Option.some (Jvm.ClassFile.FieldType.object "java/lang/StringBuilder"))).before args0 about1 = true := code_word (m := ⟨14, 1⟩) (meth := k14m1) (c := k14c1) (by decide +kernel) rfl rfl rfl (by decide +kernel)
set_option maxRecDepth 65536 in
theorem w_c28 : (Jvm.Cond.code ({ cls := "java/lang/AbstractStringBuilder", name := "append", desc := "(Ljava/lang/String;)Ljava/lang/AbstractStringBuilder;" } : Jvm.MethodName) jdk_68_method_22_code (3 : Nat) (Option.some (Jvm.ClassFile.FieldType.object "java/lang/AbstractStringBuilder"))).before args0 about1 = true := code_word (m := ⟨13, 6⟩) (meth := k13m6) (c := k13c6) (by decide +kernel) rfl rfl rfl (by decide +kernel)
set_option maxRecDepth 65536 in
theorem w_c29 : (Jvm.Cond.code ({ cls := "java/lang/AbstractStringBuilder", name := "ensureCapacityInternal", desc := "(I)V" } : Jvm.MethodName) jdk_68_method_9_code (3 : Nat) (Option.none : Option Jvm.ClassFile.FieldType)).before args0 about1 = true := code_word (m := ⟨13, 3⟩) (meth := k13m3) (c := k13c3) (by decide +kernel) rfl rfl rfl (by decide +kernel)
set_option maxRecDepth 65536 in
theorem w_c30 : (Jvm.Cond.code ({ cls := "java/lang/AbstractStringBuilder", name := "newCapacity", desc := "(I)I" } : Jvm.MethodName) jdk_68_method_10_code (6 : Nat) (Option.some Jvm.ClassFile.FieldType.int)).before args0 about1 = true := code_word (m := ⟨13, 4⟩) (meth := k13m4) (c := k13c4) (by decide +kernel) rfl rfl rfl (by decide +kernel)
set_option maxRecDepth 65536 in
theorem w_c31 : (Jvm.Cond.code ({ cls := "jdk/internal/util/ArraysSupport", name := "newLength", desc := "(III)I" } : Jvm.MethodName) jdk_48_method_27_code (4 : Nat) (Option.some Jvm.ClassFile.FieldType.int)).before args0 about1 = true := code_word (m := ⟨19, 1⟩) (meth := k19m1) (c := k19c1) (by decide +kernel) rfl rfl rfl (by decide +kernel)
set_option maxRecDepth 65536 in
theorem w_c32 : (Jvm.Cond.code ({ cls := "java/lang/Math", name := "max", desc := "(II)I" } : Jvm.MethodName) jdk_29_method_65_code (2 : Nat) (Option.some Jvm.ClassFile.FieldType.int)).before args0 about1 = true := code_word (m := ⟨17, 1⟩) (meth := k17m1) (c := k17c1) (by decide +kernel) rfl rfl rfl (by decide +kernel)
set_option maxRecDepth 65536 in
theorem w_c33 : (Jvm.Cond.code ({ cls := "java/util/Arrays", name := "copyOf", desc := "([BI)[B" } : Jvm.MethodName) jdk_65_method_121_code (3 : Nat) (Option.some (Jvm.ClassFile.FieldType.array Jvm.ClassFile.FieldType.byte))).before args0 about1 = true := code_word (m := ⟨16, 1⟩) (meth := k16m1) (c := k16c1) (by decide +kernel) rfl rfl rfl (by decide +kernel)
set_option maxRecDepth 65536 in
theorem w_c34 : (Jvm.Cond.code ({ cls := "java/lang/AbstractStringBuilder", name := "putStringAt", desc := "(ILjava/lang/String;)V" } : Jvm.MethodName) jdk_68_method_73_code (3 : Nat) (Option.none : Option Jvm.ClassFile.FieldType)).before args0 about1 = true := code_word (m := ⟨13, 10⟩) (meth := k13m10) (c := k13c10) (by decide +kernel) rfl rfl rfl (by decide +kernel)
set_option maxRecDepth 65536 in
theorem w_c35 : (Jvm.Cond.code ({ cls := "java/lang/AbstractStringBuilder", name := "inflateIfNeededFor", desc := "(Ljava/lang/String;)V" } : Jvm.MethodName) jdk_68_method_71_code (2 : Nat) (Option.none : Option Jvm.ClassFile.FieldType)).before args0 about1 = true := code_word (m := ⟨13, 9⟩) (meth := k13m9) (c := k13c9) (by decide +kernel) rfl rfl rfl (by decide +kernel)
set_option maxRecDepth 65536 in
theorem w_c36 : (Jvm.Cond.code ({ cls := "java/lang/String", name := "getBytes", desc := "([BIB)V" } : Jvm.MethodName) jdk_42_method_147_code (4 : Nat) (Option.none : Option Jvm.ClassFile.FieldType)).before args0 about1 = true := code_word (m := ⟨7, 9⟩) (meth := k7m9) (c := k7c9) (by decide +kernel) rfl rfl rfl (by decide +kernel)
set_option maxRecDepth 65536 in
theorem w_c37 : (Jvm.Cond.code ({ cls := "java/lang/StringBuilder", name := "toString", desc := "()Ljava/lang/String;" } : Jvm.MethodName) jdk_67_method_42_code (1 : Nat) (Option.some (Jvm.ClassFile.FieldType.object "java/lang/String"))).before args0 about1 = true := code_word (m := ⟨14, 2⟩) (meth := k14m2) (c := k14c2) (by decide +kernel) rfl rfl rfl (by decide +kernel)
set_option maxRecDepth 65536 in
theorem w_c38 : (Jvm.Cond.code ({ cls := "java/lang/String", name := "<init>", desc := "(Ljava/lang/StringBuilder;)V" } : Jvm.MethodName) jdk_42_method_53_code (2 : Nat) (Option.none : Option Jvm.ClassFile.FieldType)).before args0 about1 = true := code_word (m := ⟨7, 2⟩) (meth := k7m2) (c := k7c2) (by decide +kernel) rfl rfl rfl (by decide +kernel)
set_option maxRecDepth 65536 in
theorem w_c39 : (Jvm.Cond.code ({ cls := "java/lang/String", name := "<init>", desc := "(Ljava/lang/AbstractStringBuilder;Ljava/lang/Void;)V" } : Jvm.MethodName) jdk_42_method_150_code (5 : Nat) (Option.none : Option Jvm.ClassFile.FieldType)).before args0 about1 = true := code_word (m := ⟨7, 11⟩) (meth := k7m11) (c := k7c11) (by decide +kernel) rfl rfl rfl (by decide +kernel)
set_option maxRecDepth 65536 in
theorem w_c40 : (Jvm.Cond.code ({ cls := "java/lang/AbstractStringBuilder", name := "getValue", desc := "()[B" } : Jvm.MethodName) jdk_68_method_64_code (1 : Nat) (Option.some (Jvm.ClassFile.FieldType.array Jvm.ClassFile.FieldType.byte))).before args0 about1 = true := code_word (m := ⟨13, 7⟩) (meth := k13m7) (c := k13c7) (by decide +kernel) rfl rfl rfl (by decide +kernel)
set_option maxRecDepth 65536 in
theorem w_c41 : (Jvm.Cond.code ({ cls := "java/lang/StringBuilder", name := "length", desc := "()I" } : Jvm.MethodName) jdk_67_method_93_code (1 : Nat) (Option.some Jvm.ClassFile.FieldType.int)).before args0 about1 = true := code_word (m := ⟨14, 3⟩) (meth := k14m3) (c := k14c3) (by decide +kernel) rfl rfl rfl (by decide +kernel)
set_option maxRecDepth 65536 in
theorem w_c42 : (Jvm.Cond.code ({ cls := "java/lang/AbstractStringBuilder", name := "length", desc := "()I" } : Jvm.MethodName) jdk_68_method_6_code (1 : Nat) (Option.some Jvm.ClassFile.FieldType.int)).before args0 about1 = true := code_word (m := ⟨13, 2⟩) (meth := k13m2) (c := k13c2) (by decide +kernel) rfl rfl rfl (by decide +kernel)
set_option maxRecDepth 65536 in
theorem w_c43 : (Jvm.Cond.code ({ cls := "java/lang/AbstractStringBuilder", name := "isLatin1", desc := "()Z" } : Jvm.MethodName) jdk_68_method_68_code (1 : Nat) (Option.some Jvm.ClassFile.FieldType.boolean)).before args0 about1 = true := code_word (m := ⟨13, 8⟩) (meth := k13m8) (c := k13c8) (by decide +kernel) rfl rfl rfl (by decide +kernel)
set_option maxRecDepth 65536 in
theorem w_c44 : (Jvm.Cond.code ({ cls := "com/example/helvedir/helvedir/DiagnosticQuotePinLaw", name := "step", desc := "([CI)I" } : Jvm.MethodName) method_5_code (2 : Nat) (Option.some Jvm.ClassFile.FieldType.int)).before args0 about1 = true := code_word (m := ⟨1, 4⟩) (meth := k1m4) (c := k1c4) (by decide +kernel) rfl rfl rfl (by decide +kernel)
set_option maxRecDepth 65536 in
theorem w_c45 : (Jvm.Cond.code ({ cls := "com/example/helvedir/helvedir/DiagnosticQuotePinLaw", name := "high", desc := "(C)Z" } : Jvm.MethodName) method_3_code (1 : Nat) (Option.some Jvm.ClassFile.FieldType.boolean)).before args0 about1 = true := code_word (m := ⟨1, 2⟩) (meth := k1m2) (c := k1c2) (by decide +kernel) rfl rfl rfl (by decide +kernel)
set_option maxRecDepth 65536 in
theorem w_c46 : (Jvm.Cond.code ({ cls := "java/lang/String", name := "charAt", desc := "(I)C" } : Jvm.MethodName) jdk_42_method_56_code (2 : Nat) (Option.some Jvm.ClassFile.FieldType.char)).before args0 about1 = true := code_word (m := ⟨7, 5⟩) (meth := k7m5) (c := k7c5) (by decide +kernel) rfl rfl rfl (by decide +kernel)
set_option maxRecDepth 65536 in
theorem w_c47 : (Jvm.Cond.code ({ cls := "java/lang/StringLatin1", name := "charAt", desc := "([BI)C" } : Jvm.MethodName) jdk_43_method_2_code (2 : Nat) (Option.some Jvm.ClassFile.FieldType.char)).before args0 about1 = true := code_word (m := ⟨15, 1⟩) (meth := k15m1) (c := k15c1) (by decide +kernel) rfl rfl rfl (by decide +kernel)
set_option maxRecDepth 65536 in
theorem w_c48 : (Jvm.Cond.code ({ cls := "java/lang/StringUTF16", name := "toBytes", desc := "([CII)[B" } : Jvm.MethodName) jdk_52_method_14_code (5 : Nat) (Option.some (Jvm.ClassFile.FieldType.array Jvm.ClassFile.FieldType.byte))).before args0 about1 = true := code_word (m := ⟨8, 8⟩) (meth := k8m8) (c := k8c8) (by decide +kernel) rfl rfl rfl (by decide +kernel)
set_option maxRecDepth 65536 in
theorem w_c49 : (Jvm.Cond.code ({ cls := "java/lang/StringUTF16", name := "newBytesFor", desc := "(I)[B" } : Jvm.MethodName) jdk_52_method_2_code (1 : Nat) (Option.some (Jvm.ClassFile.FieldType.array Jvm.ClassFile.FieldType.byte))).before args0 about1 = true := code_word (m := ⟨8, 1⟩) (meth := k8m1) (c := k8c1) (by decide +kernel) rfl rfl rfl (by decide +kernel)
set_option maxRecDepth 65536 in
theorem w_c50 : (Jvm.Cond.code ({ cls := "java/lang/StringUTF16", name := "newBytesLength", desc := "(I)I" } : Jvm.MethodName) jdk_52_method_3_code (1 : Nat) (Option.some Jvm.ClassFile.FieldType.int)).before args0 about1 = true := code_word (m := ⟨8, 2⟩) (meth := k8m2) (c := k8c2) (by decide +kernel) rfl rfl rfl (by decide +kernel)
set_option maxRecDepth 65536 in
theorem w_c51 : (Jvm.Cond.code ({ cls := "java/lang/StringUTF16", name := "putChar", desc := "([BII)V" } : Jvm.MethodName) jdk_52_method_4_code (3 : Nat) (Option.none : Option Jvm.ClassFile.FieldType)).before args0 about1 = true := code_word (m := ⟨8, 3⟩) (meth := k8m3) (c := k8c3) (by decide +kernel) rfl rfl rfl (by decide +kernel)
set_option maxRecDepth 65536 in
theorem w_c52 : (Jvm.Cond.code ({ cls := "java/lang/StringUTF16", name := "getChar", desc := "([BI)C" } : Jvm.MethodName) jdk_52_method_5_code (2 : Nat) (Option.some Jvm.ClassFile.FieldType.char)).before args0 about1 = true := code_word (m := ⟨8, 4⟩) (meth := k8m4) (c := k8c4) (by decide +kernel) rfl rfl rfl (by decide +kernel)
set_option maxRecDepth 65536 in
theorem w_c53 : (Jvm.Cond.code ({ cls := "java/lang/StringUTF16", name := "codePointAt", desc := "([BII)I" } : Jvm.MethodName) jdk_52_method_8_code (3 : Nat) (Option.some Jvm.ClassFile.FieldType.int)).before args0 about1 = true := code_word (m := ⟨8, 7⟩) (meth := k8m7) (c := k8c7) (by decide +kernel) rfl rfl rfl (by decide +kernel)
set_option maxRecDepth 65536 in
theorem w_c54 : (Jvm.Cond.code ({ cls := "java/lang/StringUTF16", name := "codePointAt", desc := "([BIIZ)I" } : Jvm.MethodName) jdk_52_method_7_code (6 : Nat) (Option.some Jvm.ClassFile.FieldType.int)).before args0 about1 = true := code_word (m := ⟨8, 6⟩) (meth := k8m6) (c := k8c6) (by decide +kernel) rfl rfl rfl (by decide +kernel)
set_option maxRecDepth 65536 in
theorem w_c55 : (Jvm.Cond.code ({ cls := "java/lang/Character", name := "isHighSurrogate", desc := "(C)Z" } : Jvm.MethodName) jdk_89_method_14_code (1 : Nat) (Option.some Jvm.ClassFile.FieldType.boolean)).before args0 about1 = true := code_word (m := ⟨11, 0⟩) (meth := k11m0) (c := k11c0) (by decide +kernel) rfl rfl rfl (by decide +kernel)
set_option maxRecDepth 65536 in
theorem w_c56 : (Jvm.Cond.code ({ cls := "java/lang/String", name := "equals", desc := "(Ljava/lang/Object;)Z" } : Jvm.MethodName) jdk_42_method_66_code (3 : Nat) (Option.some Jvm.ClassFile.FieldType.boolean)).before args0 about1 = true := code_word (m := ⟨7, 7⟩) (meth := k7m7) (c := k7c7) (by decide +kernel) rfl rfl rfl (by decide +kernel)
set_option maxRecDepth 65536 in
theorem w_c57 : (Jvm.Cond.code ({ cls := "java/lang/Character", name := "isLowSurrogate", desc := "(C)Z" } : Jvm.MethodName) jdk_89_method_15_code (1 : Nat) (Option.some Jvm.ClassFile.FieldType.boolean)).before args0 about1 = true := code_word (m := ⟨11, 1⟩) (meth := k11m1) (c := k11c1) (by decide +kernel) rfl rfl rfl (by decide +kernel)
set_option maxRecDepth 65536 in
theorem w_c58 : (Jvm.Cond.code ({ cls := "java/lang/StringUTF16", name := "newString", desc := "([BII)Ljava/lang/String;" } : Jvm.MethodName) jdk_52_method_69_code (5 : Nat) (Option.some (Jvm.ClassFile.FieldType.object "java/lang/String"))).before args0 about1 = true := code_word (m := ⟨8, 14⟩) (meth := k8m14) (c := k8c14) (by decide +kernel) rfl rfl rfl (by decide +kernel)
set_option maxRecDepth 65536 in
theorem w_c59 : (Jvm.Cond.code ({ cls := "java/lang/StringUTF16", name := "compress", desc := "([BII)[B" } : Jvm.MethodName) jdk_52_method_17_code (6 : Nat) (Option.some (Jvm.ClassFile.FieldType.array Jvm.ClassFile.FieldType.byte))).before args0 about1 = true := code_word (m := ⟨8, 11⟩) (meth := k8m11) (c := k8c11) (by decide +kernel) rfl rfl rfl (by decide +kernel)
set_option maxRecDepth 65536 in
theorem w_c60 : (Jvm.Cond.code ({ cls := "java/lang/StringUTF16", name := "compress", desc := "([BI[BII)I" } : Jvm.MethodName) jdk_52_method_22_code (7 : Nat) (Option.some Jvm.ClassFile.FieldType.int)).before args0 about1 = true := code_word (m := ⟨8, 13⟩) (meth := k8m13) (c := k8c13) (by decide +kernel) rfl rfl rfl (by decide +kernel)
set_option maxRecDepth 65536 in
theorem w_c61 : (Jvm.Cond.code ({ cls := "java/lang/StringUTF16", name := "checkBoundsOffCount", desc := "(II[B)V" } : Jvm.MethodName) jdk_52_method_94_code (3 : Nat) (Option.none : Option Jvm.ClassFile.FieldType)).before args0 about1 = true := code_word (m := ⟨8, 18⟩) (meth := k8m18) (c := k8c18) (by decide +kernel) rfl rfl rfl (by decide +kernel)
set_option maxRecDepth 65536 in
theorem w_c62 : (Jvm.Cond.code ({ cls := "java/lang/StringUTF16", name := "length", desc := "([B)I" } : Jvm.MethodName) jdk_52_method_6_code (1 : Nat) (Option.some Jvm.ClassFile.FieldType.int)).before args0 about1 = true := code_word (m := ⟨8, 5⟩) (meth := k8m5) (c := k8c5) (by decide +kernel) rfl rfl rfl (by decide +kernel)
set_option maxRecDepth 65536 in
theorem w_c63 : (Jvm.Cond.code ({ cls := "java/lang/String", name := "checkBoundsOffCount", desc := "(III)I" } : Jvm.MethodName) jdk_42_method_157_code (3 : Nat) (Option.some Jvm.ClassFile.FieldType.int)).before args0 about1 = true := code_word (m := ⟨7, 16⟩) (meth := k7m16) (c := k7c16) (by decide +kernel) rfl rfl rfl (by decide +kernel)
set_option maxRecDepth 65536 in
theorem w_c64 : (Jvm.Cond.code ({ cls := "jdk/internal/util/Preconditions", name := "checkFromIndexSize", desc := "(IIILjava/util/function/BiFunction;)I" } : Jvm.MethodName) jdk_41_method_13_code (4 : Nat) (Option.some Jvm.ClassFile.FieldType.int)).before args0 about1 = true := code_word (m := ⟨10, 3⟩) (meth := k10m3) (c := k10c3) (by decide +kernel) rfl rfl rfl (by decide +kernel)
set_option maxRecDepth 65536 in
theorem w_c65 : (Jvm.Cond.code ({ cls := "java/lang/AbstractStringBuilder", name := "inflate", desc := "()V" } : Jvm.MethodName) jdk_68_method_11_code (2 : Nat) (Option.none : Option Jvm.ClassFile.FieldType)).before args0 about1 = true := code_word (m := ⟨13, 5⟩) (meth := k13m5) (c := k13c5) (by decide +kernel) rfl rfl rfl (by decide +kernel)
set_option maxRecDepth 65536 in
theorem w_c66 : (Jvm.Cond.code ({ cls := "java/lang/StringLatin1", name := "inflate", desc := "([BI[BII)V" } : Jvm.MethodName) jdk_43_method_50_code (5 : Nat) (Option.none : Option Jvm.ClassFile.FieldType)).before args0 about1 = true := code_word (m := ⟨15, 3⟩) (meth := k15m3) (c := k15c3) (by decide +kernel) rfl rfl rfl (by decide +kernel)
set_option maxRecDepth 65536 in
theorem w_c67 : (Jvm.Cond.code ({ cls := "java/lang/StringUTF16", name := "inflate", desc := "([BI[BII)V" } : Jvm.MethodName) jdk_52_method_86_code (6 : Nat) (Option.none : Option Jvm.ClassFile.FieldType)).before args0 about1 = true := code_word (m := ⟨8, 16⟩) (meth := k8m16) (c := k8c16) (by decide +kernel) rfl rfl rfl (by decide +kernel)
set_option maxRecDepth 65536 in
theorem w_c68 : (Jvm.Cond.code ({ cls := "com/example/helvedir/helvedir/DiagnosticQuotePinLaw", name := "low", desc := "(C)Z" } : Jvm.MethodName) method_4_code (1 : Nat) (Option.some Jvm.ClassFile.FieldType.boolean)).before args0 about1 = true := code_word (m := ⟨1, 3⟩) (meth := k1m3) (c := k1c3) (by decide +kernel) rfl rfl rfl (by decide +kernel)
set_option maxRecDepth 65536 in
theorem w_c69 : (Jvm.Cond.code ({ cls := "java/lang/StringUTF16", name := "charAt", desc := "([BI)C" } : Jvm.MethodName) jdk_52_method_83_code (2 : Nat) (Option.some Jvm.ClassFile.FieldType.char)).before args0 about1 = true := code_word (m := ⟨8, 15⟩) (meth := k8m15) (c := k8c15) (by decide +kernel) rfl rfl rfl (by decide +kernel)
set_option maxRecDepth 65536 in
theorem w_c70 : (Jvm.Cond.code ({ cls := "java/lang/StringUTF16", name := "checkIndex", desc := "(I[B)V" } : Jvm.MethodName) jdk_52_method_91_code (2 : Nat) (Option.none : Option Jvm.ClassFile.FieldType)).before args0 about1 = true := code_word (m := ⟨8, 17⟩) (meth := k8m17) (c := k8c17) (by decide +kernel) rfl rfl rfl (by decide +kernel)
set_option maxRecDepth 65536 in
theorem w_c71 : (Jvm.Cond.code ({ cls := "java/lang/Character", name := "toCodePoint", desc := "(CC)I" } : Jvm.MethodName) jdk_89_method_19_code (2 : Nat) (Option.some Jvm.ClassFile.FieldType.int)).before args0 about1 = true := code_word (m := ⟨11, 3⟩) (meth := k11m3) (c := k11c3) (by decide +kernel) rfl rfl rfl (by decide +kernel)
set_option maxRecDepth 65536 in
theorem w_c72 : (Jvm.Cond.code ({ cls := "java/lang/String", name := "isEmpty", desc := "()Z" } : Jvm.MethodName) jdk_42_method_55_code (1 : Nat) (Option.some Jvm.ClassFile.FieldType.boolean)).before args0 about1 = true := code_word (m := ⟨7, 4⟩) (meth := k7m4) (c := k7c4) (by decide +kernel) rfl rfl rfl (by decide +kernel)
def codes1 : List Jvm.Cond := [Jvm.Cond.code x code maxLocals ret, Jvm.Cond.code ({ cls := "com/example/helvedir/helvedir/DiagnosticQuotePinLaw", name := "ch", desc := "(JI)C" } : Jvm.MethodName) method_2_code (5 : Nat) (Option.some Jvm.ClassFile.FieldType.char), Jvm.Cond.code ({ cls := "java/lang/String", name := "<init>", desc := "([C)V" } : Jvm.MethodName) jdk_42_method_3_code (2 : Nat) (Option.none : Option Jvm.ClassFile.FieldType), Jvm.Cond.code ({ cls := "java/lang/String", name := "<init>", desc := "([CIILjava/lang/Void;)V" } : Jvm.MethodName) jdk_42_method_149_code (6 : Nat) (Option.none : Option Jvm.ClassFile.FieldType), Jvm.Cond.code ({ cls := "java/lang/Object", name := "<init>", desc := "()V" } : Jvm.MethodName) object_method_1_code (1 : Nat) (Option.none : Option Jvm.ClassFile.FieldType), Jvm.Cond.code ({ cls := "java/lang/StringUTF16", name := "compress", desc := "([CII)[B" } : Jvm.MethodName) jdk_52_method_16_code (6 : Nat) (Option.some (Jvm.ClassFile.FieldType.array Jvm.ClassFile.FieldType.byte)), Jvm.Cond.code ({ cls := "java/lang/StringUTF16", name := "compress", desc := "([CI[BII)I" } : Jvm.MethodName) jdk_52_method_21_code (7 : Nat) (Option.some Jvm.ClassFile.FieldType.int), Jvm.Cond.code ({ cls := "java/lang/StringUTF16", name := "coderFromArrayLen", desc := "([BI)B" } : Jvm.MethodName) jdk_52_method_15_code (2 : Nat) (Option.some Jvm.ClassFile.FieldType.byte), Jvm.Cond.code ({ cls := "com/example/helvedir/helvedir/Diagnostic", name := "quote", desc := "(Ljava/lang/String;)Ljava/lang/String;" } : Jvm.MethodName) prog_2_method_2_code (3 : Nat) (Option.some (Jvm.ClassFile.FieldType.object "java/lang/String")), Jvm.Cond.code ({ cls := "java/lang/String", name := "length", desc := "()I" } : Jvm.MethodName) jdk_42_method_54_code (1 : Nat) (Option.some Jvm.ClassFile.FieldType.int), Jvm.Cond.code ({ cls := "java/lang/String", name := "coder", desc := "()B" } : Jvm.MethodName) jdk_42_method_152_code (1 : Nat) (Option.some Jvm.ClassFile.FieldType.byte), Jvm.Cond.code ({ cls := "java/lang/String", name := "codePointAt", desc := "(I)I" } : Jvm.MethodName) jdk_42_method_57_code (3 : Nat) (Option.some Jvm.ClassFile.FieldType.int), Jvm.Cond.code ({ cls := "java/lang/String", name := "isLatin1", desc := "()Z" } : Jvm.MethodName) jdk_42_method_154_code (1 : Nat) (Option.some Jvm.ClassFile.FieldType.boolean), Jvm.Cond.code ({ cls := "java/lang/String", name := "checkIndex", desc := "(II)V" } : Jvm.MethodName) jdk_42_method_155_code (2 : Nat) (Option.none : Option Jvm.ClassFile.FieldType), Jvm.Cond.code ({ cls := "jdk/internal/util/Preconditions", name := "checkIndex", desc := "(IILjava/util/function/BiFunction;)I" } : Jvm.MethodName) jdk_41_method_11_code (3 : Nat) (Option.some Jvm.ClassFile.FieldType.int), Jvm.Cond.code ({ cls := "java/lang/Character", name := "charCount", desc := "(I)I" } : Jvm.MethodName) jdk_89_method_18_code (1 : Nat) (Option.some Jvm.ClassFile.FieldType.int), Jvm.Cond.code ({ cls := "java/lang/StringBuilder", name := "<init>", desc := "()V" } : Jvm.MethodName) jdk_67_method_1_code (1 : Nat) (Option.none : Option Jvm.ClassFile.FieldType), Jvm.Cond.code ({ cls := "java/lang/AbstractStringBuilder", name := "<init>", desc := "(I)V" } : Jvm.MethodName) jdk_68_method_2_code (2 : Nat) (Option.none : Option Jvm.ClassFile.FieldType), Jvm.Cond.code ({ cls := "java/lang/String", name := "substring", desc := "(II)Ljava/lang/String;" } : Jvm.MethodName) jdk_42_method_92_code (5 : Nat) (Option.some (Jvm.ClassFile.FieldType.object "java/lang/String")), Jvm.Cond.code ({ cls := "java/lang/String", name := "checkBoundsBeginEnd", desc := "(III)V" } : Jvm.MethodName) jdk_42_method_158_code (3 : Nat) (Option.none : Option Jvm.ClassFile.FieldType), Jvm.Cond.code ({ cls := "jdk/internal/util/Preconditions", name := "checkFromToIndex", desc := "(IIILjava/util/function/BiFunction;)I" } : Jvm.MethodName) jdk_41_method_12_code (4 : Nat) (Option.some Jvm.ClassFile.FieldType.int), Jvm.Cond.code ({ cls := "java/lang/StringLatin1", name := "newString", desc := "([BII)Ljava/lang/String;" } : Jvm.MethodName) jdk_43_method_47_code (3 : Nat) (Option.some (Jvm.ClassFile.FieldType.object "java/lang/String")), Jvm.Cond.code ({ cls := "java/util/Arrays", name := "copyOfRange", desc := "([BII)[B" } : Jvm.MethodName) jdk_65_method_132_code (3 : Nat) (Option.some (Jvm.ClassFile.FieldType.array Jvm.ClassFile.FieldType.byte)), Jvm.Cond.code ({ cls := "java/util/Arrays", name := "copyOfRangeByte", desc := "([BII)[B" } : Jvm.MethodName) jdk_65_method_133_code (5 : Nat) (Option.some (Jvm.ClassFile.FieldType.array Jvm.ClassFile.FieldType.byte)), Jvm.Cond.code ({ cls := "java/util/Arrays", name := "checkLength", desc := "(II)V" } : Jvm.MethodName) jdk_65_method_131_code (2 : Nat) (Option.none : Option Jvm.ClassFile.FieldType), Jvm.Cond.code ({ cls := "java/lang/Math", name := "min", desc := "(II)I" } : Jvm.MethodName) jdk_29_method_69_code (2 : Nat) (Option.some Jvm.ClassFile.FieldType.int), Jvm.Cond.code ({ cls := "java/lang/String", name := "<init>", desc := "([BB)V" } : Jvm.MethodName) jdk_42_method_151_code (3 : Nat) (Option.none : Option Jvm.ClassFile.FieldType), Jvm.Cond.code ({ cls := "java/lang/StringBuilder", name := "append", desc := "(Ljava/lang/String;)Ljava/lang/StringBuilder;" } : Jvm.MethodName) jdk_67_method_7_code (2 : Nat) (Option.some (Jvm.ClassFile.FieldType.object "java/lang/StringBuilder")), Jvm.Cond.code ({ cls := "java/lang/AbstractStringBuilder", name := "append", desc := "(Ljava/lang/String;)Ljava/lang/AbstractStringBuilder;" } : Jvm.MethodName) jdk_68_method_22_code (3 : Nat) (Option.some (Jvm.ClassFile.FieldType.object "java/lang/AbstractStringBuilder")), Jvm.Cond.code ({ cls := "java/lang/AbstractStringBuilder", name := "ensureCapacityInternal", desc := "(I)V" } : Jvm.MethodName) jdk_68_method_9_code (3 : Nat) (Option.none : Option Jvm.ClassFile.FieldType), Jvm.Cond.code ({ cls := "java/lang/AbstractStringBuilder", name := "newCapacity", desc := "(I)I" } : Jvm.MethodName) jdk_68_method_10_code (6 : Nat) (Option.some Jvm.ClassFile.FieldType.int), Jvm.Cond.code ({ cls := "jdk/internal/util/ArraysSupport", name := "newLength", desc := "(III)I" } : Jvm.MethodName) jdk_48_method_27_code (4 : Nat) (Option.some Jvm.ClassFile.FieldType.int), Jvm.Cond.code ({ cls := "java/lang/Math", name := "max", desc := "(II)I" } : Jvm.MethodName) jdk_29_method_65_code (2 : Nat) (Option.some Jvm.ClassFile.FieldType.int), Jvm.Cond.code ({ cls := "java/util/Arrays", name := "copyOf", desc := "([BI)[B" } : Jvm.MethodName) jdk_65_method_121_code (3 : Nat) (Option.some (Jvm.ClassFile.FieldType.array Jvm.ClassFile.FieldType.byte)), Jvm.Cond.code ({ cls := "java/lang/AbstractStringBuilder", name := "putStringAt", desc := "(ILjava/lang/String;)V" } : Jvm.MethodName) jdk_68_method_73_code (3 : Nat) (Option.none : Option Jvm.ClassFile.FieldType), Jvm.Cond.code ({ cls := "java/lang/AbstractStringBuilder", name := "inflateIfNeededFor", desc := "(Ljava/lang/String;)V" } : Jvm.MethodName) jdk_68_method_71_code (2 : Nat) (Option.none : Option Jvm.ClassFile.FieldType), Jvm.Cond.code ({ cls := "java/lang/String", name := "getBytes", desc := "([BIB)V" } : Jvm.MethodName) jdk_42_method_147_code (4 : Nat) (Option.none : Option Jvm.ClassFile.FieldType), Jvm.Cond.code ({ cls := "java/lang/StringBuilder", name := "toString", desc := "()Ljava/lang/String;" } : Jvm.MethodName) jdk_67_method_42_code (1 : Nat) (Option.some (Jvm.ClassFile.FieldType.object "java/lang/String")), Jvm.Cond.code ({ cls := "java/lang/String", name := "<init>", desc := "(Ljava/lang/StringBuilder;)V" } : Jvm.MethodName) jdk_42_method_53_code (2 : Nat) (Option.none : Option Jvm.ClassFile.FieldType), Jvm.Cond.code ({ cls := "java/lang/String", name := "<init>", desc := "(Ljava/lang/AbstractStringBuilder;Ljava/lang/Void;)V" } : Jvm.MethodName) jdk_42_method_150_code (5 : Nat) (Option.none : Option Jvm.ClassFile.FieldType), Jvm.Cond.code ({ cls := "java/lang/AbstractStringBuilder", name := "getValue", desc := "()[B" } : Jvm.MethodName) jdk_68_method_64_code (1 : Nat) (Option.some (Jvm.ClassFile.FieldType.array Jvm.ClassFile.FieldType.byte)), Jvm.Cond.code ({ cls := "java/lang/StringBuilder", name := "length", desc := "()I" } : Jvm.MethodName) jdk_67_method_93_code (1 : Nat) (Option.some Jvm.ClassFile.FieldType.int), Jvm.Cond.code ({ cls := "java/lang/AbstractStringBuilder", name := "length", desc := "()I" } : Jvm.MethodName) jdk_68_method_6_code (1 : Nat) (Option.some Jvm.ClassFile.FieldType.int), Jvm.Cond.code ({ cls := "java/lang/AbstractStringBuilder", name := "isLatin1", desc := "()Z" } : Jvm.MethodName) jdk_68_method_68_code (1 : Nat) (Option.some Jvm.ClassFile.FieldType.boolean), Jvm.Cond.code ({ cls := "com/example/helvedir/helvedir/DiagnosticQuotePinLaw", name := "step", desc := "([CI)I" } : Jvm.MethodName) method_5_code (2 : Nat) (Option.some Jvm.ClassFile.FieldType.int), Jvm.Cond.code ({ cls := "com/example/helvedir/helvedir/DiagnosticQuotePinLaw", name := "high", desc := "(C)Z" } : Jvm.MethodName) method_3_code (1 : Nat) (Option.some Jvm.ClassFile.FieldType.boolean), Jvm.Cond.code ({ cls := "java/lang/String", name := "charAt", desc := "(I)C" } : Jvm.MethodName) jdk_42_method_56_code (2 : Nat) (Option.some Jvm.ClassFile.FieldType.char), Jvm.Cond.code ({ cls := "java/lang/StringLatin1", name := "charAt", desc := "([BI)C" } : Jvm.MethodName) jdk_43_method_2_code (2 : Nat) (Option.some Jvm.ClassFile.FieldType.char), Jvm.Cond.code ({ cls := "java/lang/StringUTF16", name := "toBytes", desc := "([CII)[B" } : Jvm.MethodName) jdk_52_method_14_code (5 : Nat) (Option.some (Jvm.ClassFile.FieldType.array Jvm.ClassFile.FieldType.byte)), Jvm.Cond.code ({ cls := "java/lang/StringUTF16", name := "newBytesFor", desc := "(I)[B" } : Jvm.MethodName) jdk_52_method_2_code (1 : Nat) (Option.some (Jvm.ClassFile.FieldType.array Jvm.ClassFile.FieldType.byte)), Jvm.Cond.code ({ cls := "java/lang/StringUTF16", name := "newBytesLength", desc := "(I)I" } : Jvm.MethodName) jdk_52_method_3_code (1 : Nat) (Option.some Jvm.ClassFile.FieldType.int), Jvm.Cond.code ({ cls := "java/lang/StringUTF16", name := "putChar", desc := "([BII)V" } : Jvm.MethodName) jdk_52_method_4_code (3 : Nat) (Option.none : Option Jvm.ClassFile.FieldType), Jvm.Cond.code ({ cls := "java/lang/StringUTF16", name := "getChar", desc := "([BI)C" } : Jvm.MethodName) jdk_52_method_5_code (2 : Nat) (Option.some Jvm.ClassFile.FieldType.char), Jvm.Cond.code ({ cls := "java/lang/StringUTF16", name := "codePointAt", desc := "([BII)I" } : Jvm.MethodName) jdk_52_method_8_code (3 : Nat) (Option.some Jvm.ClassFile.FieldType.int), Jvm.Cond.code ({ cls := "java/lang/StringUTF16", name := "codePointAt", desc := "([BIIZ)I" } : Jvm.MethodName) jdk_52_method_7_code (6 : Nat) (Option.some Jvm.ClassFile.FieldType.int), Jvm.Cond.code ({ cls := "java/lang/Character", name := "isHighSurrogate", desc := "(C)Z" } : Jvm.MethodName) jdk_89_method_14_code (1 : Nat) (Option.some Jvm.ClassFile.FieldType.boolean), Jvm.Cond.code ({ cls := "java/lang/String", name := "equals", desc := "(Ljava/lang/Object;)Z" } : Jvm.MethodName) jdk_42_method_66_code (3 : Nat) (Option.some Jvm.ClassFile.FieldType.boolean), Jvm.Cond.code ({ cls := "java/lang/Character", name := "isLowSurrogate", desc := "(C)Z" } : Jvm.MethodName) jdk_89_method_15_code (1 : Nat) (Option.some Jvm.ClassFile.FieldType.boolean), Jvm.Cond.code ({ cls := "java/lang/StringUTF16", name := "newString", desc := "([BII)Ljava/lang/String;" } : Jvm.MethodName) jdk_52_method_69_code (5 : Nat) (Option.some (Jvm.ClassFile.FieldType.object "java/lang/String")), Jvm.Cond.code ({ cls := "java/lang/StringUTF16", name := "compress", desc := "([BII)[B" } : Jvm.MethodName) jdk_52_method_17_code (6 : Nat) (Option.some (Jvm.ClassFile.FieldType.array Jvm.ClassFile.FieldType.byte)), Jvm.Cond.code ({ cls := "java/lang/StringUTF16", name := "compress", desc := "([BI[BII)I" } : Jvm.MethodName) jdk_52_method_22_code (7 : Nat) (Option.some Jvm.ClassFile.FieldType.int), Jvm.Cond.code ({ cls := "java/lang/StringUTF16", name := "checkBoundsOffCount", desc := "(II[B)V" } : Jvm.MethodName) jdk_52_method_94_code (3 : Nat) (Option.none : Option Jvm.ClassFile.FieldType), Jvm.Cond.code ({ cls := "java/lang/StringUTF16", name := "length", desc := "([B)I" } : Jvm.MethodName) jdk_52_method_6_code (1 : Nat) (Option.some Jvm.ClassFile.FieldType.int), Jvm.Cond.code ({ cls := "java/lang/String", name := "checkBoundsOffCount", desc := "(III)I" } : Jvm.MethodName) jdk_42_method_157_code (3 : Nat) (Option.some Jvm.ClassFile.FieldType.int), Jvm.Cond.code ({ cls := "jdk/internal/util/Preconditions", name := "checkFromIndexSize", desc := "(IIILjava/util/function/BiFunction;)I" } : Jvm.MethodName) jdk_41_method_13_code (4 : Nat) (Option.some Jvm.ClassFile.FieldType.int), Jvm.Cond.code ({ cls := "java/lang/AbstractStringBuilder", name := "inflate", desc := "()V" } : Jvm.MethodName) jdk_68_method_11_code (2 : Nat) (Option.none : Option Jvm.ClassFile.FieldType), Jvm.Cond.code ({ cls := "java/lang/StringLatin1", name := "inflate", desc := "([BI[BII)V" } : Jvm.MethodName) jdk_43_method_50_code (5 : Nat) (Option.none : Option Jvm.ClassFile.FieldType), Jvm.Cond.code ({ cls := "java/lang/StringUTF16", name := "inflate", desc := "([BI[BII)V" } : Jvm.MethodName) jdk_52_method_86_code (6 : Nat) (Option.none : Option Jvm.ClassFile.FieldType), Jvm.Cond.code ({ cls := "com/example/helvedir/helvedir/DiagnosticQuotePinLaw", name := "low", desc := "(C)Z" } : Jvm.MethodName) method_4_code (1 : Nat) (Option.some Jvm.ClassFile.FieldType.boolean), Jvm.Cond.code ({ cls := "java/lang/StringUTF16", name := "charAt", desc := "([BI)C" } : Jvm.MethodName) jdk_52_method_83_code (2 : Nat) (Option.some Jvm.ClassFile.FieldType.char), Jvm.Cond.code ({ cls := "java/lang/StringUTF16", name := "checkIndex", desc := "(I[B)V" } : Jvm.MethodName) jdk_52_method_91_code (2 : Nat) (Option.none : Option Jvm.ClassFile.FieldType), Jvm.Cond.code ({ cls := "java/lang/Character", name := "toCodePoint", desc := "(CC)I" } : Jvm.MethodName) jdk_89_method_19_code (2 : Nat) (Option.some Jvm.ClassFile.FieldType.int), Jvm.Cond.code ({ cls := "java/lang/String", name := "isEmpty", desc := "()Z" } : Jvm.MethodName) jdk_42_method_55_code (1 : Nat) (Option.some Jvm.ClassFile.FieldType.boolean)]
set_option maxRecDepth 65536 in
theorem codes_eq : words1.filter isCode = codes1 := rfl
theorem w_codes : ∀ c ∈ words1.filter isCode, c.before args0 about1 = true := by
  rw [codes_eq]
  intro c hc
  simp only [codes1, List.mem_cons, List.not_mem_nil, or_false] at hc
  rcases hc with rfl | rfl | rfl | rfl | rfl | rfl | rfl | rfl | rfl | rfl | rfl | rfl | rfl | rfl | rfl | rfl | rfl | rfl | rfl | rfl | rfl | rfl | rfl | rfl | rfl | rfl | rfl | rfl | rfl | rfl | rfl | rfl | rfl | rfl | rfl | rfl | rfl | rfl | rfl | rfl | rfl | rfl | rfl | rfl | rfl | rfl | rfl | rfl | rfl | rfl | rfl | rfl | rfl | rfl | rfl | rfl | rfl | rfl | rfl | rfl | rfl | rfl | rfl | rfl | rfl | rfl | rfl | rfl | rfl | rfl | rfl | rfl | rfl
  · exact w_c0
  · exact w_c1
  · exact w_c2
  · exact w_c3
  · exact w_c4
  · exact w_c5
  · exact w_c6
  · exact w_c7
  · exact w_c8
  · exact w_c9
  · exact w_c10
  · exact w_c11
  · exact w_c12
  · exact w_c13
  · exact w_c14
  · exact w_c15
  · exact w_c16
  · exact w_c17
  · exact w_c18
  · exact w_c19
  · exact w_c20
  · exact w_c21
  · exact w_c22
  · exact w_c23
  · exact w_c24
  · exact w_c25
  · exact w_c26
  · exact w_c27
  · exact w_c28
  · exact w_c29
  · exact w_c30
  · exact w_c31
  · exact w_c32
  · exact w_c33
  · exact w_c34
  · exact w_c35
  · exact w_c36
  · exact w_c37
  · exact w_c38
  · exact w_c39
  · exact w_c40
  · exact w_c41
  · exact w_c42
  · exact w_c43
  · exact w_c44
  · exact w_c45
  · exact w_c46
  · exact w_c47
  · exact w_c48
  · exact w_c49
  · exact w_c50
  · exact w_c51
  · exact w_c52
  · exact w_c53
  · exact w_c54
  · exact w_c55
  · exact w_c56
  · exact w_c57
  · exact w_c58
  · exact w_c59
  · exact w_c60
  · exact w_c61
  · exact w_c62
  · exact w_c63
  · exact w_c64
  · exact w_c65
  · exact w_c66
  · exact w_c67
  · exact w_c68
  · exact w_c69
  · exact w_c70
  · exact w_c71
  · exact w_c72
set_option maxRecDepth 65536 in
theorem w_t1 : (words1.take 24).all (fun c => isCode c || c.before args0 about1) = true := by decide +kernel
set_option maxRecDepth 65536 in
theorem w_t2 : ((words1.drop 24).take 24).all (fun c => isCode c || c.before args0 about1) = true := by decide +kernel
set_option maxRecDepth 65536 in
theorem w_t3 : (((words1.drop 24).drop 24).take 24).all (fun c => isCode c || c.before args0 about1) = true := by decide +kernel
set_option maxRecDepth 65536 in
theorem w_t4 : ((((words1.drop 24).drop 24).drop 24).take 24).all (fun c => isCode c || c.before args0 about1) = true := by decide +kernel
set_option maxRecDepth 65536 in
theorem w_t5 : (((((words1.drop 24).drop 24).drop 24).drop 24).take 24).all (fun c => isCode c || c.before args0 about1) = true := by decide +kernel
set_option maxRecDepth 65536 in
theorem w_t6 : ((((((words1.drop 24).drop 24).drop 24).drop 24).drop 24).take 24).all (fun c => isCode c || c.before args0 about1) = true := by decide +kernel
set_option maxRecDepth 65536 in
theorem w_t7 : (((((((words1.drop 24).drop 24).drop 24).drop 24).drop 24).drop 24).take 24).all (fun c => isCode c || c.before args0 about1) = true := by decide +kernel
set_option maxRecDepth 65536 in
theorem w_t8 : ((((((((words1.drop 24).drop 24).drop 24).drop 24).drop 24).drop 24).drop 24).take 24).all (fun c => isCode c || c.before args0 about1) = true := by decide +kernel
set_option maxRecDepth 65536 in
theorem w_t9 : (((((((((words1.drop 24).drop 24).drop 24).drop 24).drop 24).drop 24).drop 24).drop 24).take 24).all (fun c => isCode c || c.before args0 about1) = true := by decide +kernel
set_option maxRecDepth 65536 in
theorem w_t10 : ((((((((((words1.drop 24).drop 24).drop 24).drop 24).drop 24).drop 24).drop 24).drop 24).drop 24).take 24).all (fun c => isCode c || c.before args0 about1) = true := by decide +kernel
set_option maxRecDepth 65536 in
theorem w_t11 : (((((((((((words1.drop 24).drop 24).drop 24).drop 24).drop 24).drop 24).drop 24).drop 24).drop 24).drop 24).take 24).all (fun c => isCode c || c.before args0 about1) = true := by decide +kernel
set_option maxRecDepth 65536 in
theorem w_t12 : ((((((((((((words1.drop 24).drop 24).drop 24).drop 24).drop 24).drop 24).drop 24).drop 24).drop 24).drop 24).drop 24).take 24).all (fun c => isCode c || c.before args0 about1) = true := by decide +kernel
set_option maxRecDepth 65536 in
theorem w_t13 : (((((((((((((words1.drop 24).drop 24).drop 24).drop 24).drop 24).drop 24).drop 24).drop 24).drop 24).drop 24).drop 24).drop 24).take 24).all (fun c => isCode c || c.before args0 about1) = true := by decide +kernel
set_option maxRecDepth 65536 in
theorem w_t14 : ((((((((((((((words1.drop 24).drop 24).drop 24).drop 24).drop 24).drop 24).drop 24).drop 24).drop 24).drop 24).drop 24).drop 24).drop 24).take 24).all (fun c => isCode c || c.before args0 about1) = true := by decide +kernel
set_option maxRecDepth 65536 in
theorem w_t15 : ((((((((((((((words1.drop 24).drop 24).drop 24).drop 24).drop 24).drop 24).drop 24).drop 24).drop 24).drop 24).drop 24).drop 24).drop 24).drop 24).all (fun c => isCode c || c.before args0 about1) = true := by decide +kernel
theorem w_tables : (allAtoms (Jvm.Cond.code x code maxLocals ret :: tables_1)).before args0 about1 = true := by
  rw [allAtoms_all]
  show words1.all (fun c => c.before args0 about1) = true
  refine all_split ?_ w_codes
  rw [← List.take_append_drop 24 words1, List.all_append, w_t1, ← List.take_append_drop 24 (words1.drop 24), List.all_append, w_t2, ← List.take_append_drop 24 ((words1.drop 24).drop 24), List.all_append, w_t3, ← List.take_append_drop 24 (((words1.drop 24).drop 24).drop 24), List.all_append, w_t4, ← List.take_append_drop 24 ((((words1.drop 24).drop 24).drop 24).drop 24), List.all_append, w_t5, ← List.take_append_drop 24 (((((words1.drop 24).drop 24).drop 24).drop 24).drop 24), List.all_append, w_t6, ← List.take_append_drop 24 ((((((words1.drop 24).drop 24).drop 24).drop 24).drop 24).drop 24), List.all_append, w_t7, ← List.take_append_drop 24 (((((((words1.drop 24).drop 24).drop 24).drop 24).drop 24).drop 24).drop 24), List.all_append, w_t8, ← List.take_append_drop 24 ((((((((words1.drop 24).drop 24).drop 24).drop 24).drop 24).drop 24).drop 24).drop 24), List.all_append, w_t9, ← List.take_append_drop 24 (((((((((words1.drop 24).drop 24).drop 24).drop 24).drop 24).drop 24).drop 24).drop 24).drop 24), List.all_append, w_t10, ← List.take_append_drop 24 ((((((((((words1.drop 24).drop 24).drop 24).drop 24).drop 24).drop 24).drop 24).drop 24).drop 24).drop 24), List.all_append, w_t11, ← List.take_append_drop 24 (((((((((((words1.drop 24).drop 24).drop 24).drop 24).drop 24).drop 24).drop 24).drop 24).drop 24).drop 24).drop 24), List.all_append, w_t12, ← List.take_append_drop 24 ((((((((((((words1.drop 24).drop 24).drop 24).drop 24).drop 24).drop 24).drop 24).drop 24).drop 24).drop 24).drop 24).drop 24), List.all_append, w_t13, ← List.take_append_drop 24 (((((((((((((words1.drop 24).drop 24).drop 24).drop 24).drop 24).drop 24).drop 24).drop 24).drop 24).drop 24).drop 24).drop 24).drop 24), List.all_append, w_t14, w_t15]
  rfl
set_option maxRecDepth 65536 in
theorem w_rest : rest_1_c.before args0 about1 = true := by decide +kernel
set_option maxRecDepth 65536 in
theorem w_case : (Jvm.Cond.and given_1 narrow_1).before args0 about1 = true := by decide +kernel
set_option maxRecDepth 65536 in
theorem w_consts : constsHeld consts_1 about1 := Jvm.Lit.constsHeldB_iff.mp (by decide +kernel)
theorem w_applies : (headSpec (Jvm.Cond.code x code maxLocals ret :: tables_1) room_1).applies x e0.platform about1 = true :=
  (Spec.applies_iff w_frames).mpr ⟨w_running, w_runnable, w_alone, w_named, w_hears, w_ripe, w_room, w_tables⟩
theorem atStart : AtStart classFile x code maxLocals ret World_1 tables_1 room_1 Calls_1 rest_1 Pre_1 launch0 p0 e0 about1 theMethod args0 below0 :=
  ⟨lists_1, trivial, launch0.admits_env _ _ _, launch0.least_env, fairChoices_fair.cas, fairChoices_fair.clock, w_frames, w_args, w_heap, w_applies, ⟨w_consts, trivial⟩, w_rest, w_case⟩
end start1
theorem witness_1 : WitnessClaimed_1 := ⟨start1.p0, start1.e0, start1.about1, start1.theMethod, start1.args0, start1.below0, start1.atStart⟩
end Jvm.Pilot.@@N@@
