import JvmDerived
import JvmDerived.Pilot.@@N@@Statement
import JvmDerived.Pilot.@@N@@Code
set_option linter.unusedVariables false
set_option linter.unusedSimpArgs false
@@BLOCK:NumsL.lean.txt@@
namespace Jvm.Pilot.@@N@@
open Jvm Jvm.ClassFile Sem Op Lib Jvm.Free Jvm.Stand Jvm.LawKit Jvm.RoadKit Bundle Jvm.Pilot.@@N@@.Jvm.D
/-- from this state and frame the body comes to its end, with what G says -/
def Go (p : Program) (e : Env) (below : List Frame) (G : Outcome → State → Prop) (T : State) (f : JFrame) : Prop :=
  ∃ s₂ o, Steps p.tables e below (T.setTop f) s₂ ∧ s₂.status = .running ∧ Ended s₂ below o ∧ G o s₂
theorem Go.by {p : Program} {e : Env} {below : List Frame} {G : Outcome → State → Prop} {T T' : State} {f f' : JFrame} (k : ∀ t, Steps p.tables e below (T'.setTop f') t → Steps p.tables e below (T.setTop f) t) (g : Go p e below G T' f') : Go p e below G T f := by
  obtain ⟨s₂, o, h1, h2⟩ := g; exact ⟨s₂, o, k _ h1, h2⟩
theorem Old.le {Z : State} {n0 : Nat} {h : Heap} (O : Old Z n0 h) : n0 ≤ h.size := O.1 ▸ O.2.1

theorem ord_fld {args : Array Value} {s : State} {t : Term} {C n d : String} {k : Int32} {a : Addr} (h : (Cond.eq (Term.field t C n d) (Term.int k)).value args s none s [] = some true) (ht : t.eval args s none [] s = some (.ref a)) : Fld s s.heap a C n d (.int k) := by
  obtain ⟨x, y, hx, hy, -, kin⟩ := cmp_v (Or.inl h)
  obtain rfl : y = .int k := (Option.some.inj ((Term.int_eval k).symm.trans hy)).symm
  obtain ⟨z, rfl⟩ := kin
  have e : z = k := by simpa [Cond.value, hx, hy] using h
  subst e
  exact Fld.start (by rw [← fld_at ht]; exact hx)

theorem own_nsroot {Z : State} {a0 : Array Value} {O K : String} {n : Nat} (w : (Cond.noSuperclass O).before a0 Z = true) (wk : (Cond.instantiable K n).before a0 Z = true) (hn : O ≠ K) : NS Z O K := by
  obtain ⟨c, k, h1, h2, h3, -, -⟩ := Cond.noSuperclass_spec w
  obtain ⟨t, kt, g1, -⟩ := Cond.instantiable_spec wk
  have ne := ids_ne h1 g1 hn
  refine ⟨c, t, h1, g1, fun fuel => ?_⟩
  cases fuel with
  | zero => rfl
  | succ f => simp [Vm.isSubclassAux, ne, h2, h3]
theorem own_nsno {Z : State} {a0 : Array Value} {C S K : String} {m : Nat} (w : (Cond.superclass C S).before a0 Z = true) (wk : (Cond.instantiable K m).before a0 Z = true) (n : NS Z C K) (hn : C ≠ K) : ∃ c t, Z.vm.findClass C = some c ∧ Z.vm.findClass K = some t ∧ Z.vm.assignable c t = false := by
  obtain ⟨c, t, h0, g0, n3⟩ := n
  obtain ⟨p, k, kp, h1, h2, h3, h4, h5, -, h7⟩ := Cond.superclass_spec h0 w
  obtain ⟨t', kt, g1, g2, g3, g4, -⟩ := Cond.instantiable_spec wk
  cases g0.symm.trans g1
  simp only [Bool.or_eq_false_iff] at g4
  have ne := ids_ne h0 g0 hn
  refine ⟨c, t, h0, g0, ?_⟩
  show Z.vm.assignableAux (255 + 1) c t = false
  simp [Vm.assignableAux, ne, h2, g2, h5, g3, g4.1, Vm.isSubclass, n3]

theorem own_cache {args : Array Value} {s : State} {wc : Addr} {cl : Cell} (ec : IntBox.cacheT.eval args s none [] s = some (.ref wc)) (A : Arr s s.heap wc cl (.object "java/lang/Integer")) (hsz : cl.slots.size = 256)
    (hall : (Cond.all IntBox.cacheT (.and (.exactly (.elem IntBox.cacheT (.index 0)) "java/lang/Integer") (.eq (.field (.elem IntBox.cacheT (.index 0)) "java/lang/Integer" "value" "I") (.sub (.index 0) (.int 128))))).before args s = true) :
    ∀ w : Int32, ¬ w < -128 → ¬ 127 < w → ∃ b : Addr, ¬ ((w + 128) < 0 ∨ cl.slots.size ≤ (w + 128).toNatClampNeg) ∧ cl.slots[(w + 128).toNatClampNeg]? = some (.ref b) ∧ Exa s s.heap b "java/lang/Integer" := by
  intro w h1 h2
  obtain ⟨hb, hlt⟩ := IntBox.place_ok w h1 h2
  have hat : s.arrayAt? wc = some cl := IntBox.arrayAt_of A.1 A.2.1 A.2.2
  have hj := Cond.all_elim (c := .and (.exactly (.elem IntBox.cacheT (.index 0)) "java/lang/Integer") (.eq (.field (.elem IntBox.cacheT (.index 0)) "java/lang/Integer" "value" "I") (.sub (.index 0) (.int 128)))) ec hat (by simpa [Cond.before, Cond.holds] using hall) _ (by rw [hsz]; exact hlt)
  have hv : (Cond.and (.exactly (.elem IntBox.cacheT (.index 0)) "java/lang/Integer") (.eq (.field (.elem IntBox.cacheT (.index 0)) "java/lang/Integer" "value" "I") (.sub (.index 0) (.int 128)))).holds args s none s [(w + 128).toNatClampNeg] = true := by simpa [Cond.holds] using hj
  rw [Cond.holds_and, Bool.and_eq_true] at hv
  obtain ⟨b, c', cell, k, e1, e2, e3, e4, e5, rfl, e7⟩ := Cond.exactly_spec hv.1
  have g2 := elem_in e1 (show IntBox.cacheT.eval args s none [(w + 128).toNatClampNeg] s = some (.ref wc) from ec) (show (Term.index 0).eval args s none [(w + 128).toNatClampNeg] s = some (.int (w + 128).toNatClampNeg.toInt32) from rfl) A.1
  obtain ⟨-, hback⟩ := IntBox.place_nonneg _ hlt
  rw [hback] at g2
  exact ⟨b, by rw [hsz]; exact hb, g2.2, ⟨cell, k, e3, e2, e4, e5, e7⟩⟩

def Sf (Z : State) (wU : Addr) (wR : Addr) (wc : Addr)  (cl : Cell) : Prop := Sta Z Z.heap "com/example/honest_replica/honestreplica/model/Credential$Kind" "USER" "Lcom/example/honest_replica/honestreplica/model/Credential$Kind;" (.ref wU) ∧ Exa Z Z.heap wU "com/example/honest_replica/honestreplica/model/Credential$Kind" ∧ Sta Z Z.heap "com/example/honest_replica/honestreplica/model/Credential$Kind" "REPLICA" "Lcom/example/honest_replica/honestreplica/model/Credential$Kind;" (.ref wR) ∧ Exa Z Z.heap wR "com/example/honest_replica/honestreplica/model/Credential$Kind" ∧ wU ≠ wR ∧ Sta Z Z.heap "java/lang/Integer$IntegerCache" "high" "I" (.int 127) ∧ Sta Z Z.heap "java/lang/Integer$IntegerCache" "cache" "[Ljava/lang/Integer;" (.ref wc) ∧ Arr Z Z.heap wc cl (.object "java/lang/Integer") ∧ (∀ w : Int32, ¬ w < -128 → ¬ 127 < w → ∃ b : Addr, ¬ ((w + 128) < 0 ∨ cl.slots.size ≤ (w + 128).toNatClampNeg) ∧ cl.slots[(w + 128).toNatClampNeg]? = some (.ref b) ∧ Exa Z Z.heap b "java/lang/Integer") ∧ True
theorem own_nn (v : Int32) : ¬ (v &&& (2147483647 : Int32)) < 0 := by
  have e := Jvm.Kit.i32_mask v 2147483647 (k := 31) (by decide) (by decide)
  rw [Int32.lt_iff_toInt_lt, e]
  have : (0 : Int32).toInt = 0 := rfl
  omega
def eqv (k1 : Addr) (i1 : Int32) (k2 : Addr) (i2 : Int32) : Int32 := if k1 = k2 ∧ i1 = i2 then 1 else 0
def Qk (wU wR : Addr) (h0 : Heap) (n0 : Nat) (v : Option Value) (h : Heap) (L : List Loc) : Prop := ∃ kd : Addr, v = some (.ref kd) ∧ (kd = wU ∨ kd = wR) ∧ Fr n0 L ∧ h = h0
def Qn (h0 : Heap) (n0 : Nat) (v : Option Value) (h : Heap) (L : List Loc) : Prop := v = none ∧ Fr n0 L ∧ h = h0
def Qi (z : Int32) (h0 : Heap) (n0 : Nat) (v : Option Value) (h : Heap) (L : List Loc) : Prop := v = some (.int z) ∧ Fr n0 L ∧ h = h0
def Qe (Z : State) (a : Addr) (kd : Addr) (id : Int32) (h0 : Heap) (n0 : Nat) (v : Option Value) (h : Heap) (L : List Loc) : Prop := v = none ∧ Fr n0 L ∧ Keep h0 h [a] ∧ Fld Z h a "com/example/honest_replica/honestreplica/model/Entity" "kind" "Lcom/example/honest_replica/honestreplica/model/Credential$Kind;" (.ref kd) ∧ Fld Z h a "com/example/honest_replica/honestreplica/model/Entity" "id" "I" (.int id)
def Qni (Z : State) (a : Addr) (h0 : Heap) (n0 : Nat) (v : Option Value) (h : Heap) (L : List Loc) : Prop := v = none ∧ Fr n0 L ∧ Keep h0 h [a]
def Qv (Z : State) (h0 : Heap) (n0 : Nat) (v : Option Value) (h : Heap) (L : List Loc) : Prop := ∃ b : Addr, v = some (.ref b) ∧ Fr n0 L ∧ Keep h0 h [] ∧ Exa Z h b "java/lang/Integer"
def Q1 (n0 : Nat) (v : Option Value) (h : Heap) (L : List Loc) : Prop := v = some (.int 1) ∧ Fr n0 L
theorem d_kof_0 : decode method_2_code 0 = .ok (.iload_n 0, 1) := by decide +kernel
theorem d_kof_1 : decode method_2_code 1 = .ok (.iconst 1, 1) := by decide +kernel
theorem d_kof_2 : decode method_2_code 2 = .ok (.iand, 1) := by decide +kernel
theorem d_kof_3 : decode method_2_code 3 = .ok (.ifCond .ne 7, 3) := by decide +kernel
theorem d_kof_6 : decode method_2_code 6 = .ok (.getstatic 7, 3) := by decide +kernel
theorem d_kof_9 : decode method_2_code 9 = .ok (.areturn, 1) := by decide +kernel
theorem d_kof_10 : decode method_2_code 10 = .ok (.getstatic 13, 3) := by decide +kernel
theorem d_kof_13 : decode method_2_code 13 = .ok (.areturn, 1) := by decide +kernel
theorem pn_kof : plainFor (⟨"com/example/honest_replica/honestreplica/model/EntityEqualsPinLaw", "kindOf", "(I)Lcom/example/honest_replica/honestreplica/model/Credential$Kind;"⟩ : MethodName) = true := plainFor_of_name (by first | (simp [plainName, overriddenIn]; done) | decide +kernel)
theorem ef_kof (m : MethodId) (x0 : Int32) : entryFrame m #[(.int x0)] 1 = mkF m 0 #[.val (.int x0)] [] := by first | (simp [entryFrame, mkF, argsToLocals, Value.category]; done) | rfl
set_option maxRecDepth 65536 in
set_option maxHeartbeats 40000000 in
theorem rm_kof (l : Launch) (Z : State) (a0 : Array Value) (hw : ∀ d ∈ tables_1, d.before a0 Z = true) (ws : List Jvm.Cond) (p1 : Int32) (wU : Addr) (wR : Addr) (wc : Addr)  (cl : Cell) (hS : Sf Z wU wR wc cl) (h0 : Heap) (n0 : Nat) (O : Old Z n0 h0)  :
    MetFree l (⟨"com/example/honest_replica/honestreplica/model/EntityEqualsPinLaw", "kindOf", "(I)Lcom/example/honest_replica/honestreplica/model/Credential$Kind;"⟩ : MethodName) (head1 (Jvm.Cond.code (⟨"com/example/honest_replica/honestreplica/model/EntityEqualsPinLaw", "kindOf", "(I)Lcom/example/honest_replica/honestreplica/model/Credential$Kind;"⟩ : MethodName) method_2_code 1 (some (.object "com/example/honest_replica/honestreplica/model/Credential$Kind")) :: ws) ({ frames := 0, cells := 0, slots := 0, locals := 0 } : Room)) (fun as_ U => as_ = #[(.int p1)] ∧ Z.Warmed39 U.vm ∧ U.heap = h0) (fun _ _ _ _ _ => True) (fun _ U o U' => ∃ v L, o = .returned v ∧ Qk wU wR h0 n0 v U'.heap L ∧ FrameEnd U o U' L ({ frames := 0, cells := 0, slots := 0, locals := 0 } : Room).cells ({ frames := 0, cells := 0, slots := 0, locals := 0 } : Room).slots) := by
  refine MetFree.of_bodySF pn_kof hisR ?_
  intro p e s m args below meth c s₁ Bd hml0 hP hK
  obtain ⟨rfl, hZ, hh⟩ := hP
  have hx := Bd.exec
  have hby := Bd.bytes
  have hml : c.maxLocals = 1 := hml0
  have hown : s.vm.findClass "com/example/honest_replica/honestreplica/model/EntityEqualsPinLaw" = some m.cls := findClass_of_methodNamed Bd.named
  have hnm := (name_of_methodNamed Bd.named Bd.method).1
  have X0 : Stand p l e ({ frames := 0, cells := 0, slots := 0, locals := 0 } : Room) s m #[(.int p1)] below meth c s₁ [] 0 0 := Stand.of_body Bd
  have e0 : s₁.heap = h0 := by rw [← hh, Bd.state]; rfl
  have N := Fr.nil n0
  have K : Keep h0 h0 [] := Keep.refl _ _
  refine Go.by (T' := s₁) (f' := (mkF m 0 #[.val (.int p1)] [])) (fun _ k => castTop (ef_kof m p1) k) ?_
  have E_wU := hS.2.1.ext O.2
  have E_wR := hS.2.2.2.1.ext O.2
  refine Go.by (T' := s₁) (f' := (mkF m 1 #[.val (.int p1)] [(.int p1)])) (fun _ k => XS.iloadN X0.here hx rfl (hb hby d_kof_0) rfl k) ?_
  refine Go.by (T' := s₁) (f' := (mkF m 2 #[.val (.int p1)] [(.int (1 : Int32)), (.int p1)])) (fun _ k => XS.iconst X0.here hx rfl (hb hby d_kof_1) k) ?_
  refine Go.by (T' := s₁) (f' := (mkF m 3 #[.val (.int p1)] [(.int (p1 &&& (1 : Int32)))])) (fun _ k => XS.iand X0.here hx rfl (hb hby d_kof_2) rfl k) ?_
  by_cases hc3_1 : (p1 &&& (1 : Int32)) = (0 : Int32)
  · skip
    refine Go.by (T' := s₁) (f' := (mkF m 6 #[.val (.int p1)] [])) (fun _ k => XS.ifNo X0.here hx rfl (hb hby d_kof_3) rfl ((if0 _ _).trans (teq hc3_1).2) k) ?_
    obtain ⟨T2, X2, e2, st2⟩ := getS2 X0 hx hZ hown (host := "") (Or.inl (hw _ (List.mem_of_getElem? (i := 4) rfl))) Via.refl e0 (Sta.ext O.2 hS.1) (g := (mkF m 6 #[.val (.int p1)] [])) rfl (hb hby d_kof_6)
    refine Go.by (T' := T2) (f' := (mkF m 9 #[.val (.int p1)] [(.ref wU)])) (st2) ?_
    obtain ⟨fs, hr, hrun, hended, hW, hsame⟩ := X2.leave (v := some (.ref wU)) (fun h => by rw [Bd.returns] at h; cases h)
    refine ⟨_, _, retOut X2 hx Bd.returns rfl (Or.inr (Or.inr (Or.inr (Or.inr ⟨rfl, rfl, rfl⟩)))) (hb hby d_kof_9) hr, hrun, hended, _, _, rfl, ?_, ⟨_, rfl⟩, hW, hsame.mono (by decide) (by decide)⟩
    show Qk wU wR h0 n0 (some (.ref wU)) T2.heap _
    rw [e2]
    exact ⟨_, rfl, Or.inl rfl, N, rfl⟩
  · skip
    refine Go.by (T' := s₁) (f' := (mkF m 10 #[.val (.int p1)] [])) (fun _ k => XS.ifYes X0.here hx rfl (pc0 := 3) (pc' := 10) rfl (hb hby d_kof_3) rfl ((if0 _ _).trans (feq hc3_1).2) (by decide) (by decide) k) ?_
    obtain ⟨T3, X3, e3, st3⟩ := getS2 X0 hx hZ hown (host := "") (Or.inl (hw _ (List.mem_of_getElem? (i := 39) rfl))) Via.refl e0 (Sta.ext O.2 hS.2.2.1) (g := (mkF m 10 #[.val (.int p1)] [])) rfl (hb hby d_kof_10)
    refine Go.by (T' := T3) (f' := (mkF m 13 #[.val (.int p1)] [(.ref wR)])) (st3) ?_
    obtain ⟨fs, hr, hrun, hended, hW, hsame⟩ := X3.leave (v := some (.ref wR)) (fun h => by rw [Bd.returns] at h; cases h)
    refine ⟨_, _, retOut X3 hx Bd.returns rfl (Or.inr (Or.inr (Or.inr (Or.inr ⟨rfl, rfl, rfl⟩)))) (hb hby d_kof_13) hr, hrun, hended, _, _, rfl, ?_, ⟨_, rfl⟩, hW, hsame.mono (by decide) (by decide)⟩
    show Qk wU wR h0 n0 (some (.ref wR)) T3.heap _
    rw [e3]
    exact ⟨_, rfl, Or.inr rfl, N, rfl⟩

theorem d_ni_0 : decode jdk_18_method_1_code 0 = .ok (.aload_n 0, 1) := by decide +kernel
theorem d_ni_1 : decode jdk_18_method_1_code 1 = .ok (.invokespecial 1, 3) := by decide +kernel
theorem d_ni_4 : decode jdk_18_method_1_code 4 = .ok (.return_, 1) := by decide +kernel
theorem pn_ni : plainFor (⟨"java/lang/Number", "<init>", "()V"⟩ : MethodName) = true := plainFor_of_name (by first | (simp [plainName, overriddenIn]; done) | decide +kernel)
theorem ef_ni (m : MethodId) (x0 : Addr) : entryFrame m #[(.ref x0)] 1 = mkF m 0 #[.val (.ref x0)] [] := by first | (simp [entryFrame, mkF, argsToLocals, Value.category]; done) | rfl
set_option maxRecDepth 65536 in
set_option maxHeartbeats 40000000 in
theorem rm_ni (l : Launch) (Z : State) (a0 : Array Value) (hw : ∀ d ∈ tables_1, d.before a0 Z = true) (ws : List Jvm.Cond) (a : Addr) (h0 : Heap) (n0 : Nat) (O : Old Z n0 h0)  :
    MetFree l (⟨"java/lang/Number", "<init>", "()V"⟩ : MethodName) (head1 (Jvm.Cond.code (⟨"java/lang/Number", "<init>", "()V"⟩ : MethodName) jdk_18_method_1_code 1 none :: ws) ({ frames := 1, cells := 0, slots := 0, locals := 12 } : Room)) (fun as_ U => as_ = #[(.ref a)] ∧ Z.Warmed39 U.vm ∧ U.heap = h0) (fun _ _ _ _ _ => True) (fun _ U o U' => ∃ v L, o = .returned v ∧ Qn h0 n0 v U'.heap L ∧ FrameEnd U o U' L ({ frames := 1, cells := 0, slots := 0, locals := 12 } : Room).cells ({ frames := 1, cells := 0, slots := 0, locals := 12 } : Room).slots) := by
  refine MetFree.of_bodySF pn_ni hisR ?_
  intro p e s m args below meth c s₁ Bd hml0 hP hK
  obtain ⟨rfl, hZ, hh⟩ := hP
  have hx := Bd.exec
  have hby := Bd.bytes
  have hml : c.maxLocals = 1 := hml0
  have hown : s.vm.findClass "java/lang/Number" = some m.cls := findClass_of_methodNamed Bd.named
  have hnm := (name_of_methodNamed Bd.named Bd.method).1
  have X0 : Stand p l e ({ frames := 1, cells := 0, slots := 0, locals := 12 } : Room) s m #[(.ref a)] below meth c s₁ [] 0 0 := Stand.of_body Bd
  have e0 : s₁.heap = h0 := by rw [← hh, Bd.state]; rfl
  have N := Fr.nil n0
  have K : Keep h0 h0 [] := Keep.refl _ _
  refine Go.by (T' := s₁) (f' := (mkF m 0 #[.val (.ref a)] [])) (fun _ k => castTop (ef_ni m a) k) ?_
  refine Go.by (T' := s₁) (f' := (mkF m 1 #[.val (.ref a)] [(.ref a)])) (fun _ k => XS.aloadN X0.here hx rfl (hb hby d_ni_0) rfl rfl k) ?_
  obtain ⟨T1, X1, e1, st1⟩ := initO X0 hx hZ hown (hw _ (List.mem_of_getElem? (i := 54) rfl)) (hw _ (List.mem_of_getElem? (i := 15) rfl)) (hw _ (List.mem_of_getElem? (i := 16) rfl)) e0 (g := (mkF m 1 #[.val (.ref a)] [(.ref a)])) rfl (by rw [hml]; rfl) rfl (hb hby d_ni_1) (by decide) (W := 0) (by show 2 * 0 + _ ≤ _; exact Nat.le_of_eq rfl) (by decide)
  refine Go.by (T' := T1) (f' := (mkF m 4 #[.val (.ref a)] [])) (st1) ?_
  obtain ⟨fs, hr, hrun, hended, hW, hsame⟩ := X1.leave (v := none) (fun _ => rfl)
  refine ⟨_, _, X1.returnOut hx Bd.returns (hb hby d_ni_4) hr, hrun, hended, _, _, rfl, ?_, ⟨_, rfl⟩, hW, hsame.mono (by decide) (by decide)⟩
  show Qn h0 n0 (none) T1.heap _
  rw [e1]
  exact ⟨rfl, N, rfl⟩

theorem d_ii_0 : decode jdk_33_method_23_code 0 = .ok (.aload_n 0, 1) := by decide +kernel
theorem d_ii_1 : decode jdk_33_method_23_code 1 = .ok (.invokespecial 202, 3) := by decide +kernel
theorem d_ii_4 : decode jdk_33_method_23_code 4 = .ok (.aload_n 0, 1) := by decide +kernel
theorem d_ii_5 : decode jdk_33_method_23_code 5 = .ok (.iload_n 1, 1) := by decide +kernel
theorem d_ii_6 : decode jdk_33_method_23_code 6 = .ok (.putfield 205, 3) := by decide +kernel
theorem d_ii_9 : decode jdk_33_method_23_code 9 = .ok (.return_, 1) := by decide +kernel
theorem pn_ii : plainFor (⟨"java/lang/Integer", "<init>", "(I)V"⟩ : MethodName) = true := plainFor_of_name (by first | (simp [plainName, overriddenIn]; done) | decide +kernel)
theorem pd_ii_0 : parseMethodDescriptor "()V" = some ⟨[], none⟩ := by decide +kernel
theorem ef_ii (m : MethodId) (x0 : Addr) (x1 : Int32) : entryFrame m #[(.ref x0), (.int x1)] 2 = mkF m 0 #[.val (.ref x0), .val (.int x1)] [] := by first | (simp [entryFrame, mkF, argsToLocals, Value.category]; done) | rfl
set_option maxRecDepth 65536 in
set_option maxHeartbeats 40000000 in
theorem rm_ii (l : Launch) (Z : State) (a0 : Array Value) (hw : ∀ d ∈ tables_1, d.before a0 Z = true) (ws : List Jvm.Cond) (a : Addr) (p1 : Int32) (h0 : Heap) (n0 : Nat) (O : Old Z n0 h0) (E_a : Exa Z h0 a "java/lang/Integer") (F_v : Fld Z h0 a "java/lang/Integer" "value" "I" (.int 0)) (g_a : n0 ≤ a) :
    MetFree l (⟨"java/lang/Integer", "<init>", "(I)V"⟩ : MethodName) (head1 (Jvm.Cond.code (⟨"java/lang/Integer", "<init>", "(I)V"⟩ : MethodName) jdk_33_method_23_code 2 none :: ws) ({ frames := 2, cells := 0, slots := 0, locals := 24 } : Room)) (fun as_ U => as_ = #[(.ref a), (.int p1)] ∧ Z.Warmed39 U.vm ∧ U.heap = h0) (fun _ _ _ _ _ => True) (fun _ U o U' => ∃ v L, o = .returned v ∧ Qni Z a h0 n0 v U'.heap L ∧ FrameEnd U o U' L ({ frames := 2, cells := 0, slots := 0, locals := 24 } : Room).cells ({ frames := 2, cells := 0, slots := 0, locals := 24 } : Room).slots) := by
  refine MetFree.of_bodySF pn_ii hisR ?_
  intro p e s m args below meth c s₁ Bd hml0 hP hK
  obtain ⟨rfl, hZ, hh⟩ := hP
  have hx := Bd.exec
  have hby := Bd.bytes
  have hml : c.maxLocals = 2 := hml0
  have hown : s.vm.findClass "java/lang/Integer" = some m.cls := findClass_of_methodNamed Bd.named
  have hnm := (name_of_methodNamed Bd.named Bd.method).1
  have X0 : Stand p l e ({ frames := 2, cells := 0, slots := 0, locals := 24 } : Room) s m #[(.ref a), (.int p1)] below meth c s₁ [] 0 0 := Stand.of_body Bd
  have e0 : s₁.heap = h0 := by rw [← hh, Bd.state]; rfl
  have N := Fr.nil n0
  have K : Keep h0 h0 [a] := Keep.refl _ _
  refine Go.by (T' := s₁) (f' := (mkF m 0 #[.val (.ref a), .val (.int p1)] [])) (fun _ k => castTop (ef_ii m a p1) k) ?_
  refine Go.by (T' := s₁) (f' := (mkF m 1 #[.val (.ref a), .val (.int p1)] [(.ref a)])) (fun _ k => XS.aloadN X0.here hx rfl (hb hby d_ii_0) rfl rfl k) ?_
  obtain ⟨v1, _, ⟨T1, L1, k1, n1⟩, -, X1, ⟨Lc1, hQ1, l1, y1, z1⟩, st1⟩ := X0.specialBack hx (y := (⟨"java/lang/Number", "<init>", "()V"⟩ : MethodName)) rfl hown (mvT hZ (hw _ (List.mem_of_getElem? (i := 48) rfl))) (mvT hZ (hw _ (List.mem_of_getElem? (i := 49) rfl))) (mvT hZ (hw _ (List.mem_of_getElem? (i := 53) rfl))) (by decide) (backOf (W := 0) (rm_ni l Z a0 hw [] a h0 n0 O) hZ (hw _ (List.mem_of_getElem? (i := 53) rfl)) (hw _ (List.mem_of_getElem? (i := 52) rfl)) (by decide) (by decide)) (g := (mkF m 1 #[.val (.ref a), .val (.int p1)] [(.ref a)])) rfl (by rw [hml]; rfl) (Steps.refl _) (a := a) (argsL := []) (rest := []) (lenOf pd_ii_0 rfl) rfl (by show 2 * 0 + _ ≤ _; exact Nat.le_of_eq rfl) (hb hby d_ii_1) (fun _ _ => ⟨rfl, e0, (by decide : 0 + 0 ≤ _), (by decide : 0 + 0 ≤ _)⟩)
  dsimp only [Pt.U, Pt.locs, Pt.cells, Pt.slots] at X1 l1 y1 z1 st1 hQ1
  subst l1 y1 z1
  obtain ⟨rfl, Nq1, e1⟩ := hQ1
  replace N := Fr.app N Nq1
  refine Go.by (T' := T1) (f' := (mkF m 4 #[.val (.ref a), .val (.int p1)] [])) (fun _ k => st1.trans k) ?_
  refine Go.by (T' := T1) (f' := (mkF m 5 #[.val (.ref a), .val (.int p1)] [(.ref a)])) (fun _ k => XS.aloadN X1.here hx rfl (hb hby d_ii_4) rfl rfl k) ?_
  refine Go.by (T' := T1) (f' := (mkF m 6 #[.val (.ref a), .val (.int p1)] [(.int p1), (.ref a)])) (fun _ k => XS.iloadN X1.here hx rfl (hb hby d_ii_5) rfl k) ?_
  obtain ⟨T2, h2, X2, e2, W2, st2⟩ := putF X1 hx hZ hown (host := "") (Or.inl (hw _ (List.mem_of_getElem? (i := 55) rfl))) Via.refl e1 F_v E_a (Or.inr ⟨(hw _ (List.mem_of_getElem? (i := 56) rfl)), rfl, hnm⟩) (hw _ (List.mem_of_getElem? (i := 43) rfl)) (ty := .int) (by decide) rfl rfl (g := (mkF m 6 #[.val (.ref a), .val (.int p1)] [(.int p1), (.ref a)])) rfl rfl (hb hby d_ii_6)
  replace E_a := E_a.wr W2
  replace F_v := F_v.same W2
  replace O := O.wr W2 g_a
  replace K := K.wr W2 (Or.inl (by simp))
  replace N := Fr.snoc X2 N g_a
  refine Go.by (T' := T2) (f' := (mkF m 9 #[.val (.ref a), .val (.int p1)] [])) (st2) ?_
  obtain ⟨fs, hr, hrun, hended, hW, hsame⟩ := X2.leave (v := none) (fun _ => rfl)
  refine ⟨_, _, X2.returnOut hx Bd.returns (hb hby d_ii_9) hr, hrun, hended, _, _, rfl, ?_, ⟨_, rfl⟩, hW, hsame.mono (by decide) (by decide)⟩
  show Qni Z a h0 n0 (none) T2.heap _
  rw [e2]
  exact ⟨rfl, N, K⟩

theorem d_vo_0 : decode jdk_33_method_22_code 0 = .ok (.iload_n 0, 1) := by decide +kernel
theorem d_vo_1 : decode jdk_33_method_22_code 1 = .ok (.bipush (-128), 2) := by decide +kernel
theorem d_vo_3 : decode jdk_33_method_22_code 3 = .ok (.if_icmp .lt 20, 3) := by decide +kernel
theorem d_vo_6 : decode jdk_33_method_22_code 6 = .ok (.iload_n 0, 1) := by decide +kernel
theorem d_vo_7 : decode jdk_33_method_22_code 7 = .ok (.getstatic 191, 3) := by decide +kernel
theorem d_vo_10 : decode jdk_33_method_22_code 10 = .ok (.if_icmp .gt 13, 3) := by decide +kernel
theorem d_vo_13 : decode jdk_33_method_22_code 13 = .ok (.getstatic 195, 3) := by decide +kernel
theorem d_vo_16 : decode jdk_33_method_22_code 16 = .ok (.iload_n 0, 1) := by decide +kernel
theorem d_vo_17 : decode jdk_33_method_22_code 17 = .ok (.sipush 128, 3) := by decide +kernel
theorem d_vo_20 : decode jdk_33_method_22_code 20 = .ok (.iadd, 1) := by decide +kernel
theorem d_vo_21 : decode jdk_33_method_22_code 21 = .ok (.aaload, 1) := by decide +kernel
theorem d_vo_22 : decode jdk_33_method_22_code 22 = .ok (.areturn, 1) := by decide +kernel
theorem d_vo_23 : decode jdk_33_method_22_code 23 = .ok (.new 1, 3) := by decide +kernel
theorem d_vo_26 : decode jdk_33_method_22_code 26 = .ok (.dup, 1) := by decide +kernel
theorem d_vo_27 : decode jdk_33_method_22_code 27 = .ok (.iload_n 0, 1) := by decide +kernel
theorem d_vo_28 : decode jdk_33_method_22_code 28 = .ok (.invokespecial 199, 3) := by decide +kernel
theorem d_vo_31 : decode jdk_33_method_22_code 31 = .ok (.areturn, 1) := by decide +kernel
theorem pn_vo : plainFor (⟨"java/lang/Integer", "valueOf", "(I)Ljava/lang/Integer;"⟩ : MethodName) = true := plainFor_of_name (by first | (simp [plainName, overriddenIn]; done) | decide +kernel)
theorem pd_vo_0 : parseMethodDescriptor "(I)V" = some ⟨[.int], none⟩ := by decide +kernel
theorem ef_vo (m : MethodId) (x0 : Int32) : entryFrame m #[(.int x0)] 1 = mkF m 0 #[.val (.int x0)] [] := by first | (simp [entryFrame, mkF, argsToLocals, Value.category]; done) | rfl
set_option maxRecDepth 65536 in
set_option maxHeartbeats 40000000 in
theorem rm_vo (l : Launch) (Z : State) (a0 : Array Value) (hw : ∀ d ∈ tables_1, d.before a0 Z = true) (ws : List Jvm.Cond) (p1 : Int32) (wU : Addr) (wR : Addr) (wc : Addr)  (cl : Cell) (hS : Sf Z wU wR wc cl) (h0 : Heap) (n0 : Nat) (O : Old Z n0 h0)  :
    MetFree l (⟨"java/lang/Integer", "valueOf", "(I)Ljava/lang/Integer;"⟩ : MethodName) (head1 (Jvm.Cond.code (⟨"java/lang/Integer", "valueOf", "(I)Ljava/lang/Integer;"⟩ : MethodName) jdk_33_method_22_code 1 (some (.object "java/lang/Integer")) :: ws) ({ frames := 3, cells := 1, slots := 1, locals := 38 } : Room)) (fun as_ U => as_ = #[(.int p1)] ∧ Z.Warmed39 U.vm ∧ U.heap = h0) (fun _ _ _ _ _ => True) (fun _ U o U' => ∃ v L, o = .returned v ∧ Qv Z h0 n0 v U'.heap L ∧ FrameEnd U o U' L ({ frames := 3, cells := 1, slots := 1, locals := 38 } : Room).cells ({ frames := 3, cells := 1, slots := 1, locals := 38 } : Room).slots) := by
  refine MetFree.of_bodySF pn_vo hisR ?_
  intro p e s m args below meth c s₁ Bd hml0 hP hK
  obtain ⟨rfl, hZ, hh⟩ := hP
  have hx := Bd.exec
  have hby := Bd.bytes
  have hml : c.maxLocals = 1 := hml0
  have hown : s.vm.findClass "java/lang/Integer" = some m.cls := findClass_of_methodNamed Bd.named
  have hnm := (name_of_methodNamed Bd.named Bd.method).1
  have X0 : Stand p l e ({ frames := 3, cells := 1, slots := 1, locals := 38 } : Room) s m #[(.int p1)] below meth c s₁ [] 0 0 := Stand.of_body Bd
  have e0 : s₁.heap = h0 := by rw [← hh, Bd.state]; rfl
  have N := Fr.nil n0
  have K : Keep h0 h0 [] := Keep.refl _ _
  refine Go.by (T' := s₁) (f' := (mkF m 0 #[.val (.int p1)] [])) (fun _ k => castTop (ef_vo m p1) k) ?_
  refine Go.by (T' := s₁) (f' := (mkF m 1 #[.val (.int p1)] [(.int p1)])) (fun _ k => XS.iloadN X0.here hx rfl (hb hby d_vo_0) rfl k) ?_
  refine Go.by (T' := s₁) (f' := (mkF m 3 #[.val (.int p1)] [(.int (-128 : Int32)), (.int p1)])) (fun _ k => XS.bipush X0.here hx rfl (hb hby d_vo_1) k) ?_
  by_cases hc3_1 : p1 < (-128 : Int32)
  · skip
    refine Go.by (T' := s₁) (f' := (mkF m 23 #[.val (.int p1)] [])) (fun _ k => XS.icmpYes X0.here hx rfl (pc0 := 3) (pc' := 23) rfl (hb hby d_vo_3) rfl (tlt hc3_1).1 (by decide) (by decide) k) ?_
    obtain ⟨T2, h2, X2, e2, E2, A2, D2, -, st2⟩ := newO X0 hx hZ hown (hw _ (List.mem_of_getElem? (i := 42) rfl)) (hw _ (List.mem_of_getElem? (i := 43) rfl)) (hw _ (List.mem_of_getElem? (i := 24) rfl)) e0 (g := (mkF m 23 #[.val (.int p1)] [])) rfl (hb hby d_vo_23) (by decide) (by decide)
    obtain ⟨b2, g2⟩ : ∃ z, z = h0.size := ⟨_, rfl⟩
    rw [← g2] at A2 D2 st2
    have g_b2 : n0 ≤ b2 := Nat.le_trans (Old.le O) (Nat.le_of_eq g2.symm)
    have sz_b2 : h0.size ≤ b2 := Nat.le_trans K.1 (Nat.le_of_eq g2.symm)
    replace O := O.ext E2
    replace K := K.ext E2
    have E_b2 := A2
    have F_value_b2 : Fld Z h2 b2 "java/lang/Integer" "value" "I" (.int (0 : Int32)) := D2 (Or.inr (hw _ (List.mem_of_getElem? (i := 56) rfl))) (ty := .int) (by decide)
    refine Go.by (T' := T2) (f' := (mkF m 26 #[.val (.int p1)] [(.ref b2)])) (st2) ?_
    refine Go.by (T' := T2) (f' := (mkF m 27 #[.val (.int p1)] [(.ref b2), (.ref b2)])) (fun _ k => XS.dup X2.here hx rfl (hb hby d_vo_26) rfl rfl k) ?_
    refine Go.by (T' := T2) (f' := (mkF m 28 #[.val (.int p1)] [(.int p1), (.ref b2), (.ref b2)])) (fun _ k => XS.iloadN X2.here hx rfl (hb hby d_vo_27) rfl k) ?_
    obtain ⟨v3, _, ⟨T3, L3, k3, n3⟩, -, X3, ⟨Lc3, hQ3, l3, y3, z3⟩, st3⟩ := X2.specialBack hx (y := (⟨"java/lang/Integer", "<init>", "(I)V"⟩ : MethodName)) rfl hown (mvT hZ (hw _ (List.mem_of_getElem? (i := 44) rfl))) (mvT hZ (hw _ (List.mem_of_getElem? (i := 45) rfl))) (mvT hZ (hw _ (List.mem_of_getElem? (i := 47) rfl))) (by decide) (backOf (W := 1) (rm_ii l Z a0 hw [] b2 p1 h2 n0 O E_b2 F_value_b2 g_b2) hZ (hw _ (List.mem_of_getElem? (i := 47) rfl)) (hw _ (List.mem_of_getElem? (i := 24) rfl)) (by decide) (by decide)) (g := (mkF m 28 #[.val (.int p1)] [(.int p1), (.ref b2), (.ref b2)])) rfl (by rw [hml]; rfl) (Steps.refl _) (a := b2) (argsL := [(.int p1)]) (rest := [(.ref b2)]) (lenOf pd_vo_0 rfl) rfl (by show 2 * 0 + _ ≤ _; exact Nat.le_of_eq rfl) (hb hby d_vo_28) (fun _ _ => ⟨rfl, e2, (by decide : 1 + 0 ≤ _), (by decide : 1 + 0 ≤ _)⟩)
    dsimp only [Pt.U, Pt.locs, Pt.cells, Pt.slots] at X3 l3 y3 z3 st3 hQ3
    subst l3 y3 z3
    obtain ⟨rfl, Nq3, K3⟩ := hQ3
    replace N := Fr.app N Nq3
    replace E_b2 := E_b2.keep K3
    replace O := O.keep K3 (allS g_b2 all0)
    replace K := K.trans K3 (allS (Or.inr sz_b2) all0)
    refine Go.by (T' := T3) (f' := (mkF m 31 #[.val (.int p1)] [(.ref b2)])) (fun _ k => st3.trans k) ?_
    obtain ⟨fs, hr, hrun, hended, hW, hsame⟩ := X3.leave (v := some (.ref b2)) (fun h => by rw [Bd.returns] at h; cases h)
    refine ⟨_, _, retOut X3 hx Bd.returns rfl (Or.inr (Or.inr (Or.inr (Or.inr ⟨rfl, rfl, rfl⟩)))) (hb hby d_vo_31) hr, hrun, hended, _, _, rfl, ?_, ⟨_, rfl⟩, hW, hsame.mono (by decide) (by decide)⟩
    show Qv Z h0 n0 (some (.ref b2)) T3.heap _
    exact ⟨_, rfl, N, K, E_b2⟩
  · skip
    refine Go.by (T' := s₁) (f' := (mkF m 6 #[.val (.int p1)] [])) (fun _ k => XS.icmpNo X0.here hx rfl (hb hby d_vo_3) rfl (flt hc3_1).1 k) ?_
    refine Go.by (T' := s₁) (f' := (mkF m 7 #[.val (.int p1)] [(.int p1)])) (fun _ k => XS.iloadN X0.here hx rfl (hb hby d_vo_6) rfl k) ?_
    obtain ⟨T4, X4, e4, st4⟩ := getS2 X0 hx hZ hown (host := "") (Or.inl (hw _ (List.mem_of_getElem? (i := 26) rfl))) Via.refl e0 (Sta.ext O.2 hS.2.2.2.2.2.1) (g := (mkF m 7 #[.val (.int p1)] [(.int p1)])) rfl (hb hby d_vo_7)
    refine Go.by (T' := T4) (f' := (mkF m 10 #[.val (.int p1)] [(.int (127 : Int32)), (.int p1)])) (st4) ?_
    by_cases hc10_5 : (127 : Int32) < p1
    · skip
      refine Go.by (T' := T4) (f' := (mkF m 23 #[.val (.int p1)] [])) (fun _ k => XS.icmpYes X4.here hx rfl (pc0 := 10) (pc' := 23) rfl (hb hby d_vo_10) rfl (tlt hc10_5).2.2.1 (by decide) (by decide) k) ?_
      obtain ⟨T6, h6, X6, e6, E6, A6, D6, -, st6⟩ := newO X4 hx hZ hown (hw _ (List.mem_of_getElem? (i := 42) rfl)) (hw _ (List.mem_of_getElem? (i := 43) rfl)) (hw _ (List.mem_of_getElem? (i := 24) rfl)) e4 (g := (mkF m 23 #[.val (.int p1)] [])) rfl (hb hby d_vo_23) (by decide) (by decide)
      obtain ⟨b6, g6⟩ : ∃ z, z = h0.size := ⟨_, rfl⟩
      rw [← g6] at A6 D6 st6
      have g_b6 : n0 ≤ b6 := Nat.le_trans (Old.le O) (Nat.le_of_eq g6.symm)
      have sz_b6 : h0.size ≤ b6 := Nat.le_trans K.1 (Nat.le_of_eq g6.symm)
      replace O := O.ext E6
      replace K := K.ext E6
      have E_b6 := A6
      have F_value_b6 : Fld Z h6 b6 "java/lang/Integer" "value" "I" (.int (0 : Int32)) := D6 (Or.inr (hw _ (List.mem_of_getElem? (i := 56) rfl))) (ty := .int) (by decide)
      refine Go.by (T' := T6) (f' := (mkF m 26 #[.val (.int p1)] [(.ref b6)])) (st6) ?_
      refine Go.by (T' := T6) (f' := (mkF m 27 #[.val (.int p1)] [(.ref b6), (.ref b6)])) (fun _ k => XS.dup X6.here hx rfl (hb hby d_vo_26) rfl rfl k) ?_
      refine Go.by (T' := T6) (f' := (mkF m 28 #[.val (.int p1)] [(.int p1), (.ref b6), (.ref b6)])) (fun _ k => XS.iloadN X6.here hx rfl (hb hby d_vo_27) rfl k) ?_
      obtain ⟨v7, _, ⟨T7, L7, k7, n7⟩, -, X7, ⟨Lc7, hQ7, l7, y7, z7⟩, st7⟩ := X6.specialBack hx (y := (⟨"java/lang/Integer", "<init>", "(I)V"⟩ : MethodName)) rfl hown (mvT hZ (hw _ (List.mem_of_getElem? (i := 44) rfl))) (mvT hZ (hw _ (List.mem_of_getElem? (i := 45) rfl))) (mvT hZ (hw _ (List.mem_of_getElem? (i := 47) rfl))) (by decide) (backOf (W := 1) (rm_ii l Z a0 hw [] b6 p1 h6 n0 O E_b6 F_value_b6 g_b6) hZ (hw _ (List.mem_of_getElem? (i := 47) rfl)) (hw _ (List.mem_of_getElem? (i := 24) rfl)) (by decide) (by decide)) (g := (mkF m 28 #[.val (.int p1)] [(.int p1), (.ref b6), (.ref b6)])) rfl (by rw [hml]; rfl) (Steps.refl _) (a := b6) (argsL := [(.int p1)]) (rest := [(.ref b6)]) (lenOf pd_vo_0 rfl) rfl (by show 2 * 0 + _ ≤ _; exact Nat.le_of_eq rfl) (hb hby d_vo_28) (fun _ _ => ⟨rfl, e6, (by decide : 1 + 0 ≤ _), (by decide : 1 + 0 ≤ _)⟩)
      dsimp only [Pt.U, Pt.locs, Pt.cells, Pt.slots] at X7 l7 y7 z7 st7 hQ7
      subst l7 y7 z7
      obtain ⟨rfl, Nq7, K7⟩ := hQ7
      replace N := Fr.app N Nq7
      replace E_b6 := E_b6.keep K7
      replace O := O.keep K7 (allS g_b6 all0)
      replace K := K.trans K7 (allS (Or.inr sz_b6) all0)
      refine Go.by (T' := T7) (f' := (mkF m 31 #[.val (.int p1)] [(.ref b6)])) (fun _ k => st7.trans k) ?_
      obtain ⟨fs, hr, hrun, hended, hW, hsame⟩ := X7.leave (v := some (.ref b6)) (fun h => by rw [Bd.returns] at h; cases h)
      refine ⟨_, _, retOut X7 hx Bd.returns rfl (Or.inr (Or.inr (Or.inr (Or.inr ⟨rfl, rfl, rfl⟩)))) (hb hby d_vo_31) hr, hrun, hended, _, _, rfl, ?_, ⟨_, rfl⟩, hW, hsame.mono (by decide) (by decide)⟩
      show Qv Z h0 n0 (some (.ref b6)) T7.heap _
      exact ⟨_, rfl, N, K, E_b6⟩
    · skip
      refine Go.by (T' := T4) (f' := (mkF m 13 #[.val (.int p1)] [])) (fun _ k => XS.icmpNo X4.here hx rfl (hb hby d_vo_10) rfl (flt hc10_5).2.2.1 k) ?_
      obtain ⟨T8, X8, e8, st8⟩ := getS2 X4 hx hZ hown (host := "") (Or.inl (hw _ (List.mem_of_getElem? (i := 28) rfl))) Via.refl e4 (Sta.ext O.2 hS.2.2.2.2.2.2.1) (g := (mkF m 13 #[.val (.int p1)] [])) rfl (hb hby d_vo_13)
      refine Go.by (T' := T8) (f' := (mkF m 16 #[.val (.int p1)] [(.ref wc)])) (st8) ?_
      refine Go.by (T' := T8) (f' := (mkF m 17 #[.val (.int p1)] [(.int p1), (.ref wc)])) (fun _ k => XS.iloadN X8.here hx rfl (hb hby d_vo_16) rfl k) ?_
      refine Go.by (T' := T8) (f' := (mkF m 20 #[.val (.int p1)] [(.int (128 : Int32)), (.int p1), (.ref wc)])) (fun _ k => XS.sipush X8.here hx rfl (hb hby d_vo_17) k) ?_
      refine Go.by (T' := T8) (f' := (mkF m 21 #[.val (.int p1)] [(.int (p1 + (128 : Int32))), (.ref wc)])) (fun _ k => XS.iadd X8.here hx rfl (hb hby d_vo_20) rfl k) ?_
      obtain ⟨bx, hin, hat, Ex⟩ := hS.2.2.2.2.2.2.2.2.1 p1 hc3_1 hc10_5
      have Ac := (Arr.ext O.2 hS.2.2.2.2.2.2.2.1)
      refine Go.by (T' := T8) (f' := (mkF m 22 #[.val (.int p1)] [(.ref bx)])) (X8.aaload hx (j := (p1 + (128 : Int32))) (v := (.ref bx)) (by rw [e8]; exact Ac.1) (State.isArrayOf_alike hZ.alike Ac.2.1) rfl Ac.2.2 hin hat (g := (mkF m 21 #[.val (.int p1)] [(.int (p1 + (128 : Int32))), (.ref wc)])) rfl rfl (hb hby d_vo_21)) ?_
      replace Ex := Ex.ext O.2
      obtain ⟨fs, hr, hrun, hended, hW, hsame⟩ := X8.leave (v := some (.ref bx)) (fun h => by rw [Bd.returns] at h; cases h)
      refine ⟨_, _, retOut X8 hx Bd.returns rfl (Or.inr (Or.inr (Or.inr (Or.inr ⟨rfl, rfl, rfl⟩)))) (hb hby d_vo_22) hr, hrun, hended, _, _, rfl, ?_, ⟨_, rfl⟩, hW, hsame.mono (by decide) (by decide)⟩
      show Qv Z h0 n0 (some (.ref bx)) T8.heap _
      rw [e8]
      exact ⟨_, rfl, N, K, Ex⟩

theorem d_e_0 : decode prog_34_method_1_code 0 = .ok (.aload_n 0, 1) := by decide +kernel
theorem d_e_1 : decode prog_34_method_1_code 1 = .ok (.invokespecial 1, 3) := by decide +kernel
theorem d_e_4 : decode prog_34_method_1_code 4 = .ok (.aload_n 1, 1) := by decide +kernel
theorem d_e_5 : decode prog_34_method_1_code 5 = .ok (.getstatic 7, 3) := by decide +kernel
theorem d_e_8 : decode prog_34_method_1_code 8 = .ok (.if_acmp .eq 27, 3) := by decide +kernel
theorem d_e_11 : decode prog_34_method_1_code 11 = .ok (.aload_n 1, 1) := by decide +kernel
theorem d_e_12 : decode prog_34_method_1_code 12 = .ok (.getstatic 13, 3) := by decide +kernel
theorem d_e_15 : decode prog_34_method_1_code 15 = .ok (.if_acmp .eq 20, 3) := by decide +kernel
theorem d_e_35 : decode prog_34_method_1_code 35 = .ok (.iload_n 2, 1) := by decide +kernel
theorem d_e_36 : decode prog_34_method_1_code 36 = .ok (.ifCond .ge 17, 3) := by decide +kernel
theorem d_e_53 : decode prog_34_method_1_code 53 = .ok (.aload_n 0, 1) := by decide +kernel
theorem d_e_54 : decode prog_34_method_1_code 54 = .ok (.aload_n 1, 1) := by decide +kernel
theorem d_e_55 : decode prog_34_method_1_code 55 = .ok (.putfield 32, 3) := by decide +kernel
theorem d_e_58 : decode prog_34_method_1_code 58 = .ok (.aload_n 0, 1) := by decide +kernel
theorem d_e_59 : decode prog_34_method_1_code 59 = .ok (.iload_n 2, 1) := by decide +kernel
theorem d_e_60 : decode prog_34_method_1_code 60 = .ok (.putfield 37, 3) := by decide +kernel
theorem d_e_63 : decode prog_34_method_1_code 63 = .ok (.return_, 1) := by decide +kernel
theorem pn_e : plainFor (⟨"com/example/honest_replica/honestreplica/model/Entity", "<init>", "(Lcom/example/honest_replica/honestreplica/model/Credential$Kind;I)V"⟩ : MethodName) = true := plainFor_of_name (by first | (simp [plainName, overriddenIn]; done) | decide +kernel)
theorem ef_e (m : MethodId) (x0 : Addr) (x1 : Addr) (x2 : Int32) : entryFrame m #[(.ref x0), (.ref x1), (.int x2)] 3 = mkF m 0 #[.val (.ref x0), .val (.ref x1), .val (.int x2)] [] := by first | (simp [entryFrame, mkF, argsToLocals, Value.category]; done) | rfl
set_option maxRecDepth 65536 in
set_option maxHeartbeats 40000000 in
theorem rm_e (l : Launch) (Z : State) (a0 : Array Value) (hw : ∀ d ∈ tables_1, d.before a0 Z = true) (ws : List Jvm.Cond) (a kd : Addr) (p1 : Int32) (wU : Addr) (wR : Addr) (wc : Addr)  (cl : Cell) (hS : Sf Z wU wR wc cl) (hkd : kd = wU ∨ kd = wR) (hid : ¬ p1 < 0) (h0 : Heap) (n0 : Nat) (O : Old Z n0 h0) (E_a : Exa Z h0 a "com/example/honest_replica/honestreplica/model/Entity") (F_k : Fld Z h0 a "com/example/honest_replica/honestreplica/model/Entity" "kind" "Lcom/example/honest_replica/honestreplica/model/Credential$Kind;" .null) (F_i : Fld Z h0 a "com/example/honest_replica/honestreplica/model/Entity" "id" "I" (.int 0)) (g_a : n0 ≤ a) :
    MetFree l (⟨"com/example/honest_replica/honestreplica/model/Entity", "<init>", "(Lcom/example/honest_replica/honestreplica/model/Credential$Kind;I)V"⟩ : MethodName) (head1 (Jvm.Cond.code (⟨"com/example/honest_replica/honestreplica/model/Entity", "<init>", "(Lcom/example/honest_replica/honestreplica/model/Credential$Kind;I)V"⟩ : MethodName) prog_34_method_1_code 3 none :: ws) ({ frames := 1, cells := 0, slots := 0, locals := 12 } : Room)) (fun as_ U => as_ = #[(.ref a), (.ref kd), (.int p1)] ∧ Z.Warmed39 U.vm ∧ U.heap = h0) (fun _ _ _ _ _ => True) (fun _ U o U' => ∃ v L, o = .returned v ∧ Qe Z a kd p1 h0 n0 v U'.heap L ∧ FrameEnd U o U' L ({ frames := 1, cells := 0, slots := 0, locals := 12 } : Room).cells ({ frames := 1, cells := 0, slots := 0, locals := 12 } : Room).slots) := by
  refine MetFree.of_bodySF pn_e hisR ?_
  intro p e s m args below meth c s₁ Bd hml0 hP hK
  obtain ⟨rfl, hZ, hh⟩ := hP
  have hx := Bd.exec
  have hby := Bd.bytes
  have hml : c.maxLocals = 3 := hml0
  have hown : s.vm.findClass "com/example/honest_replica/honestreplica/model/Entity" = some m.cls := findClass_of_methodNamed Bd.named
  have hnm := (name_of_methodNamed Bd.named Bd.method).1
  have X0 : Stand p l e ({ frames := 1, cells := 0, slots := 0, locals := 12 } : Room) s m #[(.ref a), (.ref kd), (.int p1)] below meth c s₁ [] 0 0 := Stand.of_body Bd
  have e0 : s₁.heap = h0 := by rw [← hh, Bd.state]; rfl
  have N := Fr.nil n0
  have K : Keep h0 h0 [a] := Keep.refl _ _
  refine Go.by (T' := s₁) (f' := (mkF m 0 #[.val (.ref a), .val (.ref kd), .val (.int p1)] [])) (fun _ k => castTop (ef_e m a kd p1) k) ?_
  refine Go.by (T' := s₁) (f' := (mkF m 1 #[.val (.ref a), .val (.ref kd), .val (.int p1)] [(.ref a)])) (fun _ k => XS.aloadN X0.here hx rfl (hb hby d_e_0) rfl rfl k) ?_
  obtain ⟨T1, X1, e1, st1⟩ := initO X0 hx hZ hown (hw _ (List.mem_of_getElem? (i := 14) rfl)) (hw _ (List.mem_of_getElem? (i := 15) rfl)) (hw _ (List.mem_of_getElem? (i := 16) rfl)) e0 (g := (mkF m 1 #[.val (.ref a), .val (.ref kd), .val (.int p1)] [(.ref a)])) rfl (by rw [hml]; rfl) rfl (hb hby d_e_1) (by decide) (W := 0) (by show 2 * 0 + _ ≤ _; exact Nat.le_of_eq rfl) (by decide)
  refine Go.by (T' := T1) (f' := (mkF m 4 #[.val (.ref a), .val (.ref kd), .val (.int p1)] [])) (st1) ?_
  refine Go.by (T' := T1) (f' := (mkF m 5 #[.val (.ref a), .val (.ref kd), .val (.int p1)] [(.ref kd)])) (fun _ k => XS.aloadN X1.here hx rfl (hb hby d_e_4) rfl rfl k) ?_
  obtain ⟨T2, X2, e2, st2⟩ := getS2 X1 hx hZ hown (host := "") (Or.inl (hw _ (List.mem_of_getElem? (i := 17) rfl))) Via.refl e1 (Sta.ext O.2 hS.1) (g := (mkF m 5 #[.val (.ref a), .val (.ref kd), .val (.int p1)] [(.ref kd)])) rfl (hb hby d_e_5)
  refine Go.by (T' := T2) (f' := (mkF m 8 #[.val (.ref a), .val (.ref kd), .val (.int p1)] [(.ref wU), (.ref kd)])) (st2) ?_
  by_cases ha8_3 : kd = wU
  · skip
    refine Go.by (T' := T2) (f' := (mkF m 35 #[.val (.ref a), .val (.ref kd), .val (.int p1)] [])) (fun _ k => Jvm.RoadKit.acmp (g := (mkF m 8 #[.val (.ref a), .val (.ref kd), .val (.int p1)] [(.ref wU), (.ref kd)])) X2 hx rfl rfl rfl (pc0 := 8) (pc' := 35) (same := true) rfl (hb hby d_e_8) rfl (decide_eq_true (congrArg Value.ref ha8_3)) (by decide) (by decide) k) ?_
    refine Go.by (T' := T2) (f' := (mkF m 36 #[.val (.ref a), .val (.ref kd), .val (.int p1)] [(.int p1)])) (fun _ k => XS.iloadN X2.here hx rfl (hb hby d_e_35) rfl k) ?_
    refine Go.by (T' := T2) (f' := (mkF m 53 #[.val (.ref a), .val (.ref kd), .val (.int p1)] [])) (fun _ k => XS.ifYes X2.here hx rfl (pc0 := 36) (pc' := 53) rfl (hb hby d_e_36) rfl ((if0 _ _).trans (flt hid).2.1) (by decide) (by decide) k) ?_
    refine Go.by (T' := T2) (f' := (mkF m 54 #[.val (.ref a), .val (.ref kd), .val (.int p1)] [(.ref a)])) (fun _ k => XS.aloadN X2.here hx rfl (hb hby d_e_53) rfl rfl k) ?_
    refine Go.by (T' := T2) (f' := (mkF m 55 #[.val (.ref a), .val (.ref kd), .val (.int p1)] [(.ref kd), (.ref a)])) (fun _ k => XS.aloadN X2.here hx rfl (hb hby d_e_54) rfl rfl k) ?_
    obtain ⟨T5, h5, X5, e5, W5, st5⟩ := putF X2 hx hZ hown (host := "") (Or.inl (hw _ (List.mem_of_getElem? (i := 18) rfl))) Via.refl e2 F_k E_a (Or.inr ⟨(hw _ (List.mem_of_getElem? (i := 19) rfl)), rfl, hnm⟩) (hw _ (List.mem_of_getElem? (i := 9) rfl)) (ty := (.object "com/example/honest_replica/honestreplica/model/Credential$Kind")) (by decide) rfl rfl (g := (mkF m 55 #[.val (.ref a), .val (.ref kd), .val (.int p1)] [(.ref kd), (.ref a)])) rfl rfl (hb hby d_e_55)
    replace E_a := E_a.wr W5
    replace F_i := F_i.other W5 (Or.inr (slot_ne (Or.inr (hw _ (List.mem_of_getElem? (i := 21) rfl))) (Or.inr (hw _ (List.mem_of_getElem? (i := 19) rfl))) (by decide) (t := .int) (t' := (.object "com/example/honest_replica/honestreplica/model/Credential$Kind")) (by decide) (by decide)))
    replace F_k := F_k.same W5
    replace O := O.wr W5 g_a
    replace K := K.wr W5 (Or.inl (by simp))
    replace N := Fr.snoc X5 N g_a
    refine Go.by (T' := T5) (f' := (mkF m 58 #[.val (.ref a), .val (.ref kd), .val (.int p1)] [])) (st5) ?_
    refine Go.by (T' := T5) (f' := (mkF m 59 #[.val (.ref a), .val (.ref kd), .val (.int p1)] [(.ref a)])) (fun _ k => XS.aloadN X5.here hx rfl (hb hby d_e_58) rfl rfl k) ?_
    refine Go.by (T' := T5) (f' := (mkF m 60 #[.val (.ref a), .val (.ref kd), .val (.int p1)] [(.int p1), (.ref a)])) (fun _ k => XS.iloadN X5.here hx rfl (hb hby d_e_59) rfl k) ?_
    obtain ⟨T6, h6, X6, e6, W6, st6⟩ := putF X5 hx hZ hown (host := "") (Or.inl (hw _ (List.mem_of_getElem? (i := 20) rfl))) Via.refl e5 F_i E_a (Or.inr ⟨(hw _ (List.mem_of_getElem? (i := 21) rfl)), rfl, hnm⟩) (hw _ (List.mem_of_getElem? (i := 9) rfl)) (ty := .int) (by decide) rfl rfl (g := (mkF m 60 #[.val (.ref a), .val (.ref kd), .val (.int p1)] [(.int p1), (.ref a)])) rfl rfl (hb hby d_e_60)
    replace E_a := E_a.wr W6
    replace F_k := F_k.other W6 (Or.inr (slot_ne (Or.inr (hw _ (List.mem_of_getElem? (i := 19) rfl))) (Or.inr (hw _ (List.mem_of_getElem? (i := 21) rfl))) (by decide) (t := (.object "com/example/honest_replica/honestreplica/model/Credential$Kind")) (t' := .int) (by decide) (by decide)))
    replace F_i := F_i.same W6
    replace O := O.wr W6 g_a
    replace K := K.wr W6 (Or.inl (by simp))
    replace N := Fr.snoc X6 N g_a
    refine Go.by (T' := T6) (f' := (mkF m 63 #[.val (.ref a), .val (.ref kd), .val (.int p1)] [])) (st6) ?_
    obtain ⟨fs, hr, hrun, hended, hW, hsame⟩ := X6.leave (v := none) (fun _ => rfl)
    refine ⟨_, _, X6.returnOut hx Bd.returns (hb hby d_e_63) hr, hrun, hended, _, _, rfl, ?_, ⟨_, rfl⟩, hW, hsame.mono (by decide) (by decide)⟩
    show Qe Z a kd p1 h0 n0 (none) T6.heap _
    rw [e6]
    exact ⟨rfl, N, K, F_k, F_i⟩
  · skip
    refine Go.by (T' := T2) (f' := (mkF m 11 #[.val (.ref a), .val (.ref kd), .val (.int p1)] [])) (fun _ k => Jvm.RoadKit.acmp (g := (mkF m 8 #[.val (.ref a), .val (.ref kd), .val (.int p1)] [(.ref wU), (.ref kd)])) X2 hx rfl rfl rfl (pc0 := 8) (pc' := 11) (same := false) rfl (hb hby d_e_8) rfl (decide_eq_false fun q => ha8_3 (Value.ref.inj q)) (by decide) (by decide) k) ?_
    refine Go.by (T' := T2) (f' := (mkF m 12 #[.val (.ref a), .val (.ref kd), .val (.int p1)] [(.ref kd)])) (fun _ k => XS.aloadN X2.here hx rfl (hb hby d_e_11) rfl rfl k) ?_
    obtain ⟨T7, X7, e7, st7⟩ := getS2 X2 hx hZ hown (host := "") (Or.inl (hw _ (List.mem_of_getElem? (i := 41) rfl))) Via.refl e2 (Sta.ext O.2 hS.2.2.1) (g := (mkF m 12 #[.val (.ref a), .val (.ref kd), .val (.int p1)] [(.ref kd)])) rfl (hb hby d_e_12)
    refine Go.by (T' := T7) (f' := (mkF m 15 #[.val (.ref a), .val (.ref kd), .val (.int p1)] [(.ref wR), (.ref kd)])) (st7) ?_
    refine Go.by (T' := T7) (f' := (mkF m 35 #[.val (.ref a), .val (.ref kd), .val (.int p1)] [])) (fun _ k => Jvm.RoadKit.acmp (g := (mkF m 15 #[.val (.ref a), .val (.ref kd), .val (.int p1)] [(.ref wR), (.ref kd)])) X7 hx rfl rfl rfl (pc0 := 15) (pc' := 35) (same := true) rfl (hb hby d_e_15) rfl (decide_eq_true (congrArg Value.ref (hkd.resolve_left ha8_3))) (by decide) (by decide) k) ?_
    refine Go.by (T' := T7) (f' := (mkF m 36 #[.val (.ref a), .val (.ref kd), .val (.int p1)] [(.int p1)])) (fun _ k => XS.iloadN X7.here hx rfl (hb hby d_e_35) rfl k) ?_
    refine Go.by (T' := T7) (f' := (mkF m 53 #[.val (.ref a), .val (.ref kd), .val (.int p1)] [])) (fun _ k => XS.ifYes X7.here hx rfl (pc0 := 36) (pc' := 53) rfl (hb hby d_e_36) rfl ((if0 _ _).trans (flt hid).2.1) (by decide) (by decide) k) ?_
    refine Go.by (T' := T7) (f' := (mkF m 54 #[.val (.ref a), .val (.ref kd), .val (.int p1)] [(.ref a)])) (fun _ k => XS.aloadN X7.here hx rfl (hb hby d_e_53) rfl rfl k) ?_
    refine Go.by (T' := T7) (f' := (mkF m 55 #[.val (.ref a), .val (.ref kd), .val (.int p1)] [(.ref kd), (.ref a)])) (fun _ k => XS.aloadN X7.here hx rfl (hb hby d_e_54) rfl rfl k) ?_
    obtain ⟨T10, h10, X10, e10, W10, st10⟩ := putF X7 hx hZ hown (host := "") (Or.inl (hw _ (List.mem_of_getElem? (i := 18) rfl))) Via.refl e7 F_k E_a (Or.inr ⟨(hw _ (List.mem_of_getElem? (i := 19) rfl)), rfl, hnm⟩) (hw _ (List.mem_of_getElem? (i := 9) rfl)) (ty := (.object "com/example/honest_replica/honestreplica/model/Credential$Kind")) (by decide) rfl rfl (g := (mkF m 55 #[.val (.ref a), .val (.ref kd), .val (.int p1)] [(.ref kd), (.ref a)])) rfl rfl (hb hby d_e_55)
    replace E_a := E_a.wr W10
    replace F_i := F_i.other W10 (Or.inr (slot_ne (Or.inr (hw _ (List.mem_of_getElem? (i := 21) rfl))) (Or.inr (hw _ (List.mem_of_getElem? (i := 19) rfl))) (by decide) (t := .int) (t' := (.object "com/example/honest_replica/honestreplica/model/Credential$Kind")) (by decide) (by decide)))
    replace F_k := F_k.same W10
    replace O := O.wr W10 g_a
    replace K := K.wr W10 (Or.inl (by simp))
    replace N := Fr.snoc X10 N g_a
    refine Go.by (T' := T10) (f' := (mkF m 58 #[.val (.ref a), .val (.ref kd), .val (.int p1)] [])) (st10) ?_
    refine Go.by (T' := T10) (f' := (mkF m 59 #[.val (.ref a), .val (.ref kd), .val (.int p1)] [(.ref a)])) (fun _ k => XS.aloadN X10.here hx rfl (hb hby d_e_58) rfl rfl k) ?_
    refine Go.by (T' := T10) (f' := (mkF m 60 #[.val (.ref a), .val (.ref kd), .val (.int p1)] [(.int p1), (.ref a)])) (fun _ k => XS.iloadN X10.here hx rfl (hb hby d_e_59) rfl k) ?_
    obtain ⟨T11, h11, X11, e11, W11, st11⟩ := putF X10 hx hZ hown (host := "") (Or.inl (hw _ (List.mem_of_getElem? (i := 20) rfl))) Via.refl e10 F_i E_a (Or.inr ⟨(hw _ (List.mem_of_getElem? (i := 21) rfl)), rfl, hnm⟩) (hw _ (List.mem_of_getElem? (i := 9) rfl)) (ty := .int) (by decide) rfl rfl (g := (mkF m 60 #[.val (.ref a), .val (.ref kd), .val (.int p1)] [(.int p1), (.ref a)])) rfl rfl (hb hby d_e_60)
    replace E_a := E_a.wr W11
    replace F_k := F_k.other W11 (Or.inr (slot_ne (Or.inr (hw _ (List.mem_of_getElem? (i := 19) rfl))) (Or.inr (hw _ (List.mem_of_getElem? (i := 21) rfl))) (by decide) (t := (.object "com/example/honest_replica/honestreplica/model/Credential$Kind")) (t' := .int) (by decide) (by decide)))
    replace F_i := F_i.same W11
    replace O := O.wr W11 g_a
    replace K := K.wr W11 (Or.inl (by simp))
    replace N := Fr.snoc X11 N g_a
    refine Go.by (T' := T11) (f' := (mkF m 63 #[.val (.ref a), .val (.ref kd), .val (.int p1)] [])) (st11) ?_
    obtain ⟨fs, hr, hrun, hended, hW, hsame⟩ := X11.leave (v := none) (fun _ => rfl)
    refine ⟨_, _, X11.returnOut hx Bd.returns (hb hby d_e_63) hr, hrun, hended, _, _, rfl, ?_, ⟨_, rfl⟩, hW, hsame.mono (by decide) (by decide)⟩
    show Qe Z a kd p1 h0 n0 (none) T11.heap _
    rw [e11]
    exact ⟨rfl, N, K, F_k, F_i⟩

theorem d_q_0 : decode prog_34_method_5_code 0 = .ok (.aload_n 1, 1) := by decide +kernel
theorem d_q_1 : decode prog_34_method_5_code 1 = .ok (.instanceof 33, 3) := by decide +kernel
theorem d_q_4 : decode prog_34_method_5_code 4 = .ok (.ifCond .eq 34, 3) := by decide +kernel
theorem d_q_7 : decode prog_34_method_5_code 7 = .ok (.aload_n 1, 1) := by decide +kernel
theorem d_q_8 : decode prog_34_method_5_code 8 = .ok (.checkcast 33, 3) := by decide +kernel
theorem d_q_11 : decode prog_34_method_5_code 11 = .ok (.astore_n 2, 1) := by decide +kernel
theorem d_q_12 : decode prog_34_method_5_code 12 = .ok (.aload_n 0, 1) := by decide +kernel
theorem d_q_13 : decode prog_34_method_5_code 13 = .ok (.getfield 32, 3) := by decide +kernel
theorem d_q_16 : decode prog_34_method_5_code 16 = .ok (.aload_n 2, 1) := by decide +kernel
theorem d_q_17 : decode prog_34_method_5_code 17 = .ok (.getfield 32, 3) := by decide +kernel
theorem d_q_20 : decode prog_34_method_5_code 20 = .ok (.if_acmp .ne 18, 3) := by decide +kernel
theorem d_q_23 : decode prog_34_method_5_code 23 = .ok (.aload_n 0, 1) := by decide +kernel
theorem d_q_24 : decode prog_34_method_5_code 24 = .ok (.getfield 37, 3) := by decide +kernel
theorem d_q_27 : decode prog_34_method_5_code 27 = .ok (.aload_n 2, 1) := by decide +kernel
theorem d_q_28 : decode prog_34_method_5_code 28 = .ok (.getfield 37, 3) := by decide +kernel
theorem d_q_31 : decode prog_34_method_5_code 31 = .ok (.if_icmp .ne 7, 3) := by decide +kernel
theorem d_q_34 : decode prog_34_method_5_code 34 = .ok (.iconst 1, 1) := by decide +kernel
theorem d_q_35 : decode prog_34_method_5_code 35 = .ok (.goto 4, 3) := by decide +kernel
theorem d_q_38 : decode prog_34_method_5_code 38 = .ok (.iconst 0, 1) := by decide +kernel
theorem d_q_39 : decode prog_34_method_5_code 39 = .ok (.ireturn, 1) := by decide +kernel
theorem pn_q : plainFor (⟨"com/example/honest_replica/honestreplica/model/Entity", "equals", "(Ljava/lang/Object;)Z"⟩ : MethodName) = true := plainFor_of_name (by first | (simp [plainName, overriddenIn]; done) | decide +kernel)
theorem ef_q (m : MethodId) (x0 : Addr) (x1 : Addr) : entryFrame m #[(.ref x0), (.ref x1)] 3 = mkF m 0 #[.val (.ref x0), .val (.ref x1), .unset] [] := by first | (simp [entryFrame, mkF, argsToLocals, Value.category]; done) | rfl
set_option maxRecDepth 65536 in
set_option maxHeartbeats 40000000 in
theorem rm_q (l : Launch) (Z : State) (a0 : Array Value) (hw : ∀ d ∈ tables_1, d.before a0 Z = true) (ws : List Jvm.Cond) (a b k1 k2 : Addr) (i1 i2 : Int32) (h0 : Heap) (n0 : Nat) (O : Old Z n0 h0) (E_a : Exa Z h0 a "com/example/honest_replica/honestreplica/model/Entity") (E_b : Exa Z h0 b "com/example/honest_replica/honestreplica/model/Entity") (F1 : Fld Z h0 a "com/example/honest_replica/honestreplica/model/Entity" "kind" "Lcom/example/honest_replica/honestreplica/model/Credential$Kind;" (.ref k1)) (F2 : Fld Z h0 a "com/example/honest_replica/honestreplica/model/Entity" "id" "I" (.int i1)) (F3 : Fld Z h0 b "com/example/honest_replica/honestreplica/model/Entity" "kind" "Lcom/example/honest_replica/honestreplica/model/Credential$Kind;" (.ref k2)) (F4 : Fld Z h0 b "com/example/honest_replica/honestreplica/model/Entity" "id" "I" (.int i2)) :
    MetFree l (⟨"com/example/honest_replica/honestreplica/model/Entity", "equals", "(Ljava/lang/Object;)Z"⟩ : MethodName) (head1 (Jvm.Cond.code (⟨"com/example/honest_replica/honestreplica/model/Entity", "equals", "(Ljava/lang/Object;)Z"⟩ : MethodName) prog_34_method_5_code 3 (some .boolean) :: ws) ({ frames := 0, cells := 0, slots := 0, locals := 0 } : Room)) (fun as_ U => as_ = #[(.ref a), (.ref b)] ∧ Z.Warmed39 U.vm ∧ U.heap = h0) (fun _ _ _ _ _ => True) (fun _ U o U' => ∃ v L, o = .returned v ∧ Qi (eqv k1 i1 k2 i2) h0 n0 v U'.heap L ∧ FrameEnd U o U' L ({ frames := 0, cells := 0, slots := 0, locals := 0 } : Room).cells ({ frames := 0, cells := 0, slots := 0, locals := 0 } : Room).slots) := by
  refine MetFree.of_bodySF pn_q hisR ?_
  intro p e s m args below meth c s₁ Bd hml0 hP hK
  obtain ⟨rfl, hZ, hh⟩ := hP
  have hx := Bd.exec
  have hby := Bd.bytes
  have hml : c.maxLocals = 3 := hml0
  have hown : s.vm.findClass "com/example/honest_replica/honestreplica/model/Entity" = some m.cls := findClass_of_methodNamed Bd.named
  have hnm := (name_of_methodNamed Bd.named Bd.method).1
  have X0 : Stand p l e ({ frames := 0, cells := 0, slots := 0, locals := 0 } : Room) s m #[(.ref a), (.ref b)] below meth c s₁ [] 0 0 := Stand.of_body Bd
  have e0 : s₁.heap = h0 := by rw [← hh, Bd.state]; rfl
  have N := Fr.nil n0
  have K : Keep h0 h0 [] := Keep.refl _ _
  refine Go.by (T' := s₁) (f' := (mkF m 0 #[.val (.ref a), .val (.ref b), .unset] [])) (fun _ k => castTop (ef_q m a b) k) ?_
  refine Go.by (T' := s₁) (f' := (mkF m 1 #[.val (.ref a), .val (.ref b), .unset] [(.ref b)])) (fun _ k => XS.aloadN X0.here hx rfl (hb hby d_q_0) rfl rfl k) ?_
  obtain ⟨T1, X1, e1, st1⟩ := instY X0 hx hZ hown (hw _ (List.mem_of_getElem? (i := 34) rfl)) e0 (Ins.self E_b) (g := (mkF m 1 #[.val (.ref a), .val (.ref b), .unset] [(.ref b)])) rfl rfl (hb hby d_q_1)
  refine Go.by (T' := T1) (f' := (mkF m 4 #[.val (.ref a), .val (.ref b), .unset] [(.int (1 : Int32))])) (st1) ?_
  refine Go.by (T' := T1) (f' := (mkF m 7 #[.val (.ref a), .val (.ref b), .unset] [])) (fun _ k => XS.ifNo X1.here hx rfl (hb hby d_q_4) rfl ((if0 _ _).trans (feq (by decide : ¬ ((1 : Int32) = (0 : Int32)))).1) k) ?_
  refine Go.by (T' := T1) (f' := (mkF m 8 #[.val (.ref a), .val (.ref b), .unset] [(.ref b)])) (fun _ k => XS.aloadN X1.here hx rfl (hb hby d_q_7) rfl rfl k) ?_
  obtain ⟨T3, X3, e3, st3⟩ := castY X1 hx hZ hown (hw _ (List.mem_of_getElem? (i := 34) rfl)) e1 (Ins.self E_b) (g := (mkF m 8 #[.val (.ref a), .val (.ref b), .unset] [(.ref b)])) rfl rfl (hb hby d_q_8)
  refine Go.by (T' := T3) (f' := (mkF m 11 #[.val (.ref a), .val (.ref b), .unset] [(.ref b)])) (st3) ?_
  refine Go.by (T' := T3) (f' := (mkF m 12 #[.val (.ref a), .val (.ref b), .val (.ref b)] [])) (fun _ k => XS.astoreN X3.here hx rfl (hb hby d_q_11) rfl rfl (l' := #[.val (.ref a), .val (.ref b), .val (.ref b)]) rfl k) ?_
  refine Go.by (T' := T3) (f' := (mkF m 13 #[.val (.ref a), .val (.ref b), .val (.ref b)] [(.ref a)])) (fun _ k => XS.aloadN X3.here hx rfl (hb hby d_q_12) rfl rfl k) ?_
  obtain ⟨T4, X4, e4, st4⟩ := getF X3 hx hZ hown (host := "") (Or.inl (hw _ (List.mem_of_getElem? (i := 18) rfl))) Via.refl e3 F1 (g := (mkF m 13 #[.val (.ref a), .val (.ref b), .val (.ref b)] [(.ref a)])) rfl rfl (hb hby d_q_13)
  refine Go.by (T' := T4) (f' := (mkF m 16 #[.val (.ref a), .val (.ref b), .val (.ref b)] [(.ref k1)])) (st4) ?_
  refine Go.by (T' := T4) (f' := (mkF m 17 #[.val (.ref a), .val (.ref b), .val (.ref b)] [(.ref b), (.ref k1)])) (fun _ k => XS.aloadN X4.here hx rfl (hb hby d_q_16) rfl rfl k) ?_
  obtain ⟨T5, X5, e5, st5⟩ := getF X4 hx hZ hown (host := "") (Or.inl (hw _ (List.mem_of_getElem? (i := 18) rfl))) Via.refl e4 F3 (g := (mkF m 17 #[.val (.ref a), .val (.ref b), .val (.ref b)] [(.ref b), (.ref k1)])) rfl rfl (hb hby d_q_17)
  refine Go.by (T' := T5) (f' := (mkF m 20 #[.val (.ref a), .val (.ref b), .val (.ref b)] [(.ref k2), (.ref k1)])) (st5) ?_
  by_cases ha20_6 : k1 = k2
  · skip
    refine Go.by (T' := T5) (f' := (mkF m 23 #[.val (.ref a), .val (.ref b), .val (.ref b)] [])) (fun _ k => Jvm.RoadKit.acmp (g := (mkF m 20 #[.val (.ref a), .val (.ref b), .val (.ref b)] [(.ref k2), (.ref k1)])) X5 hx rfl rfl rfl (pc0 := 20) (pc' := 23) (same := true) rfl (hb hby d_q_20) rfl (decide_eq_true (congrArg Value.ref ha20_6)) (by decide) (by decide) k) ?_
    refine Go.by (T' := T5) (f' := (mkF m 24 #[.val (.ref a), .val (.ref b), .val (.ref b)] [(.ref a)])) (fun _ k => XS.aloadN X5.here hx rfl (hb hby d_q_23) rfl rfl k) ?_
    obtain ⟨T7, X7, e7, st7⟩ := getF X5 hx hZ hown (host := "") (Or.inl (hw _ (List.mem_of_getElem? (i := 20) rfl))) Via.refl e5 F2 (g := (mkF m 24 #[.val (.ref a), .val (.ref b), .val (.ref b)] [(.ref a)])) rfl rfl (hb hby d_q_24)
    refine Go.by (T' := T7) (f' := (mkF m 27 #[.val (.ref a), .val (.ref b), .val (.ref b)] [(.int i1)])) (st7) ?_
    refine Go.by (T' := T7) (f' := (mkF m 28 #[.val (.ref a), .val (.ref b), .val (.ref b)] [(.ref b), (.int i1)])) (fun _ k => XS.aloadN X7.here hx rfl (hb hby d_q_27) rfl rfl k) ?_
    obtain ⟨T8, X8, e8, st8⟩ := getF X7 hx hZ hown (host := "") (Or.inl (hw _ (List.mem_of_getElem? (i := 20) rfl))) Via.refl e7 F4 (g := (mkF m 28 #[.val (.ref a), .val (.ref b), .val (.ref b)] [(.ref b), (.int i1)])) rfl rfl (hb hby d_q_28)
    refine Go.by (T' := T8) (f' := (mkF m 31 #[.val (.ref a), .val (.ref b), .val (.ref b)] [(.int i2), (.int i1)])) (st8) ?_
    by_cases hc31_9 : i1 = i2
    · skip
      refine Go.by (T' := T8) (f' := (mkF m 34 #[.val (.ref a), .val (.ref b), .val (.ref b)] [])) (fun _ k => XS.icmpNo X8.here hx rfl (hb hby d_q_31) rfl (teq hc31_9).2 k) ?_
      refine Go.by (T' := T8) (f' := (mkF m 35 #[.val (.ref a), .val (.ref b), .val (.ref b)] [(.int (1 : Int32))])) (fun _ k => XS.iconst X8.here hx rfl (hb hby d_q_34) k) ?_
      refine Go.by (T' := T8) (f' := (mkF m 39 #[.val (.ref a), .val (.ref b), .val (.ref b)] [(.int (1 : Int32))])) (fun _ k => XS.goto X8.here hx rfl (pc0 := 35) (pc' := 39) rfl (hb hby d_q_35) (by decide) (by decide) k) ?_
      obtain ⟨fs, hr, hrun, hended, hW, hsame⟩ := X8.leave (v := some (.int (1 : Int32))) (fun h => by rw [Bd.returns] at h; cases h)
      refine ⟨_, _, retN X8 hx (t := .boolean) Bd.returns (by simp) (hb hby d_q_39) hr, hrun, hended, _, _, rfl, ?_, ⟨_, rfl⟩, hW, hsame.mono (by decide) (by decide)⟩
      show Qi (eqv k1 i1 k2 i2) h0 n0 (some (.int (1 : Int32))) T8.heap _
      rw [e8]
      exact ⟨by simp [eqv, ha20_6, hc31_9], N, rfl⟩
    · skip
      refine Go.by (T' := T8) (f' := (mkF m 38 #[.val (.ref a), .val (.ref b), .val (.ref b)] [])) (fun _ k => XS.icmpYes X8.here hx rfl (pc0 := 31) (pc' := 38) rfl (hb hby d_q_31) rfl (feq hc31_9).2 (by decide) (by decide) k) ?_
      refine Go.by (T' := T8) (f' := (mkF m 39 #[.val (.ref a), .val (.ref b), .val (.ref b)] [(.int (0 : Int32))])) (fun _ k => XS.iconst X8.here hx rfl (hb hby d_q_38) k) ?_
      obtain ⟨fs, hr, hrun, hended, hW, hsame⟩ := X8.leave (v := some (.int (0 : Int32))) (fun h => by rw [Bd.returns] at h; cases h)
      refine ⟨_, _, retN X8 hx (t := .boolean) Bd.returns (by simp) (hb hby d_q_39) hr, hrun, hended, _, _, rfl, ?_, ⟨_, rfl⟩, hW, hsame.mono (by decide) (by decide)⟩
      show Qi (eqv k1 i1 k2 i2) h0 n0 (some (.int (0 : Int32))) T8.heap _
      rw [e8]
      exact ⟨by simp [eqv, ha20_6, hc31_9], N, rfl⟩
  · skip
    refine Go.by (T' := T5) (f' := (mkF m 38 #[.val (.ref a), .val (.ref b), .val (.ref b)] [])) (fun _ k => Jvm.RoadKit.acmp (g := (mkF m 20 #[.val (.ref a), .val (.ref b), .val (.ref b)] [(.ref k2), (.ref k1)])) X5 hx rfl rfl rfl (pc0 := 20) (pc' := 38) (same := false) rfl (hb hby d_q_20) rfl (decide_eq_false fun q => ha20_6 (Value.ref.inj q)) (by decide) (by decide) k) ?_
    refine Go.by (T' := T5) (f' := (mkF m 39 #[.val (.ref a), .val (.ref b), .val (.ref b)] [(.int (0 : Int32))])) (fun _ k => XS.iconst X5.here hx rfl (hb hby d_q_38) k) ?_
    obtain ⟨fs, hr, hrun, hended, hW, hsame⟩ := X5.leave (v := some (.int (0 : Int32))) (fun h => by rw [Bd.returns] at h; cases h)
    refine ⟨_, _, retN X5 hx (t := .boolean) Bd.returns (by simp) (hb hby d_q_39) hr, hrun, hended, _, _, rfl, ?_, ⟨_, rfl⟩, hW, hsame.mono (by decide) (by decide)⟩
    show Qi (eqv k1 i1 k2 i2) h0 n0 (some (.int (0 : Int32))) T5.heap _
    rw [e5]
    exact ⟨by simp [eqv, ha20_6], N, rfl⟩

theorem d_qn_0 : decode prog_34_method_5_code 0 = .ok (.aload_n 1, 1) := by decide +kernel
theorem d_qn_1 : decode prog_34_method_5_code 1 = .ok (.instanceof 33, 3) := by decide +kernel
theorem d_qn_4 : decode prog_34_method_5_code 4 = .ok (.ifCond .eq 34, 3) := by decide +kernel
theorem d_qn_38 : decode prog_34_method_5_code 38 = .ok (.iconst 0, 1) := by decide +kernel
theorem d_qn_39 : decode prog_34_method_5_code 39 = .ok (.ireturn, 1) := by decide +kernel
theorem pn_qn : plainFor (⟨"com/example/honest_replica/honestreplica/model/Entity", "equals", "(Ljava/lang/Object;)Z"⟩ : MethodName) = true := plainFor_of_name (by first | (simp [plainName, overriddenIn]; done) | decide +kernel)
theorem ef_qn (m : MethodId) (x0 : Addr) : entryFrame m #[(.ref x0), .null] 3 = mkF m 0 #[.val (.ref x0), .val .null, .unset] [] := by first | (simp [entryFrame, mkF, argsToLocals, Value.category]; done) | rfl
set_option maxRecDepth 65536 in
set_option maxHeartbeats 40000000 in
theorem rm_qn (l : Launch) (Z : State) (a0 : Array Value) (hw : ∀ d ∈ tables_1, d.before a0 Z = true) (ws : List Jvm.Cond) (a : Addr) (h0 : Heap) (n0 : Nat) (O : Old Z n0 h0)  :
    MetFree l (⟨"com/example/honest_replica/honestreplica/model/Entity", "equals", "(Ljava/lang/Object;)Z"⟩ : MethodName) (head1 (Jvm.Cond.code (⟨"com/example/honest_replica/honestreplica/model/Entity", "equals", "(Ljava/lang/Object;)Z"⟩ : MethodName) prog_34_method_5_code 3 (some .boolean) :: ws) ({ frames := 0, cells := 0, slots := 0, locals := 0 } : Room)) (fun as_ U => as_ = #[(.ref a), .null] ∧ Z.Warmed39 U.vm ∧ U.heap = h0) (fun _ _ _ _ _ => True) (fun _ U o U' => ∃ v L, o = .returned v ∧ Qi 0 h0 n0 v U'.heap L ∧ FrameEnd U o U' L ({ frames := 0, cells := 0, slots := 0, locals := 0 } : Room).cells ({ frames := 0, cells := 0, slots := 0, locals := 0 } : Room).slots) := by
  refine MetFree.of_bodySF pn_qn hisR ?_
  intro p e s m args below meth c s₁ Bd hml0 hP hK
  obtain ⟨rfl, hZ, hh⟩ := hP
  have hx := Bd.exec
  have hby := Bd.bytes
  have hml : c.maxLocals = 3 := hml0
  have hown : s.vm.findClass "com/example/honest_replica/honestreplica/model/Entity" = some m.cls := findClass_of_methodNamed Bd.named
  have hnm := (name_of_methodNamed Bd.named Bd.method).1
  have X0 : Stand p l e ({ frames := 0, cells := 0, slots := 0, locals := 0 } : Room) s m #[(.ref a), .null] below meth c s₁ [] 0 0 := Stand.of_body Bd
  have e0 : s₁.heap = h0 := by rw [← hh, Bd.state]; rfl
  have N := Fr.nil n0
  have K : Keep h0 h0 [] := Keep.refl _ _
  refine Go.by (T' := s₁) (f' := (mkF m 0 #[.val (.ref a), .val .null, .unset] [])) (fun _ k => castTop (ef_qn m a) k) ?_
  refine Go.by (T' := s₁) (f' := (mkF m 1 #[.val (.ref a), .val .null, .unset] [.null])) (fun _ k => XS.aloadN X0.here hx rfl (hb hby d_qn_0) rfl rfl k) ?_
  refine Go.by (T' := s₁) (f' := (mkF m 4 #[.val (.ref a), .val .null, .unset] [(.int (0 : Int32))])) (X0.instanceofNull hx (g := (mkF m 1 #[.val (.ref a), .val .null, .unset] [.null])) rfl rfl (hb hby d_qn_1)) ?_
  refine Go.by (T' := s₁) (f' := (mkF m 38 #[.val (.ref a), .val .null, .unset] [])) (fun _ k => XS.ifYes X0.here hx rfl (pc0 := 4) (pc' := 38) rfl (hb hby d_qn_4) rfl ((if0 _ _).trans (teq (by decide : (0 : Int32) = (0 : Int32))).1) (by decide) (by decide) k) ?_
  refine Go.by (T' := s₁) (f' := (mkF m 39 #[.val (.ref a), .val .null, .unset] [(.int (0 : Int32))])) (fun _ k => XS.iconst X0.here hx rfl (hb hby d_qn_38) k) ?_
  obtain ⟨fs, hr, hrun, hended, hW, hsame⟩ := X0.leave (v := some (.int (0 : Int32))) (fun h => by rw [Bd.returns] at h; cases h)
  refine ⟨_, _, retN X0 hx (t := .boolean) Bd.returns (by simp) (hb hby d_qn_39) hr, hrun, hended, _, _, rfl, ?_, ⟨_, rfl⟩, hW, hsame.mono (by decide) (by decide)⟩
  show Qi 0 h0 n0 (some (.int (0 : Int32))) s₁.heap _
  rw [e0]
  exact ⟨rfl, N, rfl⟩

theorem d_qi_0 : decode prog_34_method_5_code 0 = .ok (.aload_n 1, 1) := by decide +kernel
theorem d_qi_1 : decode prog_34_method_5_code 1 = .ok (.instanceof 33, 3) := by decide +kernel
theorem d_qi_4 : decode prog_34_method_5_code 4 = .ok (.ifCond .eq 34, 3) := by decide +kernel
theorem d_qi_38 : decode prog_34_method_5_code 38 = .ok (.iconst 0, 1) := by decide +kernel
theorem d_qi_39 : decode prog_34_method_5_code 39 = .ok (.ireturn, 1) := by decide +kernel
theorem pn_qi : plainFor (⟨"com/example/honest_replica/honestreplica/model/Entity", "equals", "(Ljava/lang/Object;)Z"⟩ : MethodName) = true := plainFor_of_name (by first | (simp [plainName, overriddenIn]; done) | decide +kernel)
theorem ef_qi (m : MethodId) (x0 : Addr) (x1 : Addr) : entryFrame m #[(.ref x0), (.ref x1)] 3 = mkF m 0 #[.val (.ref x0), .val (.ref x1), .unset] [] := by first | (simp [entryFrame, mkF, argsToLocals, Value.category]; done) | rfl
set_option maxRecDepth 65536 in
set_option maxHeartbeats 40000000 in
theorem rm_qi (l : Launch) (Z : State) (a0 : Array Value) (hw : ∀ d ∈ tables_1, d.before a0 Z = true) (ws : List Jvm.Cond) (a b : Addr) (h0 : Heap) (n0 : Nat) (O : Old Z n0 h0) (E_b : Exa Z h0 b "java/lang/Integer") :
    MetFree l (⟨"com/example/honest_replica/honestreplica/model/Entity", "equals", "(Ljava/lang/Object;)Z"⟩ : MethodName) (head1 (Jvm.Cond.code (⟨"com/example/honest_replica/honestreplica/model/Entity", "equals", "(Ljava/lang/Object;)Z"⟩ : MethodName) prog_34_method_5_code 3 (some .boolean) :: ws) ({ frames := 0, cells := 0, slots := 0, locals := 0 } : Room)) (fun as_ U => as_ = #[(.ref a), (.ref b)] ∧ Z.Warmed39 U.vm ∧ U.heap = h0) (fun _ _ _ _ _ => True) (fun _ U o U' => ∃ v L, o = .returned v ∧ Qi 0 h0 n0 v U'.heap L ∧ FrameEnd U o U' L ({ frames := 0, cells := 0, slots := 0, locals := 0 } : Room).cells ({ frames := 0, cells := 0, slots := 0, locals := 0 } : Room).slots) := by
  refine MetFree.of_bodySF pn_qi hisR ?_
  intro p e s m args below meth c s₁ Bd hml0 hP hK
  obtain ⟨rfl, hZ, hh⟩ := hP
  have hx := Bd.exec
  have hby := Bd.bytes
  have hml : c.maxLocals = 3 := hml0
  have hown : s.vm.findClass "com/example/honest_replica/honestreplica/model/Entity" = some m.cls := findClass_of_methodNamed Bd.named
  have hnm := (name_of_methodNamed Bd.named Bd.method).1
  have X0 : Stand p l e ({ frames := 0, cells := 0, slots := 0, locals := 0 } : Room) s m #[(.ref a), (.ref b)] below meth c s₁ [] 0 0 := Stand.of_body Bd
  have e0 : s₁.heap = h0 := by rw [← hh, Bd.state]; rfl
  have N := Fr.nil n0
  have K : Keep h0 h0 [] := Keep.refl _ _
  refine Go.by (T' := s₁) (f' := (mkF m 0 #[.val (.ref a), .val (.ref b), .unset] [])) (fun _ k => castTop (ef_qi m a b) k) ?_
  refine Go.by (T' := s₁) (f' := (mkF m 1 #[.val (.ref a), .val (.ref b), .unset] [(.ref b)])) (fun _ k => XS.aloadN X0.here hx rfl (hb hby d_qi_0) rfl rfl k) ?_
  obtain ⟨T1, X1, e1, st1⟩ := instNo X0 hx hZ hown (hw _ (List.mem_of_getElem? (i := 34) rfl)) e0 E_b (own_nsno (hw _ (List.mem_of_getElem? (i := 36) rfl)) (hw _ (List.mem_of_getElem? (i := 9) rfl)) (NS.step (hw _ (List.mem_of_getElem? (i := 36) rfl)) (NS.step (hw _ (List.mem_of_getElem? (i := 37) rfl)) (own_nsroot (hw _ (List.mem_of_getElem? (i := 38) rfl)) (hw _ (List.mem_of_getElem? (i := 9) rfl)) (by decide)) (by decide)) (by decide)) (by decide)) (g := (mkF m 1 #[.val (.ref a), .val (.ref b), .unset] [(.ref b)])) rfl rfl (hb hby d_qi_1)
  refine Go.by (T' := T1) (f' := (mkF m 4 #[.val (.ref a), .val (.ref b), .unset] [(.int (0 : Int32))])) (st1) ?_
  refine Go.by (T' := T1) (f' := (mkF m 38 #[.val (.ref a), .val (.ref b), .unset] [])) (fun _ k => XS.ifYes X1.here hx rfl (pc0 := 4) (pc' := 38) rfl (hb hby d_qi_4) rfl ((if0 _ _).trans (teq (by decide : (0 : Int32) = (0 : Int32))).1) (by decide) (by decide) k) ?_
  refine Go.by (T' := T1) (f' := (mkF m 39 #[.val (.ref a), .val (.ref b), .unset] [(.int (0 : Int32))])) (fun _ k => XS.iconst X1.here hx rfl (hb hby d_qi_38) k) ?_
  obtain ⟨fs, hr, hrun, hended, hW, hsame⟩ := X1.leave (v := some (.int (0 : Int32))) (fun h => by rw [Bd.returns] at h; cases h)
  refine ⟨_, _, retN X1 hx (t := .boolean) Bd.returns (by simp) (hb hby d_qi_39) hr, hrun, hended, _, _, rfl, ?_, ⟨_, rfl⟩, hW, hsame.mono (by decide) (by decide)⟩
  show Qi 0 h0 n0 (some (.int (0 : Int32))) T1.heap _
  rw [e1]
  exact ⟨rfl, N, rfl⟩

theorem pn_rm1 : plainFor (⟨"com/example/honest_replica/honestreplica/model/EntityEqualsPinLaw", "law", "(IIIII)Z"⟩ : MethodName) = true := plainFor_of_name (by first | (simp [plainName, overriddenIn]; done) | decide +kernel)
theorem pd_rm1_0 : parseMethodDescriptor "(I)Lcom/example/honest_replica/honestreplica/model/Credential$Kind;" = some ⟨[.int], some (.object "com/example/honest_replica/honestreplica/model/Credential$Kind")⟩ := by decide +kernel
theorem pd_rm1_1 : parseMethodDescriptor "(Lcom/example/honest_replica/honestreplica/model/Credential$Kind;I)V" = some ⟨[(.object "com/example/honest_replica/honestreplica/model/Credential$Kind"), .int], none⟩ := by decide +kernel
theorem pd_rm1_2 : parseMethodDescriptor "(I)Ljava/lang/Integer;" = some ⟨[.int], some (.object "java/lang/Integer")⟩ := by decide +kernel
theorem pd_rm1_3 : parseMethodDescriptor "(Ljava/lang/Object;)Z" = some ⟨[(.object "java/lang/Object")], some .boolean⟩ := by decide +kernel
theorem ef_rm1 (m : MethodId) (x0 : Int32) (x1 : Int32) (x2 : Int32) (x3 : Int32) (x4 : Int32) : entryFrame m #[(.int x0), (.int x1), (.int x2), (.int x3), (.int x4)] maxLocals = mkF m 0 #[.val (.int x0), .val (.int x1), .val (.int x2), .val (.int x3), .val (.int x4), .unset, .unset, .unset, .unset, .unset, .unset, .unset, .unset, .unset, .unset, .unset, .unset, .unset] [] := by first | (simp [entryFrame, mkF, argsToLocals, Value.category, maxLocals]; done) | rfl
set_option maxRecDepth 65536 in
set_option maxHeartbeats 40000000 in
theorem rm1 (l : Launch) (Z : State) (a0 : Array Value) (hw : ∀ d ∈ tables_1, d.before a0 Z = true) (ws : List Jvm.Cond) (k1 i1 k2 i2 mode : Int32) (wU : Addr) (wR : Addr) (wc : Addr)  (cl : Cell) (hS : Sf Z wU wR wc cl) (h0 : Heap) (n0 : Nat) (O : Old Z n0 h0)  :
    MetFree l x (head1 (Jvm.Cond.code x code maxLocals ret :: ws) room_1) (fun as_ U => as_ = #[(.int k1), (.int i1), (.int k2), (.int i2), (.int mode)] ∧ Z.Warmed39 U.vm ∧ U.heap = h0) (fun _ _ _ _ _ => True) (fun _ U o U' => ∃ v L, o = .returned v ∧ Q1 n0 v U'.heap L ∧ FrameEnd U o U' L 16 128) := by
  refine MetFree.of_bodySF pn_rm1 hisR ?_
  intro p e s m args below meth c s₁ Bd hml0 hP hK
  obtain ⟨rfl, hZ, hh⟩ := hP
  have hx := Bd.exec
  have hby := Bd.bytes
  have hml : c.maxLocals = 18 := hml0
  have hown : s.vm.findClass "com/example/honest_replica/honestreplica/model/EntityEqualsPinLaw" = some m.cls := findClass_of_methodNamed Bd.named
  have hnm := (name_of_methodNamed Bd.named Bd.method).1
  have X0 : Stand p l e room_1 s m #[(.int k1), (.int i1), (.int k2), (.int i2), (.int mode)] below meth c s₁ [] 0 0 := Stand.of_body Bd
  have e0 : s₁.heap = h0 := by rw [← hh, Bd.state]; rfl
  have N := Fr.nil n0
  have K : Keep h0 h0 [] := Keep.refl _ _
  refine Go.by (T' := s₁) (f' := (mkF m 0 #[.val (.int k1), .val (.int i1), .val (.int k2), .val (.int i2), .val (.int mode), .unset, .unset, .unset, .unset, .unset, .unset, .unset, .unset, .unset, .unset, .unset, .unset, .unset] [])) (fun _ k => castTop (ef_rm1 m k1 i1 k2 i2 mode) k) ?_
  have E_wU := hS.2.1.ext O.2
  have E_wR := hS.2.2.2.1.ext O.2
  refine Go.by (T' := s₁) (f' := (mkF m 1 #[.val (.int k1), .val (.int i1), .val (.int k2), .val (.int i2), .val (.int mode), .unset, .unset, .unset, .unset, .unset, .unset, .unset, .unset, .unset, .unset, .unset, .unset, .unset] [(.int k1)])) (fun _ k => XS.iloadN X0.here hx rfl (hb hby at_0) rfl k) ?_
  obtain ⟨v1, _, ⟨T1, L1, k1, n1⟩, -, X1, ⟨Lc1, hQ1, l1, y1, z1⟩, st1⟩ := Jvm.LawKit.callS X0 hx (y := (⟨"com/example/honest_replica/honestreplica/model/EntityEqualsPinLaw", "kindOf", "(I)Lcom/example/honest_replica/honestreplica/model/Credential$Kind;"⟩ : MethodName)) hown (mvT hZ (hw _ (List.mem_of_getElem? (i := 0) rfl))) (mvT hZ (hw _ (List.mem_of_getElem? (i := 1) rfl))) (mvT hZ (hw _ (List.mem_of_getElem? (i := 2) rfl))) (mvT hZ (hw _ (List.mem_of_getElem? (i := 3) rfl))) (by decide) (backOf (W := 0) (rm_kof l Z a0 hw [] k1 wU wR wc cl hS h0 n0 O) hZ (hw _ (List.mem_of_getElem? (i := 3) rfl)) (hw _ (List.mem_of_getElem? (i := 2) rfl)) (by decide) (by decide)) (g := (mkF m 1 #[.val (.int k1), .val (.int i1), .val (.int k2), .val (.int i2), .val (.int mode), .unset, .unset, .unset, .unset, .unset, .unset, .unset, .unset, .unset, .unset, .unset, .unset, .unset] [(.int k1)])) rfl (by rw [hml]; rfl) (argsL := [(.int k1)]) (rest := []) (lenOf pd_rm1_0 rfl) rfl (by show 2 * 0 + _ ≤ _; exact Nat.le_of_eq rfl) (hb hby at_1) (fun _ _ => ⟨rfl, e0, (by decide : 0 + 0 ≤ _), (by decide : 0 + 0 ≤ _)⟩)
  dsimp only [Pt.U, Pt.locs, Pt.cells, Pt.slots] at X1 l1 y1 z1 st1 hQ1
  subst l1 y1 z1
  obtain ⟨kd1, rfl, hkd1, Nq1, e1⟩ := hQ1
  replace N := Fr.app N Nq1
  refine Go.by (T' := T1) (f' := (mkF m 4 #[.val (.int k1), .val (.int i1), .val (.int k2), .val (.int i2), .val (.int mode), .unset, .unset, .unset, .unset, .unset, .unset, .unset, .unset, .unset, .unset, .unset, .unset, .unset] [(.ref kd1)])) (st1) ?_
  refine Go.by (T' := T1) (f' := (mkF m 6 #[.val (.int k1), .val (.int i1), .val (.int k2), .val (.int i2), .val (.int mode), .val (.ref kd1), .unset, .unset, .unset, .unset, .unset, .unset, .unset, .unset, .unset, .unset, .unset, .unset] [])) (fun _ k => XS.astore X1.here hx rfl (hb hby at_4) rfl rfl (l' := #[.val (.int k1), .val (.int i1), .val (.int k2), .val (.int i2), .val (.int mode), .val (.ref kd1), .unset, .unset, .unset, .unset, .unset, .unset, .unset, .unset, .unset, .unset, .unset, .unset]) rfl k) ?_
  refine Go.by (T' := T1) (f' := (mkF m 7 #[.val (.int k1), .val (.int i1), .val (.int k2), .val (.int i2), .val (.int mode), .val (.ref kd1), .unset, .unset, .unset, .unset, .unset, .unset, .unset, .unset, .unset, .unset, .unset, .unset] [(.int k2)])) (fun _ k => XS.iloadN X1.here hx rfl (hb hby at_6) rfl k) ?_
  obtain ⟨v2, _, ⟨T2, L2, k2, n2⟩, -, X2, ⟨Lc2, hQ2, l2, y2, z2⟩, st2⟩ := Jvm.LawKit.callS X1 hx (y := (⟨"com/example/honest_replica/honestreplica/model/EntityEqualsPinLaw", "kindOf", "(I)Lcom/example/honest_replica/honestreplica/model/Credential$Kind;"⟩ : MethodName)) hown (mvT hZ (hw _ (List.mem_of_getElem? (i := 0) rfl))) (mvT hZ (hw _ (List.mem_of_getElem? (i := 1) rfl))) (mvT hZ (hw _ (List.mem_of_getElem? (i := 2) rfl))) (mvT hZ (hw _ (List.mem_of_getElem? (i := 3) rfl))) (by decide) (backOf (W := 0) (rm_kof l Z a0 hw [] k2 wU wR wc cl hS h0 n0 O) hZ (hw _ (List.mem_of_getElem? (i := 3) rfl)) (hw _ (List.mem_of_getElem? (i := 2) rfl)) (by decide) (by decide)) (g := (mkF m 7 #[.val (.int k1), .val (.int i1), .val (.int k2), .val (.int i2), .val (.int mode), .val (.ref kd1), .unset, .unset, .unset, .unset, .unset, .unset, .unset, .unset, .unset, .unset, .unset, .unset] [(.int k2)])) rfl (by rw [hml]; rfl) (argsL := [(.int k2)]) (rest := []) (lenOf pd_rm1_0 rfl) rfl (by show 2 * 0 + _ ≤ _; exact Nat.le_of_eq rfl) (hb hby at_7) (fun _ _ => ⟨rfl, e1, (by decide : 0 + 0 ≤ _), (by decide : 0 + 0 ≤ _)⟩)
  dsimp only [Pt.U, Pt.locs, Pt.cells, Pt.slots] at X2 l2 y2 z2 st2 hQ2
  subst l2 y2 z2
  obtain ⟨kd2, rfl, hkd2, Nq2, e2⟩ := hQ2
  replace N := Fr.app N Nq2
  refine Go.by (T' := T2) (f' := (mkF m 10 #[.val (.int k1), .val (.int i1), .val (.int k2), .val (.int i2), .val (.int mode), .val (.ref kd1), .unset, .unset, .unset, .unset, .unset, .unset, .unset, .unset, .unset, .unset, .unset, .unset] [(.ref kd2)])) (st2) ?_
  refine Go.by (T' := T2) (f' := (mkF m 12 #[.val (.int k1), .val (.int i1), .val (.int k2), .val (.int i2), .val (.int mode), .val (.ref kd1), .val (.ref kd2), .unset, .unset, .unset, .unset, .unset, .unset, .unset, .unset, .unset, .unset, .unset] [])) (fun _ k => XS.astore X2.here hx rfl (hb hby at_10) rfl rfl (l' := #[.val (.int k1), .val (.int i1), .val (.int k2), .val (.int i2), .val (.int mode), .val (.ref kd1), .val (.ref kd2), .unset, .unset, .unset, .unset, .unset, .unset, .unset, .unset, .unset, .unset, .unset]) rfl k) ?_
  refine Go.by (T' := T2) (f' := (mkF m 13 #[.val (.int k1), .val (.int i1), .val (.int k2), .val (.int i2), .val (.int mode), .val (.ref kd1), .val (.ref kd2), .unset, .unset, .unset, .unset, .unset, .unset, .unset, .unset, .unset, .unset, .unset] [(.int i1)])) (fun _ k => XS.iloadN X2.here hx rfl (hb hby at_12) rfl k) ?_
  refine Go.by (T' := T2) (f' := (mkF m 15 #[.val (.int k1), .val (.int i1), .val (.int k2), .val (.int i2), .val (.int mode), .val (.ref kd1), .val (.ref kd2), .unset, .unset, .unset, .unset, .unset, .unset, .unset, .unset, .unset, .unset, .unset] [(.int (2147483647 : Int32)), (.int i1)])) (X2.ldcInt hx hown (mvT hZ (hw _ (List.mem_of_getElem? (i := 7) rfl))) (g := (mkF m 13 #[.val (.int k1), .val (.int i1), .val (.int k2), .val (.int i2), .val (.int mode), .val (.ref kd1), .val (.ref kd2), .unset, .unset, .unset, .unset, .unset, .unset, .unset, .unset, .unset, .unset, .unset] [(.int i1)])) rfl (hb hby at_13)) ?_
  refine Go.by (T' := T2) (f' := (mkF m 16 #[.val (.int k1), .val (.int i1), .val (.int k2), .val (.int i2), .val (.int mode), .val (.ref kd1), .val (.ref kd2), .unset, .unset, .unset, .unset, .unset, .unset, .unset, .unset, .unset, .unset, .unset] [(.int (i1 &&& (2147483647 : Int32)))])) (fun _ k => XS.iand X2.here hx rfl (hb hby at_15) rfl k) ?_
  refine Go.by (T' := T2) (f' := (mkF m 18 #[.val (.int k1), .val (.int i1), .val (.int k2), .val (.int i2), .val (.int mode), .val (.ref kd1), .val (.ref kd2), .val (.int (i1 &&& (2147483647 : Int32))), .unset, .unset, .unset, .unset, .unset, .unset, .unset, .unset, .unset, .unset] [])) (fun _ k => XS.istore X2.here hx rfl (hb hby at_16) rfl (l' := #[.val (.int k1), .val (.int i1), .val (.int k2), .val (.int i2), .val (.int mode), .val (.ref kd1), .val (.ref kd2), .val (.int (i1 &&& (2147483647 : Int32))), .unset, .unset, .unset, .unset, .unset, .unset, .unset, .unset, .unset, .unset]) rfl k) ?_
  refine Go.by (T' := T2) (f' := (mkF m 20 #[.val (.int k1), .val (.int i1), .val (.int k2), .val (.int i2), .val (.int mode), .val (.ref kd1), .val (.ref kd2), .val (.int (i1 &&& (2147483647 : Int32))), .unset, .unset, .unset, .unset, .unset, .unset, .unset, .unset, .unset, .unset] [(.int mode)])) (fun _ k => XS.iload X2.here hx rfl (hb hby at_18) rfl k) ?_
  refine Go.by (T' := T2) (f' := (mkF m 21 #[.val (.int k1), .val (.int i1), .val (.int k2), .val (.int i2), .val (.int mode), .val (.ref kd1), .val (.ref kd2), .val (.int (i1 &&& (2147483647 : Int32))), .unset, .unset, .unset, .unset, .unset, .unset, .unset, .unset, .unset, .unset] [(.int (1 : Int32)), (.int mode)])) (fun _ k => XS.iconst X2.here hx rfl (hb hby at_20) k) ?_
  refine Go.by (T' := T2) (f' := (mkF m 22 #[.val (.int k1), .val (.int i1), .val (.int k2), .val (.int i2), .val (.int mode), .val (.ref kd1), .val (.ref kd2), .val (.int (i1 &&& (2147483647 : Int32))), .unset, .unset, .unset, .unset, .unset, .unset, .unset, .unset, .unset, .unset] [(.int (mode &&& (1 : Int32)))])) (fun _ k => XS.iand X2.here hx rfl (hb hby at_21) rfl k) ?_
  by_cases hc22_3 : (mode &&& (1 : Int32)) = (0 : Int32)
  · skip
    refine Go.by (T' := T2) (f' := (mkF m 30 #[.val (.int k1), .val (.int i1), .val (.int k2), .val (.int i2), .val (.int mode), .val (.ref kd1), .val (.ref kd2), .val (.int (i1 &&& (2147483647 : Int32))), .unset, .unset, .unset, .unset, .unset, .unset, .unset, .unset, .unset, .unset] [])) (fun _ k => XS.ifYes X2.here hx rfl (pc0 := 22) (pc' := 30) rfl (hb hby at_22) rfl ((if0 _ _).trans (teq hc22_3).1) (by decide) (by decide) k) ?_
    refine Go.by (T' := T2) (f' := (mkF m 31 #[.val (.int k1), .val (.int i1), .val (.int k2), .val (.int i2), .val (.int mode), .val (.ref kd1), .val (.ref kd2), .val (.int (i1 &&& (2147483647 : Int32))), .unset, .unset, .unset, .unset, .unset, .unset, .unset, .unset, .unset, .unset] [(.int i2)])) (fun _ k => XS.iloadN X2.here hx rfl (hb hby at_30) rfl k) ?_
    refine Go.by (T' := T2) (f' := (mkF m 33 #[.val (.int k1), .val (.int i1), .val (.int k2), .val (.int i2), .val (.int mode), .val (.ref kd1), .val (.ref kd2), .val (.int (i1 &&& (2147483647 : Int32))), .unset, .unset, .unset, .unset, .unset, .unset, .unset, .unset, .unset, .unset] [(.int (2147483647 : Int32)), (.int i2)])) (X2.ldcInt hx hown (mvT hZ (hw _ (List.mem_of_getElem? (i := 7) rfl))) (g := (mkF m 31 #[.val (.int k1), .val (.int i1), .val (.int k2), .val (.int i2), .val (.int mode), .val (.ref kd1), .val (.ref kd2), .val (.int (i1 &&& (2147483647 : Int32))), .unset, .unset, .unset, .unset, .unset, .unset, .unset, .unset, .unset, .unset] [(.int i2)])) rfl (hb hby at_31)) ?_
    refine Go.by (T' := T2) (f' := (mkF m 34 #[.val (.int k1), .val (.int i1), .val (.int k2), .val (.int i2), .val (.int mode), .val (.ref kd1), .val (.ref kd2), .val (.int (i1 &&& (2147483647 : Int32))), .unset, .unset, .unset, .unset, .unset, .unset, .unset, .unset, .unset, .unset] [(.int (i2 &&& (2147483647 : Int32)))])) (fun _ k => XS.iand X2.here hx rfl (hb hby at_33) rfl k) ?_
    refine Go.by (T' := T2) (f' := (mkF m 36 #[.val (.int k1), .val (.int i1), .val (.int k2), .val (.int i2), .val (.int mode), .val (.ref kd1), .val (.ref kd2), .val (.int (i1 &&& (2147483647 : Int32))), .val (.int (i2 &&& (2147483647 : Int32))), .unset, .unset, .unset, .unset, .unset, .unset, .unset, .unset, .unset] [])) (fun _ k => XS.istore X2.here hx rfl (hb hby at_34) rfl (l' := #[.val (.int k1), .val (.int i1), .val (.int k2), .val (.int i2), .val (.int mode), .val (.ref kd1), .val (.ref kd2), .val (.int (i1 &&& (2147483647 : Int32))), .val (.int (i2 &&& (2147483647 : Int32))), .unset, .unset, .unset, .unset, .unset, .unset, .unset, .unset, .unset]) rfl k) ?_
    obtain ⟨T4, h4, X4, e4, E4, A4, D4, -, st4⟩ := newO X2 hx hZ hown (hw _ (List.mem_of_getElem? (i := 8) rfl)) (hw _ (List.mem_of_getElem? (i := 9) rfl)) (hw _ (List.mem_of_getElem? (i := 10) rfl)) e2 (g := (mkF m 36 #[.val (.int k1), .val (.int i1), .val (.int k2), .val (.int i2), .val (.int mode), .val (.ref kd1), .val (.ref kd2), .val (.int (i1 &&& (2147483647 : Int32))), .val (.int (i2 &&& (2147483647 : Int32))), .unset, .unset, .unset, .unset, .unset, .unset, .unset, .unset, .unset] [])) rfl (hb hby at_36) (by decide) (by decide)
    obtain ⟨b4, g4⟩ : ∃ z, z = h0.size := ⟨_, rfl⟩
    rw [← g4] at A4 D4 st4
    have ne_wU_b4 : wU ≠ b4 := Nat.ne_of_lt (Nat.lt_of_lt_of_le E_wU.lt (Nat.le_of_eq g4.symm))
    have ne_wR_b4 : wR ≠ b4 := Nat.ne_of_lt (Nat.lt_of_lt_of_le E_wR.lt (Nat.le_of_eq g4.symm))
    have g_b4 : n0 ≤ b4 := Nat.le_trans (Old.le O) (Nat.le_of_eq g4.symm)
    have sz_b4 : h0.size ≤ b4 := Nat.le_trans K.1 (Nat.le_of_eq g4.symm)
    replace E_wU := E_wU.ext E4
    replace E_wR := E_wR.ext E4
    replace O := O.ext E4
    replace K := K.ext E4
    have E_b4 := A4
    have F_kind_b4 : Fld Z h4 b4 "com/example/honest_replica/honestreplica/model/Entity" "kind" "Lcom/example/honest_replica/honestreplica/model/Credential$Kind;" .null := D4 (Or.inr (hw _ (List.mem_of_getElem? (i := 19) rfl))) (ty := (.object "com/example/honest_replica/honestreplica/model/Credential$Kind")) (by decide)
    have F_id_b4 : Fld Z h4 b4 "com/example/honest_replica/honestreplica/model/Entity" "id" "I" (.int (0 : Int32)) := D4 (Or.inr (hw _ (List.mem_of_getElem? (i := 21) rfl))) (ty := .int) (by decide)
    refine Go.by (T' := T4) (f' := (mkF m 39 #[.val (.int k1), .val (.int i1), .val (.int k2), .val (.int i2), .val (.int mode), .val (.ref kd1), .val (.ref kd2), .val (.int (i1 &&& (2147483647 : Int32))), .val (.int (i2 &&& (2147483647 : Int32))), .unset, .unset, .unset, .unset, .unset, .unset, .unset, .unset, .unset] [(.ref b4)])) (st4) ?_
    refine Go.by (T' := T4) (f' := (mkF m 40 #[.val (.int k1), .val (.int i1), .val (.int k2), .val (.int i2), .val (.int mode), .val (.ref kd1), .val (.ref kd2), .val (.int (i1 &&& (2147483647 : Int32))), .val (.int (i2 &&& (2147483647 : Int32))), .unset, .unset, .unset, .unset, .unset, .unset, .unset, .unset, .unset] [(.ref b4), (.ref b4)])) (fun _ k => XS.dup X4.here hx rfl (hb hby at_39) rfl rfl k) ?_
    refine Go.by (T' := T4) (f' := (mkF m 42 #[.val (.int k1), .val (.int i1), .val (.int k2), .val (.int i2), .val (.int mode), .val (.ref kd1), .val (.ref kd2), .val (.int (i1 &&& (2147483647 : Int32))), .val (.int (i2 &&& (2147483647 : Int32))), .unset, .unset, .unset, .unset, .unset, .unset, .unset, .unset, .unset] [(.ref kd1), (.ref b4), (.ref b4)])) (fun _ k => XS.aload X4.here hx rfl (hb hby at_40) rfl rfl k) ?_
    refine Go.by (T' := T4) (f' := (mkF m 44 #[.val (.int k1), .val (.int i1), .val (.int k2), .val (.int i2), .val (.int mode), .val (.ref kd1), .val (.ref kd2), .val (.int (i1 &&& (2147483647 : Int32))), .val (.int (i2 &&& (2147483647 : Int32))), .unset, .unset, .unset, .unset, .unset, .unset, .unset, .unset, .unset] [(.int (i1 &&& (2147483647 : Int32))), (.ref kd1), (.ref b4), (.ref b4)])) (fun _ k => XS.iload X4.here hx rfl (hb hby at_42) rfl k) ?_
    obtain ⟨v5, _, ⟨T5, L5, k5, n5⟩, -, X5, ⟨Lc5, hQ5, l5, y5, z5⟩, st5⟩ := X4.specialBack hx (y := (⟨"com/example/honest_replica/honestreplica/model/Entity", "<init>", "(Lcom/example/honest_replica/honestreplica/model/Credential$Kind;I)V"⟩ : MethodName)) rfl hown (mvT hZ (hw _ (List.mem_of_getElem? (i := 11) rfl))) (mvT hZ (hw _ (List.mem_of_getElem? (i := 12) rfl))) (mvT hZ (hw _ (List.mem_of_getElem? (i := 13) rfl))) (by decide) (backOf (W := 1) (rm_e l Z a0 hw [] b4 kd1 (i1 &&& (2147483647 : Int32)) wU wR wc cl hS hkd1 (own_nn i1) h4 n0 O E_b4 F_kind_b4 F_id_b4 g_b4) hZ (hw _ (List.mem_of_getElem? (i := 13) rfl)) (hw _ (List.mem_of_getElem? (i := 10) rfl)) (by decide) (by decide)) (g := (mkF m 44 #[.val (.int k1), .val (.int i1), .val (.int k2), .val (.int i2), .val (.int mode), .val (.ref kd1), .val (.ref kd2), .val (.int (i1 &&& (2147483647 : Int32))), .val (.int (i2 &&& (2147483647 : Int32))), .unset, .unset, .unset, .unset, .unset, .unset, .unset, .unset, .unset] [(.int (i1 &&& (2147483647 : Int32))), (.ref kd1), (.ref b4), (.ref b4)])) rfl (by rw [hml]; rfl) (Steps.refl _) (a := b4) (argsL := [(.ref kd1), (.int (i1 &&& (2147483647 : Int32)))]) (rest := [(.ref b4)]) (lenOf pd_rm1_1 rfl) rfl (by show 2 * 0 + _ ≤ _; exact Nat.le_of_eq rfl) (hb hby at_44) (fun _ _ => ⟨rfl, e4, (by decide : 1 + 0 ≤ _), (by decide : 2 + 0 ≤ _)⟩)
    dsimp only [Pt.U, Pt.locs, Pt.cells, Pt.slots] at X5 l5 y5 z5 st5 hQ5
    subst l5 y5 z5
    obtain ⟨rfl, Nq5, K5, Gk5, Gi5⟩ := hQ5
    replace N := Fr.app N Nq5
    replace E_wU := E_wU.keep K5
    replace E_wR := E_wR.keep K5
    replace E_b4 := E_b4.keep K5
    replace O := O.keep K5 (allS g_b4 all0)
    replace K := K.trans K5 (allS (Or.inr sz_b4) all0)
    refine Go.by (T' := T5) (f' := (mkF m 47 #[.val (.int k1), .val (.int i1), .val (.int k2), .val (.int i2), .val (.int mode), .val (.ref kd1), .val (.ref kd2), .val (.int (i1 &&& (2147483647 : Int32))), .val (.int (i2 &&& (2147483647 : Int32))), .unset, .unset, .unset, .unset, .unset, .unset, .unset, .unset, .unset] [(.ref b4)])) (fun _ k => st5.trans k) ?_
    refine Go.by (T' := T5) (f' := (mkF m 49 #[.val (.int k1), .val (.int i1), .val (.int k2), .val (.int i2), .val (.int mode), .val (.ref kd1), .val (.ref kd2), .val (.int (i1 &&& (2147483647 : Int32))), .val (.int (i2 &&& (2147483647 : Int32))), .val (.ref b4), .unset, .unset, .unset, .unset, .unset, .unset, .unset, .unset] [])) (fun _ k => XS.astore X5.here hx rfl (hb hby at_47) rfl rfl (l' := #[.val (.int k1), .val (.int i1), .val (.int k2), .val (.int i2), .val (.int mode), .val (.ref kd1), .val (.ref kd2), .val (.int (i1 &&& (2147483647 : Int32))), .val (.int (i2 &&& (2147483647 : Int32))), .val (.ref b4), .unset, .unset, .unset, .unset, .unset, .unset, .unset, .unset]) rfl k) ?_
    obtain ⟨T6, h6, X6, e6, E6, A6, D6, -, st6⟩ := newO X5 hx hZ hown (hw _ (List.mem_of_getElem? (i := 8) rfl)) (hw _ (List.mem_of_getElem? (i := 9) rfl)) (hw _ (List.mem_of_getElem? (i := 10) rfl)) rfl (g := (mkF m 49 #[.val (.int k1), .val (.int i1), .val (.int k2), .val (.int i2), .val (.int mode), .val (.ref kd1), .val (.ref kd2), .val (.int (i1 &&& (2147483647 : Int32))), .val (.int (i2 &&& (2147483647 : Int32))), .val (.ref b4), .unset, .unset, .unset, .unset, .unset, .unset, .unset, .unset] [])) rfl (hb hby at_49) (by decide) (by decide)
    obtain ⟨b6, g6⟩ : ∃ z, z = T5.heap.size := ⟨_, rfl⟩
    rw [← g6] at A6 D6 st6
    have ne_wU_b6 : wU ≠ b6 := Nat.ne_of_lt (Nat.lt_of_lt_of_le E_wU.lt (Nat.le_of_eq g6.symm))
    have ne_wR_b6 : wR ≠ b6 := Nat.ne_of_lt (Nat.lt_of_lt_of_le E_wR.lt (Nat.le_of_eq g6.symm))
    have ne_b4_b6 : b4 ≠ b6 := Nat.ne_of_lt (Nat.lt_of_lt_of_le E_b4.lt (Nat.le_of_eq g6.symm))
    have g_b6 : n0 ≤ b6 := Nat.le_trans (Old.le O) (Nat.le_of_eq g6.symm)
    have sz_b6 : h0.size ≤ b6 := Nat.le_trans K.1 (Nat.le_of_eq g6.symm)
    replace E_wU := E_wU.ext E6
    replace E_wR := E_wR.ext E6
    replace E_b4 := E_b4.ext E6
    replace Gk5 := Gk5.ext E6
    replace Gi5 := Gi5.ext E6
    replace O := O.ext E6
    replace K := K.ext E6
    have E_b6 := A6
    have F_kind_b6 : Fld Z h6 b6 "com/example/honest_replica/honestreplica/model/Entity" "kind" "Lcom/example/honest_replica/honestreplica/model/Credential$Kind;" .null := D6 (Or.inr (hw _ (List.mem_of_getElem? (i := 19) rfl))) (ty := (.object "com/example/honest_replica/honestreplica/model/Credential$Kind")) (by decide)
    have F_id_b6 : Fld Z h6 b6 "com/example/honest_replica/honestreplica/model/Entity" "id" "I" (.int (0 : Int32)) := D6 (Or.inr (hw _ (List.mem_of_getElem? (i := 21) rfl))) (ty := .int) (by decide)
    refine Go.by (T' := T6) (f' := (mkF m 52 #[.val (.int k1), .val (.int i1), .val (.int k2), .val (.int i2), .val (.int mode), .val (.ref kd1), .val (.ref kd2), .val (.int (i1 &&& (2147483647 : Int32))), .val (.int (i2 &&& (2147483647 : Int32))), .val (.ref b4), .unset, .unset, .unset, .unset, .unset, .unset, .unset, .unset] [(.ref b6)])) (st6) ?_
    refine Go.by (T' := T6) (f' := (mkF m 53 #[.val (.int k1), .val (.int i1), .val (.int k2), .val (.int i2), .val (.int mode), .val (.ref kd1), .val (.ref kd2), .val (.int (i1 &&& (2147483647 : Int32))), .val (.int (i2 &&& (2147483647 : Int32))), .val (.ref b4), .unset, .unset, .unset, .unset, .unset, .unset, .unset, .unset] [(.ref b6), (.ref b6)])) (fun _ k => XS.dup X6.here hx rfl (hb hby at_52) rfl rfl k) ?_
    refine Go.by (T' := T6) (f' := (mkF m 55 #[.val (.int k1), .val (.int i1), .val (.int k2), .val (.int i2), .val (.int mode), .val (.ref kd1), .val (.ref kd2), .val (.int (i1 &&& (2147483647 : Int32))), .val (.int (i2 &&& (2147483647 : Int32))), .val (.ref b4), .unset, .unset, .unset, .unset, .unset, .unset, .unset, .unset] [(.ref kd2), (.ref b6), (.ref b6)])) (fun _ k => XS.aload X6.here hx rfl (hb hby at_53) rfl rfl k) ?_
    refine Go.by (T' := T6) (f' := (mkF m 57 #[.val (.int k1), .val (.int i1), .val (.int k2), .val (.int i2), .val (.int mode), .val (.ref kd1), .val (.ref kd2), .val (.int (i1 &&& (2147483647 : Int32))), .val (.int (i2 &&& (2147483647 : Int32))), .val (.ref b4), .unset, .unset, .unset, .unset, .unset, .unset, .unset, .unset] [(.int (i2 &&& (2147483647 : Int32))), (.ref kd2), (.ref b6), (.ref b6)])) (fun _ k => XS.iload X6.here hx rfl (hb hby at_55) rfl k) ?_
    obtain ⟨v7, _, ⟨T7, L7, k7, n7⟩, -, X7, ⟨Lc7, hQ7, l7, y7, z7⟩, st7⟩ := X6.specialBack hx (y := (⟨"com/example/honest_replica/honestreplica/model/Entity", "<init>", "(Lcom/example/honest_replica/honestreplica/model/Credential$Kind;I)V"⟩ : MethodName)) rfl hown (mvT hZ (hw _ (List.mem_of_getElem? (i := 11) rfl))) (mvT hZ (hw _ (List.mem_of_getElem? (i := 12) rfl))) (mvT hZ (hw _ (List.mem_of_getElem? (i := 13) rfl))) (by decide) (backOf (W := 1) (rm_e l Z a0 hw [] b6 kd2 (i2 &&& (2147483647 : Int32)) wU wR wc cl hS hkd2 (own_nn i2) h6 n0 O E_b6 F_kind_b6 F_id_b6 g_b6) hZ (hw _ (List.mem_of_getElem? (i := 13) rfl)) (hw _ (List.mem_of_getElem? (i := 10) rfl)) (by decide) (by decide)) (g := (mkF m 57 #[.val (.int k1), .val (.int i1), .val (.int k2), .val (.int i2), .val (.int mode), .val (.ref kd1), .val (.ref kd2), .val (.int (i1 &&& (2147483647 : Int32))), .val (.int (i2 &&& (2147483647 : Int32))), .val (.ref b4), .unset, .unset, .unset, .unset, .unset, .unset, .unset, .unset] [(.int (i2 &&& (2147483647 : Int32))), (.ref kd2), (.ref b6), (.ref b6)])) rfl (by rw [hml]; rfl) (Steps.refl _) (a := b6) (argsL := [(.ref kd2), (.int (i2 &&& (2147483647 : Int32)))]) (rest := [(.ref b6)]) (lenOf pd_rm1_1 rfl) rfl (by show 2 * 0 + _ ≤ _; exact Nat.le_of_eq rfl) (hb hby at_57) (fun _ _ => ⟨rfl, e6, (by decide : 2 + 0 ≤ _), (by decide : 4 + 0 ≤ _)⟩)
    dsimp only [Pt.U, Pt.locs, Pt.cells, Pt.slots] at X7 l7 y7 z7 st7 hQ7
    subst l7 y7 z7
    obtain ⟨rfl, Nq7, K7, Gk7, Gi7⟩ := hQ7
    replace N := Fr.app N Nq7
    replace E_wU := E_wU.keep K7
    replace E_wR := E_wR.keep K7
    replace E_b4 := E_b4.keep K7
    replace Gk5 := Gk5.keep K7 (ninS ne_b4_b6 nin0)
    replace Gi5 := Gi5.keep K7 (ninS ne_b4_b6 nin0)
    replace E_b6 := E_b6.keep K7
    replace O := O.keep K7 (allS g_b6 all0)
    replace K := K.trans K7 (allS (Or.inr sz_b6) all0)
    refine Go.by (T' := T7) (f' := (mkF m 60 #[.val (.int k1), .val (.int i1), .val (.int k2), .val (.int i2), .val (.int mode), .val (.ref kd1), .val (.ref kd2), .val (.int (i1 &&& (2147483647 : Int32))), .val (.int (i2 &&& (2147483647 : Int32))), .val (.ref b4), .unset, .unset, .unset, .unset, .unset, .unset, .unset, .unset] [(.ref b6)])) (fun _ k => st7.trans k) ?_
    refine Go.by (T' := T7) (f' := (mkF m 62 #[.val (.int k1), .val (.int i1), .val (.int k2), .val (.int i2), .val (.int mode), .val (.ref kd1), .val (.ref kd2), .val (.int (i1 &&& (2147483647 : Int32))), .val (.int (i2 &&& (2147483647 : Int32))), .val (.ref b4), .val (.ref b6), .unset, .unset, .unset, .unset, .unset, .unset, .unset] [])) (fun _ k => XS.astore X7.here hx rfl (hb hby at_60) rfl rfl (l' := #[.val (.int k1), .val (.int i1), .val (.int k2), .val (.int i2), .val (.int mode), .val (.ref kd1), .val (.ref kd2), .val (.int (i1 &&& (2147483647 : Int32))), .val (.int (i2 &&& (2147483647 : Int32))), .val (.ref b4), .val (.ref b6), .unset, .unset, .unset, .unset, .unset, .unset, .unset]) rfl k) ?_
    refine Go.by (T' := T7) (f' := (mkF m 64 #[.val (.int k1), .val (.int i1), .val (.int k2), .val (.int i2), .val (.int mode), .val (.ref kd1), .val (.ref kd2), .val (.int (i1 &&& (2147483647 : Int32))), .val (.int (i2 &&& (2147483647 : Int32))), .val (.ref b4), .val (.ref b6), .unset, .unset, .unset, .unset, .unset, .unset, .unset] [(.int (i1 &&& (2147483647 : Int32)))])) (fun _ k => XS.iload X7.here hx rfl (hb hby at_62) rfl k) ?_
    obtain ⟨v8, _, ⟨T8, L8, k8, n8⟩, -, X8, ⟨Lc8, hQ8, l8, y8, z8⟩, st8⟩ := Jvm.LawKit.callS X7 hx (y := (⟨"java/lang/Integer", "valueOf", "(I)Ljava/lang/Integer;"⟩ : MethodName)) hown (mvT hZ (hw _ (List.mem_of_getElem? (i := 22) rfl))) (mvT hZ (hw _ (List.mem_of_getElem? (i := 23) rfl))) (mvT hZ (hw _ (List.mem_of_getElem? (i := 24) rfl))) (mvT hZ (hw _ (List.mem_of_getElem? (i := 25) rfl))) (by decide) (backOf (W := 0) (rm_vo l Z a0 hw [] (i1 &&& (2147483647 : Int32)) wU wR wc cl hS T7.heap n0 O) hZ (hw _ (List.mem_of_getElem? (i := 25) rfl)) (hw _ (List.mem_of_getElem? (i := 24) rfl)) (by decide) (by decide)) (g := (mkF m 64 #[.val (.int k1), .val (.int i1), .val (.int k2), .val (.int i2), .val (.int mode), .val (.ref kd1), .val (.ref kd2), .val (.int (i1 &&& (2147483647 : Int32))), .val (.int (i2 &&& (2147483647 : Int32))), .val (.ref b4), .val (.ref b6), .unset, .unset, .unset, .unset, .unset, .unset, .unset] [(.int (i1 &&& (2147483647 : Int32)))])) rfl (by rw [hml]; rfl) (argsL := [(.int (i1 &&& (2147483647 : Int32)))]) (rest := []) (lenOf pd_rm1_2 rfl) rfl (by show 2 * 0 + _ ≤ _; exact Nat.le_of_eq rfl) (hb hby at_64) (fun _ _ => ⟨rfl, rfl, (by decide : 2 + 1 ≤ _), (by decide : 4 + 1 ≤ _)⟩)
    dsimp only [Pt.U, Pt.locs, Pt.cells, Pt.slots] at X8 l8 y8 z8 st8 hQ8
    subst l8 y8 z8
    obtain ⟨bx8, rfl, Nq8, K8, E_bx8⟩ := hQ8
    replace N := Fr.app N Nq8
    replace E_wU := E_wU.keep K8
    replace E_wR := E_wR.keep K8
    replace E_b4 := E_b4.keep K8
    replace Gk5 := Gk5.keep K8 nin0
    replace Gi5 := Gi5.keep K8 nin0
    replace E_b6 := E_b6.keep K8
    replace Gk7 := Gk7.keep K8 nin0
    replace Gi7 := Gi7.keep K8 nin0
    replace O := O.keep K8 all0
    replace K := K.trans K8 all0
    refine Go.by (T' := T8) (f' := (mkF m 67 #[.val (.int k1), .val (.int i1), .val (.int k2), .val (.int i2), .val (.int mode), .val (.ref kd1), .val (.ref kd2), .val (.int (i1 &&& (2147483647 : Int32))), .val (.int (i2 &&& (2147483647 : Int32))), .val (.ref b4), .val (.ref b6), .unset, .unset, .unset, .unset, .unset, .unset, .unset] [(.ref bx8)])) (st8) ?_
    refine Go.by (T' := T8) (f' := (mkF m 69 #[.val (.int k1), .val (.int i1), .val (.int k2), .val (.int i2), .val (.int mode), .val (.ref kd1), .val (.ref kd2), .val (.int (i1 &&& (2147483647 : Int32))), .val (.int (i2 &&& (2147483647 : Int32))), .val (.ref b4), .val (.ref b6), .val (.ref bx8), .unset, .unset, .unset, .unset, .unset, .unset] [])) (fun _ k => XS.astore X8.here hx rfl (hb hby at_67) rfl rfl (l' := #[.val (.int k1), .val (.int i1), .val (.int k2), .val (.int i2), .val (.int mode), .val (.ref kd1), .val (.ref kd2), .val (.int (i1 &&& (2147483647 : Int32))), .val (.int (i2 &&& (2147483647 : Int32))), .val (.ref b4), .val (.ref b6), .val (.ref bx8), .unset, .unset, .unset, .unset, .unset, .unset]) rfl k) ?_
    refine Go.by (T' := T8) (f' := (mkF m 71 #[.val (.int k1), .val (.int i1), .val (.int k2), .val (.int i2), .val (.int mode), .val (.ref kd1), .val (.ref kd2), .val (.int (i1 &&& (2147483647 : Int32))), .val (.int (i2 &&& (2147483647 : Int32))), .val (.ref b4), .val (.ref b6), .val (.ref bx8), .unset, .unset, .unset, .unset, .unset, .unset] [(.ref kd1)])) (fun _ k => XS.aload X8.here hx rfl (hb hby at_69) rfl rfl k) ?_
    refine Go.by (T' := T8) (f' := (mkF m 73 #[.val (.int k1), .val (.int i1), .val (.int k2), .val (.int i2), .val (.int mode), .val (.ref kd1), .val (.ref kd2), .val (.int (i1 &&& (2147483647 : Int32))), .val (.int (i2 &&& (2147483647 : Int32))), .val (.ref b4), .val (.ref b6), .val (.ref bx8), .unset, .unset, .unset, .unset, .unset, .unset] [(.ref kd2), (.ref kd1)])) (fun _ k => XS.aload X8.here hx rfl (hb hby at_71) rfl rfl k) ?_
    by_cases ha73_9 : kd1 = kd2
    · skip
      refine Go.by (T' := T8) (f' := (mkF m 76 #[.val (.int k1), .val (.int i1), .val (.int k2), .val (.int i2), .val (.int mode), .val (.ref kd1), .val (.ref kd2), .val (.int (i1 &&& (2147483647 : Int32))), .val (.int (i2 &&& (2147483647 : Int32))), .val (.ref b4), .val (.ref b6), .val (.ref bx8), .unset, .unset, .unset, .unset, .unset, .unset] [])) (fun _ k => Jvm.RoadKit.acmp (g := (mkF m 73 #[.val (.int k1), .val (.int i1), .val (.int k2), .val (.int i2), .val (.int mode), .val (.ref kd1), .val (.ref kd2), .val (.int (i1 &&& (2147483647 : Int32))), .val (.int (i2 &&& (2147483647 : Int32))), .val (.ref b4), .val (.ref b6), .val (.ref bx8), .unset, .unset, .unset, .unset, .unset, .unset] [(.ref kd2), (.ref kd1)])) X8 hx rfl rfl rfl (pc0 := 73) (pc' := 76) (same := true) rfl (hb hby at_73) rfl (decide_eq_true (congrArg Value.ref ha73_9)) (by decide) (by decide) k) ?_
      refine Go.by (T' := T8) (f' := (mkF m 78 #[.val (.int k1), .val (.int i1), .val (.int k2), .val (.int i2), .val (.int mode), .val (.ref kd1), .val (.ref kd2), .val (.int (i1 &&& (2147483647 : Int32))), .val (.int (i2 &&& (2147483647 : Int32))), .val (.ref b4), .val (.ref b6), .val (.ref bx8), .unset, .unset, .unset, .unset, .unset, .unset] [(.int (i1 &&& (2147483647 : Int32)))])) (fun _ k => XS.iload X8.here hx rfl (hb hby at_76) rfl k) ?_
      refine Go.by (T' := T8) (f' := (mkF m 80 #[.val (.int k1), .val (.int i1), .val (.int k2), .val (.int i2), .val (.int mode), .val (.ref kd1), .val (.ref kd2), .val (.int (i1 &&& (2147483647 : Int32))), .val (.int (i2 &&& (2147483647 : Int32))), .val (.ref b4), .val (.ref b6), .val (.ref bx8), .unset, .unset, .unset, .unset, .unset, .unset] [(.int (i2 &&& (2147483647 : Int32))), (.int (i1 &&& (2147483647 : Int32)))])) (fun _ k => XS.iload X8.here hx rfl (hb hby at_78) rfl k) ?_
      by_cases hc80_10 : (i1 &&& (2147483647 : Int32)) = (i2 &&& (2147483647 : Int32))
      · skip
        refine Go.by (T' := T8) (f' := (mkF m 83 #[.val (.int k1), .val (.int i1), .val (.int k2), .val (.int i2), .val (.int mode), .val (.ref kd1), .val (.ref kd2), .val (.int (i1 &&& (2147483647 : Int32))), .val (.int (i2 &&& (2147483647 : Int32))), .val (.ref b4), .val (.ref b6), .val (.ref bx8), .unset, .unset, .unset, .unset, .unset, .unset] [])) (fun _ k => XS.icmpNo X8.here hx rfl (hb hby at_80) rfl (teq hc80_10).2 k) ?_
        refine Go.by (T' := T8) (f' := (mkF m 84 #[.val (.int k1), .val (.int i1), .val (.int k2), .val (.int i2), .val (.int mode), .val (.ref kd1), .val (.ref kd2), .val (.int (i1 &&& (2147483647 : Int32))), .val (.int (i2 &&& (2147483647 : Int32))), .val (.ref b4), .val (.ref b6), .val (.ref bx8), .unset, .unset, .unset, .unset, .unset, .unset] [(.int (1 : Int32))])) (fun _ k => XS.iconst X8.here hx rfl (hb hby at_83) k) ?_
        refine Go.by (T' := T8) (f' := (mkF m 88 #[.val (.int k1), .val (.int i1), .val (.int k2), .val (.int i2), .val (.int mode), .val (.ref kd1), .val (.ref kd2), .val (.int (i1 &&& (2147483647 : Int32))), .val (.int (i2 &&& (2147483647 : Int32))), .val (.ref b4), .val (.ref b6), .val (.ref bx8), .unset, .unset, .unset, .unset, .unset, .unset] [(.int (1 : Int32))])) (fun _ k => XS.goto X8.here hx rfl (pc0 := 84) (pc' := 88) rfl (hb hby at_84) (by decide) (by decide) k) ?_
        refine Go.by (T' := T8) (f' := (mkF m 90 #[.val (.int k1), .val (.int i1), .val (.int k2), .val (.int i2), .val (.int mode), .val (.ref kd1), .val (.ref kd2), .val (.int (i1 &&& (2147483647 : Int32))), .val (.int (i2 &&& (2147483647 : Int32))), .val (.ref b4), .val (.ref b6), .val (.ref bx8), .val (.int (1 : Int32)), .unset, .unset, .unset, .unset, .unset] [])) (fun _ k => XS.istore X8.here hx rfl (hb hby at_88) rfl (l' := #[.val (.int k1), .val (.int i1), .val (.int k2), .val (.int i2), .val (.int mode), .val (.ref kd1), .val (.ref kd2), .val (.int (i1 &&& (2147483647 : Int32))), .val (.int (i2 &&& (2147483647 : Int32))), .val (.ref b4), .val (.ref b6), .val (.ref bx8), .val (.int (1 : Int32)), .unset, .unset, .unset, .unset, .unset]) rfl k) ?_
        refine Go.by (T' := T8) (f' := (mkF m 92 #[.val (.int k1), .val (.int i1), .val (.int k2), .val (.int i2), .val (.int mode), .val (.ref kd1), .val (.ref kd2), .val (.int (i1 &&& (2147483647 : Int32))), .val (.int (i2 &&& (2147483647 : Int32))), .val (.ref b4), .val (.ref b6), .val (.ref bx8), .val (.int (1 : Int32)), .unset, .unset, .unset, .unset, .unset] [(.ref b4)])) (fun _ k => XS.aload X8.here hx rfl (hb hby at_90) rfl rfl k) ?_
        refine Go.by (T' := T8) (f' := (mkF m 94 #[.val (.int k1), .val (.int i1), .val (.int k2), .val (.int i2), .val (.int mode), .val (.ref kd1), .val (.ref kd2), .val (.int (i1 &&& (2147483647 : Int32))), .val (.int (i2 &&& (2147483647 : Int32))), .val (.ref b4), .val (.ref b6), .val (.ref bx8), .val (.int (1 : Int32)), .unset, .unset, .unset, .unset, .unset] [(.ref b6), (.ref b4)])) (fun _ k => XS.aload X8.here hx rfl (hb hby at_92) rfl rfl k) ?_
        obtain ⟨cq11, kq11, q11a, q11b, q11c⟩ := isOf hZ rfl E_b4
        obtain ⟨v11, _, ⟨T11, L11, k11, n11⟩, -, X11, ⟨Lc11, hQ11, l11, y11, z11⟩, st11⟩ := X8.virtualBack hx (y := (⟨"com/example/honest_replica/honestreplica/model/Entity", "equals", "(Ljava/lang/Object;)Z"⟩ : MethodName)) (z := (⟨"com/example/honest_replica/honestreplica/model/Entity", "equals", "(Ljava/lang/Object;)Z"⟩ : MethodName)) hown (mvT hZ (hw _ (List.mem_of_getElem? (i := 29) rfl))) (mvT hZ (hw _ (List.mem_of_getElem? (i := 30) rfl))) (notFace_of_selects (args := #[]) (mvT hZ (hw _ (List.mem_of_getElem? (i := 32) rfl)))) (mvT hZ (hw _ (List.mem_of_getElem? (i := 32) rfl))) (mvT hZ (hw _ (List.mem_of_getElem? (i := 31) rfl))) (by decide) (backOf (W := 0) (rm_q l Z a0 hw [] b4 b6 kd1 kd2 (i1 &&& (2147483647 : Int32)) (i2 &&& (2147483647 : Int32)) T8.heap n0 O E_b4 E_b6 Gk5 Gi5 Gk7 Gi7) hZ (hw _ (List.mem_of_getElem? (i := 33) rfl)) (hw _ (List.mem_of_getElem? (i := 10) rfl)) (by decide) (by decide)) q11a q11c (g := (mkF m 94 #[.val (.int k1), .val (.int i1), .val (.int k2), .val (.int i2), .val (.int mode), .val (.ref kd1), .val (.ref kd2), .val (.int (i1 &&& (2147483647 : Int32))), .val (.int (i2 &&& (2147483647 : Int32))), .val (.ref b4), .val (.ref b6), .val (.ref bx8), .val (.int (1 : Int32)), .unset, .unset, .unset, .unset, .unset] [(.ref b6), (.ref b4)])) rfl (by rw [hml]; rfl) (Steps.refl _) (argsL := [(.ref b6)]) (rest := []) (lenOf pd_rm1_3 rfl) rfl (by show 2 * 0 + _ ≤ _; exact Nat.le_of_eq rfl) (hb hby at_94) (fun _ _ => ⟨rfl, rfl, (by decide : 3 + 0 ≤ _), (by decide : 5 + 0 ≤ _)⟩)
        dsimp only [Pt.U, Pt.locs, Pt.cells, Pt.slots] at X11 l11 y11 z11 st11 hQ11
        subst l11 y11 z11
        obtain ⟨hv11, Nq11, e11⟩ := hQ11
        have hz11 : eqv kd1 (i1 &&& (2147483647 : Int32)) kd2 (i2 &&& (2147483647 : Int32)) = 1 := by simp [eqv, ha73_9, hc80_10]
        rw [hz11] at hv11
        subst hv11
        replace N := Fr.app N Nq11
        refine Go.by (T' := T11) (f' := (mkF m 97 #[.val (.int k1), .val (.int i1), .val (.int k2), .val (.int i2), .val (.int mode), .val (.ref kd1), .val (.ref kd2), .val (.int (i1 &&& (2147483647 : Int32))), .val (.int (i2 &&& (2147483647 : Int32))), .val (.ref b4), .val (.ref b6), .val (.ref bx8), .val (.int (1 : Int32)), .unset, .unset, .unset, .unset, .unset] [(.int (1 : Int32))])) (fun _ k => st11.trans k) ?_
        refine Go.by (T' := T11) (f' := (mkF m 99 #[.val (.int k1), .val (.int i1), .val (.int k2), .val (.int i2), .val (.int mode), .val (.ref kd1), .val (.ref kd2), .val (.int (i1 &&& (2147483647 : Int32))), .val (.int (i2 &&& (2147483647 : Int32))), .val (.ref b4), .val (.ref b6), .val (.ref bx8), .val (.int (1 : Int32)), .val (.int (1 : Int32)), .unset, .unset, .unset, .unset] [])) (fun _ k => XS.istore X11.here hx rfl (hb hby at_97) rfl (l' := #[.val (.int k1), .val (.int i1), .val (.int k2), .val (.int i2), .val (.int mode), .val (.ref kd1), .val (.ref kd2), .val (.int (i1 &&& (2147483647 : Int32))), .val (.int (i2 &&& (2147483647 : Int32))), .val (.ref b4), .val (.ref b6), .val (.ref bx8), .val (.int (1 : Int32)), .val (.int (1 : Int32)), .unset, .unset, .unset, .unset]) rfl k) ?_
        refine Go.by (T' := T11) (f' := (mkF m 101 #[.val (.int k1), .val (.int i1), .val (.int k2), .val (.int i2), .val (.int mode), .val (.ref kd1), .val (.ref kd2), .val (.int (i1 &&& (2147483647 : Int32))), .val (.int (i2 &&& (2147483647 : Int32))), .val (.ref b4), .val (.ref b6), .val (.ref bx8), .val (.int (1 : Int32)), .val (.int (1 : Int32)), .unset, .unset, .unset, .unset] [(.ref b6)])) (fun _ k => XS.aload X11.here hx rfl (hb hby at_99) rfl rfl k) ?_
        refine Go.by (T' := T11) (f' := (mkF m 103 #[.val (.int k1), .val (.int i1), .val (.int k2), .val (.int i2), .val (.int mode), .val (.ref kd1), .val (.ref kd2), .val (.int (i1 &&& (2147483647 : Int32))), .val (.int (i2 &&& (2147483647 : Int32))), .val (.ref b4), .val (.ref b6), .val (.ref bx8), .val (.int (1 : Int32)), .val (.int (1 : Int32)), .unset, .unset, .unset, .unset] [(.ref b4), (.ref b6)])) (fun _ k => XS.aload X11.here hx rfl (hb hby at_101) rfl rfl k) ?_
        obtain ⟨cq12, kq12, q12a, q12b, q12c⟩ := isOf hZ e11 E_b6
        obtain ⟨v12, _, ⟨T12, L12, k12, n12⟩, -, X12, ⟨Lc12, hQ12, l12, y12, z12⟩, st12⟩ := X11.virtualBack hx (y := (⟨"com/example/honest_replica/honestreplica/model/Entity", "equals", "(Ljava/lang/Object;)Z"⟩ : MethodName)) (z := (⟨"com/example/honest_replica/honestreplica/model/Entity", "equals", "(Ljava/lang/Object;)Z"⟩ : MethodName)) hown (mvT hZ (hw _ (List.mem_of_getElem? (i := 29) rfl))) (mvT hZ (hw _ (List.mem_of_getElem? (i := 30) rfl))) (notFace_of_selects (args := #[]) (mvT hZ (hw _ (List.mem_of_getElem? (i := 32) rfl)))) (mvT hZ (hw _ (List.mem_of_getElem? (i := 32) rfl))) (mvT hZ (hw _ (List.mem_of_getElem? (i := 31) rfl))) (by decide) (backOf (W := 0) (rm_q l Z a0 hw [] b6 b4 kd2 kd1 (i2 &&& (2147483647 : Int32)) (i1 &&& (2147483647 : Int32)) T8.heap n0 O E_b6 E_b4 Gk7 Gi7 Gk5 Gi5) hZ (hw _ (List.mem_of_getElem? (i := 33) rfl)) (hw _ (List.mem_of_getElem? (i := 10) rfl)) (by decide) (by decide)) q12a q12c (g := (mkF m 103 #[.val (.int k1), .val (.int i1), .val (.int k2), .val (.int i2), .val (.int mode), .val (.ref kd1), .val (.ref kd2), .val (.int (i1 &&& (2147483647 : Int32))), .val (.int (i2 &&& (2147483647 : Int32))), .val (.ref b4), .val (.ref b6), .val (.ref bx8), .val (.int (1 : Int32)), .val (.int (1 : Int32)), .unset, .unset, .unset, .unset] [(.ref b4), (.ref b6)])) rfl (by rw [hml]; rfl) (Steps.refl _) (argsL := [(.ref b4)]) (rest := []) (lenOf pd_rm1_3 rfl) rfl (by show 2 * 0 + _ ≤ _; exact Nat.le_of_eq rfl) (hb hby at_103) (fun _ _ => ⟨rfl, e11, (by decide : 3 + 0 ≤ _), (by decide : 5 + 0 ≤ _)⟩)
        dsimp only [Pt.U, Pt.locs, Pt.cells, Pt.slots] at X12 l12 y12 z12 st12 hQ12
        subst l12 y12 z12
        obtain ⟨hv12, Nq12, e12⟩ := hQ12
        have hz12 : eqv kd2 (i2 &&& (2147483647 : Int32)) kd1 (i1 &&& (2147483647 : Int32)) = 1 := by simp [eqv, ha73_9, hc80_10]
        rw [hz12] at hv12
        subst hv12
        replace N := Fr.app N Nq12
        refine Go.by (T' := T12) (f' := (mkF m 106 #[.val (.int k1), .val (.int i1), .val (.int k2), .val (.int i2), .val (.int mode), .val (.ref kd1), .val (.ref kd2), .val (.int (i1 &&& (2147483647 : Int32))), .val (.int (i2 &&& (2147483647 : Int32))), .val (.ref b4), .val (.ref b6), .val (.ref bx8), .val (.int (1 : Int32)), .val (.int (1 : Int32)), .unset, .unset, .unset, .unset] [(.int (1 : Int32))])) (fun _ k => st12.trans k) ?_
        refine Go.by (T' := T12) (f' := (mkF m 108 #[.val (.int k1), .val (.int i1), .val (.int k2), .val (.int i2), .val (.int mode), .val (.ref kd1), .val (.ref kd2), .val (.int (i1 &&& (2147483647 : Int32))), .val (.int (i2 &&& (2147483647 : Int32))), .val (.ref b4), .val (.ref b6), .val (.ref bx8), .val (.int (1 : Int32)), .val (.int (1 : Int32)), .val (.int (1 : Int32)), .unset, .unset, .unset] [])) (fun _ k => XS.istore X12.here hx rfl (hb hby at_106) rfl (l' := #[.val (.int k1), .val (.int i1), .val (.int k2), .val (.int i2), .val (.int mode), .val (.ref kd1), .val (.ref kd2), .val (.int (i1 &&& (2147483647 : Int32))), .val (.int (i2 &&& (2147483647 : Int32))), .val (.ref b4), .val (.ref b6), .val (.ref bx8), .val (.int (1 : Int32)), .val (.int (1 : Int32)), .val (.int (1 : Int32)), .unset, .unset, .unset]) rfl k) ?_
        refine Go.by (T' := T12) (f' := (mkF m 110 #[.val (.int k1), .val (.int i1), .val (.int k2), .val (.int i2), .val (.int mode), .val (.ref kd1), .val (.ref kd2), .val (.int (i1 &&& (2147483647 : Int32))), .val (.int (i2 &&& (2147483647 : Int32))), .val (.ref b4), .val (.ref b6), .val (.ref bx8), .val (.int (1 : Int32)), .val (.int (1 : Int32)), .val (.int (1 : Int32)), .unset, .unset, .unset] [(.ref b4)])) (fun _ k => XS.aload X12.here hx rfl (hb hby at_108) rfl rfl k) ?_
        refine Go.by (T' := T12) (f' := (mkF m 112 #[.val (.int k1), .val (.int i1), .val (.int k2), .val (.int i2), .val (.int mode), .val (.ref kd1), .val (.ref kd2), .val (.int (i1 &&& (2147483647 : Int32))), .val (.int (i2 &&& (2147483647 : Int32))), .val (.ref b4), .val (.ref b6), .val (.ref bx8), .val (.int (1 : Int32)), .val (.int (1 : Int32)), .val (.int (1 : Int32)), .unset, .unset, .unset] [(.ref b4), (.ref b4)])) (fun _ k => XS.aload X12.here hx rfl (hb hby at_110) rfl rfl k) ?_
        obtain ⟨cq13, kq13, q13a, q13b, q13c⟩ := isOf hZ e12 E_b4
        obtain ⟨v13, _, ⟨T13, L13, k13, n13⟩, -, X13, ⟨Lc13, hQ13, l13, y13, z13⟩, st13⟩ := X12.virtualBack hx (y := (⟨"com/example/honest_replica/honestreplica/model/Entity", "equals", "(Ljava/lang/Object;)Z"⟩ : MethodName)) (z := (⟨"com/example/honest_replica/honestreplica/model/Entity", "equals", "(Ljava/lang/Object;)Z"⟩ : MethodName)) hown (mvT hZ (hw _ (List.mem_of_getElem? (i := 29) rfl))) (mvT hZ (hw _ (List.mem_of_getElem? (i := 30) rfl))) (notFace_of_selects (args := #[]) (mvT hZ (hw _ (List.mem_of_getElem? (i := 32) rfl)))) (mvT hZ (hw _ (List.mem_of_getElem? (i := 32) rfl))) (mvT hZ (hw _ (List.mem_of_getElem? (i := 31) rfl))) (by decide) (backOf (W := 0) (rm_q l Z a0 hw [] b4 b4 kd1 kd1 (i1 &&& (2147483647 : Int32)) (i1 &&& (2147483647 : Int32)) T8.heap n0 O E_b4 E_b4 Gk5 Gi5 Gk5 Gi5) hZ (hw _ (List.mem_of_getElem? (i := 33) rfl)) (hw _ (List.mem_of_getElem? (i := 10) rfl)) (by decide) (by decide)) q13a q13c (g := (mkF m 112 #[.val (.int k1), .val (.int i1), .val (.int k2), .val (.int i2), .val (.int mode), .val (.ref kd1), .val (.ref kd2), .val (.int (i1 &&& (2147483647 : Int32))), .val (.int (i2 &&& (2147483647 : Int32))), .val (.ref b4), .val (.ref b6), .val (.ref bx8), .val (.int (1 : Int32)), .val (.int (1 : Int32)), .val (.int (1 : Int32)), .unset, .unset, .unset] [(.ref b4), (.ref b4)])) rfl (by rw [hml]; rfl) (Steps.refl _) (argsL := [(.ref b4)]) (rest := []) (lenOf pd_rm1_3 rfl) rfl (by show 2 * 0 + _ ≤ _; exact Nat.le_of_eq rfl) (hb hby at_112) (fun _ _ => ⟨rfl, e12, (by decide : 3 + 0 ≤ _), (by decide : 5 + 0 ≤ _)⟩)
        dsimp only [Pt.U, Pt.locs, Pt.cells, Pt.slots] at X13 l13 y13 z13 st13 hQ13
        subst l13 y13 z13
        obtain ⟨hv13, Nq13, e13⟩ := hQ13
        have hz13 : eqv kd1 (i1 &&& (2147483647 : Int32)) kd1 (i1 &&& (2147483647 : Int32)) = 1 := by simp [eqv]
        rw [hz13] at hv13
        subst hv13
        replace N := Fr.app N Nq13
        refine Go.by (T' := T13) (f' := (mkF m 115 #[.val (.int k1), .val (.int i1), .val (.int k2), .val (.int i2), .val (.int mode), .val (.ref kd1), .val (.ref kd2), .val (.int (i1 &&& (2147483647 : Int32))), .val (.int (i2 &&& (2147483647 : Int32))), .val (.ref b4), .val (.ref b6), .val (.ref bx8), .val (.int (1 : Int32)), .val (.int (1 : Int32)), .val (.int (1 : Int32)), .unset, .unset, .unset] [(.int (1 : Int32))])) (fun _ k => st13.trans k) ?_
        refine Go.by (T' := T13) (f' := (mkF m 117 #[.val (.int k1), .val (.int i1), .val (.int k2), .val (.int i2), .val (.int mode), .val (.ref kd1), .val (.ref kd2), .val (.int (i1 &&& (2147483647 : Int32))), .val (.int (i2 &&& (2147483647 : Int32))), .val (.ref b4), .val (.ref b6), .val (.ref bx8), .val (.int (1 : Int32)), .val (.int (1 : Int32)), .val (.int (1 : Int32)), .val (.int (1 : Int32)), .unset, .unset] [])) (fun _ k => XS.istore X13.here hx rfl (hb hby at_115) rfl (l' := #[.val (.int k1), .val (.int i1), .val (.int k2), .val (.int i2), .val (.int mode), .val (.ref kd1), .val (.ref kd2), .val (.int (i1 &&& (2147483647 : Int32))), .val (.int (i2 &&& (2147483647 : Int32))), .val (.ref b4), .val (.ref b6), .val (.ref bx8), .val (.int (1 : Int32)), .val (.int (1 : Int32)), .val (.int (1 : Int32)), .val (.int (1 : Int32)), .unset, .unset]) rfl k) ?_
        refine Go.by (T' := T13) (f' := (mkF m 119 #[.val (.int k1), .val (.int i1), .val (.int k2), .val (.int i2), .val (.int mode), .val (.ref kd1), .val (.ref kd2), .val (.int (i1 &&& (2147483647 : Int32))), .val (.int (i2 &&& (2147483647 : Int32))), .val (.ref b4), .val (.ref b6), .val (.ref bx8), .val (.int (1 : Int32)), .val (.int (1 : Int32)), .val (.int (1 : Int32)), .val (.int (1 : Int32)), .unset, .unset] [(.ref b4)])) (fun _ k => XS.aload X13.here hx rfl (hb hby at_117) rfl rfl k) ?_
        refine Go.by (T' := T13) (f' := (mkF m 120 #[.val (.int k1), .val (.int i1), .val (.int k2), .val (.int i2), .val (.int mode), .val (.ref kd1), .val (.ref kd2), .val (.int (i1 &&& (2147483647 : Int32))), .val (.int (i2 &&& (2147483647 : Int32))), .val (.ref b4), .val (.ref b6), .val (.ref bx8), .val (.int (1 : Int32)), .val (.int (1 : Int32)), .val (.int (1 : Int32)), .val (.int (1 : Int32)), .unset, .unset] [.null, (.ref b4)])) (fun _ k => XS.aconstNull X13.here hx rfl (hb hby at_119) k) ?_
        obtain ⟨cq14, kq14, q14a, q14b, q14c⟩ := isOf hZ e13 E_b4
        obtain ⟨v14, _, ⟨T14, L14, k14, n14⟩, -, X14, ⟨Lc14, hQ14, l14, y14, z14⟩, st14⟩ := X13.virtualBack hx (y := (⟨"com/example/honest_replica/honestreplica/model/Entity", "equals", "(Ljava/lang/Object;)Z"⟩ : MethodName)) (z := (⟨"com/example/honest_replica/honestreplica/model/Entity", "equals", "(Ljava/lang/Object;)Z"⟩ : MethodName)) hown (mvT hZ (hw _ (List.mem_of_getElem? (i := 29) rfl))) (mvT hZ (hw _ (List.mem_of_getElem? (i := 30) rfl))) (notFace_of_selects (args := #[]) (mvT hZ (hw _ (List.mem_of_getElem? (i := 32) rfl)))) (mvT hZ (hw _ (List.mem_of_getElem? (i := 32) rfl))) (mvT hZ (hw _ (List.mem_of_getElem? (i := 31) rfl))) (by decide) (backOf (W := 0) (rm_qn l Z a0 hw [] b4 T8.heap n0 O) hZ (hw _ (List.mem_of_getElem? (i := 33) rfl)) (hw _ (List.mem_of_getElem? (i := 10) rfl)) (by decide) (by decide)) q14a q14c (g := (mkF m 120 #[.val (.int k1), .val (.int i1), .val (.int k2), .val (.int i2), .val (.int mode), .val (.ref kd1), .val (.ref kd2), .val (.int (i1 &&& (2147483647 : Int32))), .val (.int (i2 &&& (2147483647 : Int32))), .val (.ref b4), .val (.ref b6), .val (.ref bx8), .val (.int (1 : Int32)), .val (.int (1 : Int32)), .val (.int (1 : Int32)), .val (.int (1 : Int32)), .unset, .unset] [.null, (.ref b4)])) rfl (by rw [hml]; rfl) (Steps.refl _) (argsL := [.null]) (rest := []) (lenOf pd_rm1_3 rfl) rfl (by show 2 * 0 + _ ≤ _; exact Nat.le_of_eq rfl) (hb hby at_120) (fun _ _ => ⟨rfl, e13, (by decide : 3 + 0 ≤ _), (by decide : 5 + 0 ≤ _)⟩)
        dsimp only [Pt.U, Pt.locs, Pt.cells, Pt.slots] at X14 l14 y14 z14 st14 hQ14
        subst l14 y14 z14
        obtain ⟨rfl, Nq14, e14⟩ := hQ14
        replace N := Fr.app N Nq14
        refine Go.by (T' := T14) (f' := (mkF m 123 #[.val (.int k1), .val (.int i1), .val (.int k2), .val (.int i2), .val (.int mode), .val (.ref kd1), .val (.ref kd2), .val (.int (i1 &&& (2147483647 : Int32))), .val (.int (i2 &&& (2147483647 : Int32))), .val (.ref b4), .val (.ref b6), .val (.ref bx8), .val (.int (1 : Int32)), .val (.int (1 : Int32)), .val (.int (1 : Int32)), .val (.int (1 : Int32)), .unset, .unset] [(.int (0 : Int32))])) (fun _ k => st14.trans k) ?_
        refine Go.by (T' := T14) (f' := (mkF m 125 #[.val (.int k1), .val (.int i1), .val (.int k2), .val (.int i2), .val (.int mode), .val (.ref kd1), .val (.ref kd2), .val (.int (i1 &&& (2147483647 : Int32))), .val (.int (i2 &&& (2147483647 : Int32))), .val (.ref b4), .val (.ref b6), .val (.ref bx8), .val (.int (1 : Int32)), .val (.int (1 : Int32)), .val (.int (1 : Int32)), .val (.int (1 : Int32)), .val (.int (0 : Int32)), .unset] [])) (fun _ k => XS.istore X14.here hx rfl (hb hby at_123) rfl (l' := #[.val (.int k1), .val (.int i1), .val (.int k2), .val (.int i2), .val (.int mode), .val (.ref kd1), .val (.ref kd2), .val (.int (i1 &&& (2147483647 : Int32))), .val (.int (i2 &&& (2147483647 : Int32))), .val (.ref b4), .val (.ref b6), .val (.ref bx8), .val (.int (1 : Int32)), .val (.int (1 : Int32)), .val (.int (1 : Int32)), .val (.int (1 : Int32)), .val (.int (0 : Int32)), .unset]) rfl k) ?_
        refine Go.by (T' := T14) (f' := (mkF m 127 #[.val (.int k1), .val (.int i1), .val (.int k2), .val (.int i2), .val (.int mode), .val (.ref kd1), .val (.ref kd2), .val (.int (i1 &&& (2147483647 : Int32))), .val (.int (i2 &&& (2147483647 : Int32))), .val (.ref b4), .val (.ref b6), .val (.ref bx8), .val (.int (1 : Int32)), .val (.int (1 : Int32)), .val (.int (1 : Int32)), .val (.int (1 : Int32)), .val (.int (0 : Int32)), .unset] [(.ref b4)])) (fun _ k => XS.aload X14.here hx rfl (hb hby at_125) rfl rfl k) ?_
        refine Go.by (T' := T14) (f' := (mkF m 129 #[.val (.int k1), .val (.int i1), .val (.int k2), .val (.int i2), .val (.int mode), .val (.ref kd1), .val (.ref kd2), .val (.int (i1 &&& (2147483647 : Int32))), .val (.int (i2 &&& (2147483647 : Int32))), .val (.ref b4), .val (.ref b6), .val (.ref bx8), .val (.int (1 : Int32)), .val (.int (1 : Int32)), .val (.int (1 : Int32)), .val (.int (1 : Int32)), .val (.int (0 : Int32)), .unset] [(.ref bx8), (.ref b4)])) (fun _ k => XS.aload X14.here hx rfl (hb hby at_127) rfl rfl k) ?_
        obtain ⟨cq15, kq15, q15a, q15b, q15c⟩ := isOf hZ e14 E_b4
        obtain ⟨v15, _, ⟨T15, L15, k15, n15⟩, -, X15, ⟨Lc15, hQ15, l15, y15, z15⟩, st15⟩ := X14.virtualBack hx (y := (⟨"com/example/honest_replica/honestreplica/model/Entity", "equals", "(Ljava/lang/Object;)Z"⟩ : MethodName)) (z := (⟨"com/example/honest_replica/honestreplica/model/Entity", "equals", "(Ljava/lang/Object;)Z"⟩ : MethodName)) hown (mvT hZ (hw _ (List.mem_of_getElem? (i := 29) rfl))) (mvT hZ (hw _ (List.mem_of_getElem? (i := 30) rfl))) (notFace_of_selects (args := #[]) (mvT hZ (hw _ (List.mem_of_getElem? (i := 32) rfl)))) (mvT hZ (hw _ (List.mem_of_getElem? (i := 32) rfl))) (mvT hZ (hw _ (List.mem_of_getElem? (i := 31) rfl))) (by decide) (backOf (W := 0) (rm_qi l Z a0 hw [] b4 bx8 T8.heap n0 O E_bx8) hZ (hw _ (List.mem_of_getElem? (i := 33) rfl)) (hw _ (List.mem_of_getElem? (i := 10) rfl)) (by decide) (by decide)) q15a q15c (g := (mkF m 129 #[.val (.int k1), .val (.int i1), .val (.int k2), .val (.int i2), .val (.int mode), .val (.ref kd1), .val (.ref kd2), .val (.int (i1 &&& (2147483647 : Int32))), .val (.int (i2 &&& (2147483647 : Int32))), .val (.ref b4), .val (.ref b6), .val (.ref bx8), .val (.int (1 : Int32)), .val (.int (1 : Int32)), .val (.int (1 : Int32)), .val (.int (1 : Int32)), .val (.int (0 : Int32)), .unset] [(.ref bx8), (.ref b4)])) rfl (by rw [hml]; rfl) (Steps.refl _) (argsL := [(.ref bx8)]) (rest := []) (lenOf pd_rm1_3 rfl) rfl (by show 2 * 0 + _ ≤ _; exact Nat.le_of_eq rfl) (hb hby at_129) (fun _ _ => ⟨rfl, e14, (by decide : 3 + 0 ≤ _), (by decide : 5 + 0 ≤ _)⟩)
        dsimp only [Pt.U, Pt.locs, Pt.cells, Pt.slots] at X15 l15 y15 z15 st15 hQ15
        subst l15 y15 z15
        obtain ⟨rfl, Nq15, e15⟩ := hQ15
        replace N := Fr.app N Nq15
        refine Go.by (T' := T15) (f' := (mkF m 132 #[.val (.int k1), .val (.int i1), .val (.int k2), .val (.int i2), .val (.int mode), .val (.ref kd1), .val (.ref kd2), .val (.int (i1 &&& (2147483647 : Int32))), .val (.int (i2 &&& (2147483647 : Int32))), .val (.ref b4), .val (.ref b6), .val (.ref bx8), .val (.int (1 : Int32)), .val (.int (1 : Int32)), .val (.int (1 : Int32)), .val (.int (1 : Int32)), .val (.int (0 : Int32)), .unset] [(.int (0 : Int32))])) (fun _ k => st15.trans k) ?_
        refine Go.by (T' := T15) (f' := (mkF m 134 #[.val (.int k1), .val (.int i1), .val (.int k2), .val (.int i2), .val (.int mode), .val (.ref kd1), .val (.ref kd2), .val (.int (i1 &&& (2147483647 : Int32))), .val (.int (i2 &&& (2147483647 : Int32))), .val (.ref b4), .val (.ref b6), .val (.ref bx8), .val (.int (1 : Int32)), .val (.int (1 : Int32)), .val (.int (1 : Int32)), .val (.int (1 : Int32)), .val (.int (0 : Int32)), .val (.int (0 : Int32))] [])) (fun _ k => XS.istore X15.here hx rfl (hb hby at_132) rfl (l' := #[.val (.int k1), .val (.int i1), .val (.int k2), .val (.int i2), .val (.int mode), .val (.ref kd1), .val (.ref kd2), .val (.int (i1 &&& (2147483647 : Int32))), .val (.int (i2 &&& (2147483647 : Int32))), .val (.ref b4), .val (.ref b6), .val (.ref bx8), .val (.int (1 : Int32)), .val (.int (1 : Int32)), .val (.int (1 : Int32)), .val (.int (1 : Int32)), .val (.int (0 : Int32)), .val (.int (0 : Int32))]) rfl k) ?_
        refine Go.by (T' := T15) (f' := (mkF m 136 #[.val (.int k1), .val (.int i1), .val (.int k2), .val (.int i2), .val (.int mode), .val (.ref kd1), .val (.ref kd2), .val (.int (i1 &&& (2147483647 : Int32))), .val (.int (i2 &&& (2147483647 : Int32))), .val (.ref b4), .val (.ref b6), .val (.ref bx8), .val (.int (1 : Int32)), .val (.int (1 : Int32)), .val (.int (1 : Int32)), .val (.int (1 : Int32)), .val (.int (0 : Int32)), .val (.int (0 : Int32))] [(.int (1 : Int32))])) (fun _ k => XS.iload X15.here hx rfl (hb hby at_134) rfl k) ?_
        refine Go.by (T' := T15) (f' := (mkF m 138 #[.val (.int k1), .val (.int i1), .val (.int k2), .val (.int i2), .val (.int mode), .val (.ref kd1), .val (.ref kd2), .val (.int (i1 &&& (2147483647 : Int32))), .val (.int (i2 &&& (2147483647 : Int32))), .val (.ref b4), .val (.ref b6), .val (.ref bx8), .val (.int (1 : Int32)), .val (.int (1 : Int32)), .val (.int (1 : Int32)), .val (.int (1 : Int32)), .val (.int (0 : Int32)), .val (.int (0 : Int32))] [(.int (1 : Int32)), (.int (1 : Int32))])) (fun _ k => XS.iload X15.here hx rfl (hb hby at_136) rfl k) ?_
        refine Go.by (T' := T15) (f' := (mkF m 141 #[.val (.int k1), .val (.int i1), .val (.int k2), .val (.int i2), .val (.int mode), .val (.ref kd1), .val (.ref kd2), .val (.int (i1 &&& (2147483647 : Int32))), .val (.int (i2 &&& (2147483647 : Int32))), .val (.ref b4), .val (.ref b6), .val (.ref bx8), .val (.int (1 : Int32)), .val (.int (1 : Int32)), .val (.int (1 : Int32)), .val (.int (1 : Int32)), .val (.int (0 : Int32)), .val (.int (0 : Int32))] [])) (fun _ k => XS.icmpNo X15.here hx rfl (hb hby at_138) rfl (teq (by decide : (1 : Int32) = (1 : Int32))).2 k) ?_
        refine Go.by (T' := T15) (f' := (mkF m 143 #[.val (.int k1), .val (.int i1), .val (.int k2), .val (.int i2), .val (.int mode), .val (.ref kd1), .val (.ref kd2), .val (.int (i1 &&& (2147483647 : Int32))), .val (.int (i2 &&& (2147483647 : Int32))), .val (.ref b4), .val (.ref b6), .val (.ref bx8), .val (.int (1 : Int32)), .val (.int (1 : Int32)), .val (.int (1 : Int32)), .val (.int (1 : Int32)), .val (.int (0 : Int32)), .val (.int (0 : Int32))] [(.int (1 : Int32))])) (fun _ k => XS.iload X15.here hx rfl (hb hby at_141) rfl k) ?_
        refine Go.by (T' := T15) (f' := (mkF m 145 #[.val (.int k1), .val (.int i1), .val (.int k2), .val (.int i2), .val (.int mode), .val (.ref kd1), .val (.ref kd2), .val (.int (i1 &&& (2147483647 : Int32))), .val (.int (i2 &&& (2147483647 : Int32))), .val (.ref b4), .val (.ref b6), .val (.ref bx8), .val (.int (1 : Int32)), .val (.int (1 : Int32)), .val (.int (1 : Int32)), .val (.int (1 : Int32)), .val (.int (0 : Int32)), .val (.int (0 : Int32))] [(.int (1 : Int32)), (.int (1 : Int32))])) (fun _ k => XS.iload X15.here hx rfl (hb hby at_143) rfl k) ?_
        refine Go.by (T' := T15) (f' := (mkF m 148 #[.val (.int k1), .val (.int i1), .val (.int k2), .val (.int i2), .val (.int mode), .val (.ref kd1), .val (.ref kd2), .val (.int (i1 &&& (2147483647 : Int32))), .val (.int (i2 &&& (2147483647 : Int32))), .val (.ref b4), .val (.ref b6), .val (.ref bx8), .val (.int (1 : Int32)), .val (.int (1 : Int32)), .val (.int (1 : Int32)), .val (.int (1 : Int32)), .val (.int (0 : Int32)), .val (.int (0 : Int32))] [])) (fun _ k => XS.icmpNo X15.here hx rfl (hb hby at_145) rfl (teq (by decide : (1 : Int32) = (1 : Int32))).2 k) ?_
        refine Go.by (T' := T15) (f' := (mkF m 150 #[.val (.int k1), .val (.int i1), .val (.int k2), .val (.int i2), .val (.int mode), .val (.ref kd1), .val (.ref kd2), .val (.int (i1 &&& (2147483647 : Int32))), .val (.int (i2 &&& (2147483647 : Int32))), .val (.ref b4), .val (.ref b6), .val (.ref bx8), .val (.int (1 : Int32)), .val (.int (1 : Int32)), .val (.int (1 : Int32)), .val (.int (1 : Int32)), .val (.int (0 : Int32)), .val (.int (0 : Int32))] [(.int (1 : Int32))])) (fun _ k => XS.iload X15.here hx rfl (hb hby at_148) rfl k) ?_
        refine Go.by (T' := T15) (f' := (mkF m 153 #[.val (.int k1), .val (.int i1), .val (.int k2), .val (.int i2), .val (.int mode), .val (.ref kd1), .val (.ref kd2), .val (.int (i1 &&& (2147483647 : Int32))), .val (.int (i2 &&& (2147483647 : Int32))), .val (.ref b4), .val (.ref b6), .val (.ref bx8), .val (.int (1 : Int32)), .val (.int (1 : Int32)), .val (.int (1 : Int32)), .val (.int (1 : Int32)), .val (.int (0 : Int32)), .val (.int (0 : Int32))] [])) (fun _ k => XS.ifNo X15.here hx rfl (hb hby at_150) rfl ((if0 _ _).trans (feq (by decide : ¬ ((1 : Int32) = (0 : Int32)))).1) k) ?_
        refine Go.by (T' := T15) (f' := (mkF m 155 #[.val (.int k1), .val (.int i1), .val (.int k2), .val (.int i2), .val (.int mode), .val (.ref kd1), .val (.ref kd2), .val (.int (i1 &&& (2147483647 : Int32))), .val (.int (i2 &&& (2147483647 : Int32))), .val (.ref b4), .val (.ref b6), .val (.ref bx8), .val (.int (1 : Int32)), .val (.int (1 : Int32)), .val (.int (1 : Int32)), .val (.int (1 : Int32)), .val (.int (0 : Int32)), .val (.int (0 : Int32))] [(.int (0 : Int32))])) (fun _ k => XS.iload X15.here hx rfl (hb hby at_153) rfl k) ?_
        refine Go.by (T' := T15) (f' := (mkF m 158 #[.val (.int k1), .val (.int i1), .val (.int k2), .val (.int i2), .val (.int mode), .val (.ref kd1), .val (.ref kd2), .val (.int (i1 &&& (2147483647 : Int32))), .val (.int (i2 &&& (2147483647 : Int32))), .val (.ref b4), .val (.ref b6), .val (.ref bx8), .val (.int (1 : Int32)), .val (.int (1 : Int32)), .val (.int (1 : Int32)), .val (.int (1 : Int32)), .val (.int (0 : Int32)), .val (.int (0 : Int32))] [])) (fun _ k => XS.ifNo X15.here hx rfl (hb hby at_155) rfl ((if0 _ _).trans (teq (by decide : (0 : Int32) = (0 : Int32))).2) k) ?_
        refine Go.by (T' := T15) (f' := (mkF m 160 #[.val (.int k1), .val (.int i1), .val (.int k2), .val (.int i2), .val (.int mode), .val (.ref kd1), .val (.ref kd2), .val (.int (i1 &&& (2147483647 : Int32))), .val (.int (i2 &&& (2147483647 : Int32))), .val (.ref b4), .val (.ref b6), .val (.ref bx8), .val (.int (1 : Int32)), .val (.int (1 : Int32)), .val (.int (1 : Int32)), .val (.int (1 : Int32)), .val (.int (0 : Int32)), .val (.int (0 : Int32))] [(.int (0 : Int32))])) (fun _ k => XS.iload X15.here hx rfl (hb hby at_158) rfl k) ?_
        refine Go.by (T' := T15) (f' := (mkF m 163 #[.val (.int k1), .val (.int i1), .val (.int k2), .val (.int i2), .val (.int mode), .val (.ref kd1), .val (.ref kd2), .val (.int (i1 &&& (2147483647 : Int32))), .val (.int (i2 &&& (2147483647 : Int32))), .val (.ref b4), .val (.ref b6), .val (.ref bx8), .val (.int (1 : Int32)), .val (.int (1 : Int32)), .val (.int (1 : Int32)), .val (.int (1 : Int32)), .val (.int (0 : Int32)), .val (.int (0 : Int32))] [])) (fun _ k => XS.ifNo X15.here hx rfl (hb hby at_160) rfl ((if0 _ _).trans (teq (by decide : (0 : Int32) = (0 : Int32))).2) k) ?_
        refine Go.by (T' := T15) (f' := (mkF m 164 #[.val (.int k1), .val (.int i1), .val (.int k2), .val (.int i2), .val (.int mode), .val (.ref kd1), .val (.ref kd2), .val (.int (i1 &&& (2147483647 : Int32))), .val (.int (i2 &&& (2147483647 : Int32))), .val (.ref b4), .val (.ref b6), .val (.ref bx8), .val (.int (1 : Int32)), .val (.int (1 : Int32)), .val (.int (1 : Int32)), .val (.int (1 : Int32)), .val (.int (0 : Int32)), .val (.int (0 : Int32))] [(.int (1 : Int32))])) (fun _ k => XS.iconst X15.here hx rfl (hb hby at_163) k) ?_
        refine Go.by (T' := T15) (f' := (mkF m 168 #[.val (.int k1), .val (.int i1), .val (.int k2), .val (.int i2), .val (.int mode), .val (.ref kd1), .val (.ref kd2), .val (.int (i1 &&& (2147483647 : Int32))), .val (.int (i2 &&& (2147483647 : Int32))), .val (.ref b4), .val (.ref b6), .val (.ref bx8), .val (.int (1 : Int32)), .val (.int (1 : Int32)), .val (.int (1 : Int32)), .val (.int (1 : Int32)), .val (.int (0 : Int32)), .val (.int (0 : Int32))] [(.int (1 : Int32))])) (fun _ k => XS.goto X15.here hx rfl (pc0 := 164) (pc' := 168) rfl (hb hby at_164) (by decide) (by decide) k) ?_
        obtain ⟨fs, hr, hrun, hended, hW, hsame⟩ := X15.leave (v := some (.int (1 : Int32))) (fun h => by rw [Bd.returns] at h; cases h)
        refine ⟨_, _, retN X15 hx (t := .boolean) Bd.returns (by simp) (hb hby at_168) hr, hrun, hended, _, _, rfl, ?_, ⟨_, rfl⟩, hW, hsame.mono (by decide) (by decide)⟩
        show Q1 n0 (some (.int (1 : Int32))) T15.heap _
        rw [e15]
        exact ⟨rfl, N⟩
      · skip
        refine Go.by (T' := T8) (f' := (mkF m 87 #[.val (.int k1), .val (.int i1), .val (.int k2), .val (.int i2), .val (.int mode), .val (.ref kd1), .val (.ref kd2), .val (.int (i1 &&& (2147483647 : Int32))), .val (.int (i2 &&& (2147483647 : Int32))), .val (.ref b4), .val (.ref b6), .val (.ref bx8), .unset, .unset, .unset, .unset, .unset, .unset] [])) (fun _ k => XS.icmpYes X8.here hx rfl (pc0 := 80) (pc' := 87) rfl (hb hby at_80) rfl (feq hc80_10).2 (by decide) (by decide) k) ?_
        refine Go.by (T' := T8) (f' := (mkF m 88 #[.val (.int k1), .val (.int i1), .val (.int k2), .val (.int i2), .val (.int mode), .val (.ref kd1), .val (.ref kd2), .val (.int (i1 &&& (2147483647 : Int32))), .val (.int (i2 &&& (2147483647 : Int32))), .val (.ref b4), .val (.ref b6), .val (.ref bx8), .unset, .unset, .unset, .unset, .unset, .unset] [(.int (0 : Int32))])) (fun _ k => XS.iconst X8.here hx rfl (hb hby at_87) k) ?_
        refine Go.by (T' := T8) (f' := (mkF m 90 #[.val (.int k1), .val (.int i1), .val (.int k2), .val (.int i2), .val (.int mode), .val (.ref kd1), .val (.ref kd2), .val (.int (i1 &&& (2147483647 : Int32))), .val (.int (i2 &&& (2147483647 : Int32))), .val (.ref b4), .val (.ref b6), .val (.ref bx8), .val (.int (0 : Int32)), .unset, .unset, .unset, .unset, .unset] [])) (fun _ k => XS.istore X8.here hx rfl (hb hby at_88) rfl (l' := #[.val (.int k1), .val (.int i1), .val (.int k2), .val (.int i2), .val (.int mode), .val (.ref kd1), .val (.ref kd2), .val (.int (i1 &&& (2147483647 : Int32))), .val (.int (i2 &&& (2147483647 : Int32))), .val (.ref b4), .val (.ref b6), .val (.ref bx8), .val (.int (0 : Int32)), .unset, .unset, .unset, .unset, .unset]) rfl k) ?_
        refine Go.by (T' := T8) (f' := (mkF m 92 #[.val (.int k1), .val (.int i1), .val (.int k2), .val (.int i2), .val (.int mode), .val (.ref kd1), .val (.ref kd2), .val (.int (i1 &&& (2147483647 : Int32))), .val (.int (i2 &&& (2147483647 : Int32))), .val (.ref b4), .val (.ref b6), .val (.ref bx8), .val (.int (0 : Int32)), .unset, .unset, .unset, .unset, .unset] [(.ref b4)])) (fun _ k => XS.aload X8.here hx rfl (hb hby at_90) rfl rfl k) ?_
        refine Go.by (T' := T8) (f' := (mkF m 94 #[.val (.int k1), .val (.int i1), .val (.int k2), .val (.int i2), .val (.int mode), .val (.ref kd1), .val (.ref kd2), .val (.int (i1 &&& (2147483647 : Int32))), .val (.int (i2 &&& (2147483647 : Int32))), .val (.ref b4), .val (.ref b6), .val (.ref bx8), .val (.int (0 : Int32)), .unset, .unset, .unset, .unset, .unset] [(.ref b6), (.ref b4)])) (fun _ k => XS.aload X8.here hx rfl (hb hby at_92) rfl rfl k) ?_
        obtain ⟨cq21, kq21, q21a, q21b, q21c⟩ := isOf hZ rfl E_b4
        obtain ⟨v21, _, ⟨T21, L21, k21, n21⟩, -, X21, ⟨Lc21, hQ21, l21, y21, z21⟩, st21⟩ := X8.virtualBack hx (y := (⟨"com/example/honest_replica/honestreplica/model/Entity", "equals", "(Ljava/lang/Object;)Z"⟩ : MethodName)) (z := (⟨"com/example/honest_replica/honestreplica/model/Entity", "equals", "(Ljava/lang/Object;)Z"⟩ : MethodName)) hown (mvT hZ (hw _ (List.mem_of_getElem? (i := 29) rfl))) (mvT hZ (hw _ (List.mem_of_getElem? (i := 30) rfl))) (notFace_of_selects (args := #[]) (mvT hZ (hw _ (List.mem_of_getElem? (i := 32) rfl)))) (mvT hZ (hw _ (List.mem_of_getElem? (i := 32) rfl))) (mvT hZ (hw _ (List.mem_of_getElem? (i := 31) rfl))) (by decide) (backOf (W := 0) (rm_q l Z a0 hw [] b4 b6 kd1 kd2 (i1 &&& (2147483647 : Int32)) (i2 &&& (2147483647 : Int32)) T8.heap n0 O E_b4 E_b6 Gk5 Gi5 Gk7 Gi7) hZ (hw _ (List.mem_of_getElem? (i := 33) rfl)) (hw _ (List.mem_of_getElem? (i := 10) rfl)) (by decide) (by decide)) q21a q21c (g := (mkF m 94 #[.val (.int k1), .val (.int i1), .val (.int k2), .val (.int i2), .val (.int mode), .val (.ref kd1), .val (.ref kd2), .val (.int (i1 &&& (2147483647 : Int32))), .val (.int (i2 &&& (2147483647 : Int32))), .val (.ref b4), .val (.ref b6), .val (.ref bx8), .val (.int (0 : Int32)), .unset, .unset, .unset, .unset, .unset] [(.ref b6), (.ref b4)])) rfl (by rw [hml]; rfl) (Steps.refl _) (argsL := [(.ref b6)]) (rest := []) (lenOf pd_rm1_3 rfl) rfl (by show 2 * 0 + _ ≤ _; exact Nat.le_of_eq rfl) (hb hby at_94) (fun _ _ => ⟨rfl, rfl, (by decide : 3 + 0 ≤ _), (by decide : 5 + 0 ≤ _)⟩)
        dsimp only [Pt.U, Pt.locs, Pt.cells, Pt.slots] at X21 l21 y21 z21 st21 hQ21
        subst l21 y21 z21
        obtain ⟨hv21, Nq21, e21⟩ := hQ21
        have hz21 : eqv kd1 (i1 &&& (2147483647 : Int32)) kd2 (i2 &&& (2147483647 : Int32)) = 0 := by simp [eqv, ha73_9, hc80_10]
        rw [hz21] at hv21
        subst hv21
        replace N := Fr.app N Nq21
        refine Go.by (T' := T21) (f' := (mkF m 97 #[.val (.int k1), .val (.int i1), .val (.int k2), .val (.int i2), .val (.int mode), .val (.ref kd1), .val (.ref kd2), .val (.int (i1 &&& (2147483647 : Int32))), .val (.int (i2 &&& (2147483647 : Int32))), .val (.ref b4), .val (.ref b6), .val (.ref bx8), .val (.int (0 : Int32)), .unset, .unset, .unset, .unset, .unset] [(.int (0 : Int32))])) (fun _ k => st21.trans k) ?_
        refine Go.by (T' := T21) (f' := (mkF m 99 #[.val (.int k1), .val (.int i1), .val (.int k2), .val (.int i2), .val (.int mode), .val (.ref kd1), .val (.ref kd2), .val (.int (i1 &&& (2147483647 : Int32))), .val (.int (i2 &&& (2147483647 : Int32))), .val (.ref b4), .val (.ref b6), .val (.ref bx8), .val (.int (0 : Int32)), .val (.int (0 : Int32)), .unset, .unset, .unset, .unset] [])) (fun _ k => XS.istore X21.here hx rfl (hb hby at_97) rfl (l' := #[.val (.int k1), .val (.int i1), .val (.int k2), .val (.int i2), .val (.int mode), .val (.ref kd1), .val (.ref kd2), .val (.int (i1 &&& (2147483647 : Int32))), .val (.int (i2 &&& (2147483647 : Int32))), .val (.ref b4), .val (.ref b6), .val (.ref bx8), .val (.int (0 : Int32)), .val (.int (0 : Int32)), .unset, .unset, .unset, .unset]) rfl k) ?_
        refine Go.by (T' := T21) (f' := (mkF m 101 #[.val (.int k1), .val (.int i1), .val (.int k2), .val (.int i2), .val (.int mode), .val (.ref kd1), .val (.ref kd2), .val (.int (i1 &&& (2147483647 : Int32))), .val (.int (i2 &&& (2147483647 : Int32))), .val (.ref b4), .val (.ref b6), .val (.ref bx8), .val (.int (0 : Int32)), .val (.int (0 : Int32)), .unset, .unset, .unset, .unset] [(.ref b6)])) (fun _ k => XS.aload X21.here hx rfl (hb hby at_99) rfl rfl k) ?_
        refine Go.by (T' := T21) (f' := (mkF m 103 #[.val (.int k1), .val (.int i1), .val (.int k2), .val (.int i2), .val (.int mode), .val (.ref kd1), .val (.ref kd2), .val (.int (i1 &&& (2147483647 : Int32))), .val (.int (i2 &&& (2147483647 : Int32))), .val (.ref b4), .val (.ref b6), .val (.ref bx8), .val (.int (0 : Int32)), .val (.int (0 : Int32)), .unset, .unset, .unset, .unset] [(.ref b4), (.ref b6)])) (fun _ k => XS.aload X21.here hx rfl (hb hby at_101) rfl rfl k) ?_
        obtain ⟨cq22, kq22, q22a, q22b, q22c⟩ := isOf hZ e21 E_b6
        obtain ⟨v22, _, ⟨T22, L22, k22, n22⟩, -, X22, ⟨Lc22, hQ22, l22, y22, z22⟩, st22⟩ := X21.virtualBack hx (y := (⟨"com/example/honest_replica/honestreplica/model/Entity", "equals", "(Ljava/lang/Object;)Z"⟩ : MethodName)) (z := (⟨"com/example/honest_replica/honestreplica/model/Entity", "equals", "(Ljava/lang/Object;)Z"⟩ : MethodName)) hown (mvT hZ (hw _ (List.mem_of_getElem? (i := 29) rfl))) (mvT hZ (hw _ (List.mem_of_getElem? (i := 30) rfl))) (notFace_of_selects (args := #[]) (mvT hZ (hw _ (List.mem_of_getElem? (i := 32) rfl)))) (mvT hZ (hw _ (List.mem_of_getElem? (i := 32) rfl))) (mvT hZ (hw _ (List.mem_of_getElem? (i := 31) rfl))) (by decide) (backOf (W := 0) (rm_q l Z a0 hw [] b6 b4 kd2 kd1 (i2 &&& (2147483647 : Int32)) (i1 &&& (2147483647 : Int32)) T8.heap n0 O E_b6 E_b4 Gk7 Gi7 Gk5 Gi5) hZ (hw _ (List.mem_of_getElem? (i := 33) rfl)) (hw _ (List.mem_of_getElem? (i := 10) rfl)) (by decide) (by decide)) q22a q22c (g := (mkF m 103 #[.val (.int k1), .val (.int i1), .val (.int k2), .val (.int i2), .val (.int mode), .val (.ref kd1), .val (.ref kd2), .val (.int (i1 &&& (2147483647 : Int32))), .val (.int (i2 &&& (2147483647 : Int32))), .val (.ref b4), .val (.ref b6), .val (.ref bx8), .val (.int (0 : Int32)), .val (.int (0 : Int32)), .unset, .unset, .unset, .unset] [(.ref b4), (.ref b6)])) rfl (by rw [hml]; rfl) (Steps.refl _) (argsL := [(.ref b4)]) (rest := []) (lenOf pd_rm1_3 rfl) rfl (by show 2 * 0 + _ ≤ _; exact Nat.le_of_eq rfl) (hb hby at_103) (fun _ _ => ⟨rfl, e21, (by decide : 3 + 0 ≤ _), (by decide : 5 + 0 ≤ _)⟩)
        dsimp only [Pt.U, Pt.locs, Pt.cells, Pt.slots] at X22 l22 y22 z22 st22 hQ22
        subst l22 y22 z22
        obtain ⟨hv22, Nq22, e22⟩ := hQ22
        have hz22 : eqv kd2 (i2 &&& (2147483647 : Int32)) kd1 (i1 &&& (2147483647 : Int32)) = 0 := by simp [eqv, ha73_9, (show ¬ (i2 &&& (2147483647 : Int32)) = (i1 &&& (2147483647 : Int32)) from fun q => hc80_10 q.symm)]
        rw [hz22] at hv22
        subst hv22
        replace N := Fr.app N Nq22
        refine Go.by (T' := T22) (f' := (mkF m 106 #[.val (.int k1), .val (.int i1), .val (.int k2), .val (.int i2), .val (.int mode), .val (.ref kd1), .val (.ref kd2), .val (.int (i1 &&& (2147483647 : Int32))), .val (.int (i2 &&& (2147483647 : Int32))), .val (.ref b4), .val (.ref b6), .val (.ref bx8), .val (.int (0 : Int32)), .val (.int (0 : Int32)), .unset, .unset, .unset, .unset] [(.int (0 : Int32))])) (fun _ k => st22.trans k) ?_
        refine Go.by (T' := T22) (f' := (mkF m 108 #[.val (.int k1), .val (.int i1), .val (.int k2), .val (.int i2), .val (.int mode), .val (.ref kd1), .val (.ref kd2), .val (.int (i1 &&& (2147483647 : Int32))), .val (.int (i2 &&& (2147483647 : Int32))), .val (.ref b4), .val (.ref b6), .val (.ref bx8), .val (.int (0 : Int32)), .val (.int (0 : Int32)), .val (.int (0 : Int32)), .unset, .unset, .unset] [])) (fun _ k => XS.istore X22.here hx rfl (hb hby at_106) rfl (l' := #[.val (.int k1), .val (.int i1), .val (.int k2), .val (.int i2), .val (.int mode), .val (.ref kd1), .val (.ref kd2), .val (.int (i1 &&& (2147483647 : Int32))), .val (.int (i2 &&& (2147483647 : Int32))), .val (.ref b4), .val (.ref b6), .val (.ref bx8), .val (.int (0 : Int32)), .val (.int (0 : Int32)), .val (.int (0 : Int32)), .unset, .unset, .unset]) rfl k) ?_
        refine Go.by (T' := T22) (f' := (mkF m 110 #[.val (.int k1), .val (.int i1), .val (.int k2), .val (.int i2), .val (.int mode), .val (.ref kd1), .val (.ref kd2), .val (.int (i1 &&& (2147483647 : Int32))), .val (.int (i2 &&& (2147483647 : Int32))), .val (.ref b4), .val (.ref b6), .val (.ref bx8), .val (.int (0 : Int32)), .val (.int (0 : Int32)), .val (.int (0 : Int32)), .unset, .unset, .unset] [(.ref b4)])) (fun _ k => XS.aload X22.here hx rfl (hb hby at_108) rfl rfl k) ?_
        refine Go.by (T' := T22) (f' := (mkF m 112 #[.val (.int k1), .val (.int i1), .val (.int k2), .val (.int i2), .val (.int mode), .val (.ref kd1), .val (.ref kd2), .val (.int (i1 &&& (2147483647 : Int32))), .val (.int (i2 &&& (2147483647 : Int32))), .val (.ref b4), .val (.ref b6), .val (.ref bx8), .val (.int (0 : Int32)), .val (.int (0 : Int32)), .val (.int (0 : Int32)), .unset, .unset, .unset] [(.ref b4), (.ref b4)])) (fun _ k => XS.aload X22.here hx rfl (hb hby at_110) rfl rfl k) ?_
        obtain ⟨cq23, kq23, q23a, q23b, q23c⟩ := isOf hZ e22 E_b4
        obtain ⟨v23, _, ⟨T23, L23, k23, n23⟩, -, X23, ⟨Lc23, hQ23, l23, y23, z23⟩, st23⟩ := X22.virtualBack hx (y := (⟨"com/example/honest_replica/honestreplica/model/Entity", "equals", "(Ljava/lang/Object;)Z"⟩ : MethodName)) (z := (⟨"com/example/honest_replica/honestreplica/model/Entity", "equals", "(Ljava/lang/Object;)Z"⟩ : MethodName)) hown (mvT hZ (hw _ (List.mem_of_getElem? (i := 29) rfl))) (mvT hZ (hw _ (List.mem_of_getElem? (i := 30) rfl))) (notFace_of_selects (args := #[]) (mvT hZ (hw _ (List.mem_of_getElem? (i := 32) rfl)))) (mvT hZ (hw _ (List.mem_of_getElem? (i := 32) rfl))) (mvT hZ (hw _ (List.mem_of_getElem? (i := 31) rfl))) (by decide) (backOf (W := 0) (rm_q l Z a0 hw [] b4 b4 kd1 kd1 (i1 &&& (2147483647 : Int32)) (i1 &&& (2147483647 : Int32)) T8.heap n0 O E_b4 E_b4 Gk5 Gi5 Gk5 Gi5) hZ (hw _ (List.mem_of_getElem? (i := 33) rfl)) (hw _ (List.mem_of_getElem? (i := 10) rfl)) (by decide) (by decide)) q23a q23c (g := (mkF m 112 #[.val (.int k1), .val (.int i1), .val (.int k2), .val (.int i2), .val (.int mode), .val (.ref kd1), .val (.ref kd2), .val (.int (i1 &&& (2147483647 : Int32))), .val (.int (i2 &&& (2147483647 : Int32))), .val (.ref b4), .val (.ref b6), .val (.ref bx8), .val (.int (0 : Int32)), .val (.int (0 : Int32)), .val (.int (0 : Int32)), .unset, .unset, .unset] [(.ref b4), (.ref b4)])) rfl (by rw [hml]; rfl) (Steps.refl _) (argsL := [(.ref b4)]) (rest := []) (lenOf pd_rm1_3 rfl) rfl (by show 2 * 0 + _ ≤ _; exact Nat.le_of_eq rfl) (hb hby at_112) (fun _ _ => ⟨rfl, e22, (by decide : 3 + 0 ≤ _), (by decide : 5 + 0 ≤ _)⟩)
        dsimp only [Pt.U, Pt.locs, Pt.cells, Pt.slots] at X23 l23 y23 z23 st23 hQ23
        subst l23 y23 z23
        obtain ⟨hv23, Nq23, e23⟩ := hQ23
        have hz23 : eqv kd1 (i1 &&& (2147483647 : Int32)) kd1 (i1 &&& (2147483647 : Int32)) = 1 := by simp [eqv]
        rw [hz23] at hv23
        subst hv23
        replace N := Fr.app N Nq23
        refine Go.by (T' := T23) (f' := (mkF m 115 #[.val (.int k1), .val (.int i1), .val (.int k2), .val (.int i2), .val (.int mode), .val (.ref kd1), .val (.ref kd2), .val (.int (i1 &&& (2147483647 : Int32))), .val (.int (i2 &&& (2147483647 : Int32))), .val (.ref b4), .val (.ref b6), .val (.ref bx8), .val (.int (0 : Int32)), .val (.int (0 : Int32)), .val (.int (0 : Int32)), .unset, .unset, .unset] [(.int (1 : Int32))])) (fun _ k => st23.trans k) ?_
        refine Go.by (T' := T23) (f' := (mkF m 117 #[.val (.int k1), .val (.int i1), .val (.int k2), .val (.int i2), .val (.int mode), .val (.ref kd1), .val (.ref kd2), .val (.int (i1 &&& (2147483647 : Int32))), .val (.int (i2 &&& (2147483647 : Int32))), .val (.ref b4), .val (.ref b6), .val (.ref bx8), .val (.int (0 : Int32)), .val (.int (0 : Int32)), .val (.int (0 : Int32)), .val (.int (1 : Int32)), .unset, .unset] [])) (fun _ k => XS.istore X23.here hx rfl (hb hby at_115) rfl (l' := #[.val (.int k1), .val (.int i1), .val (.int k2), .val (.int i2), .val (.int mode), .val (.ref kd1), .val (.ref kd2), .val (.int (i1 &&& (2147483647 : Int32))), .val (.int (i2 &&& (2147483647 : Int32))), .val (.ref b4), .val (.ref b6), .val (.ref bx8), .val (.int (0 : Int32)), .val (.int (0 : Int32)), .val (.int (0 : Int32)), .val (.int (1 : Int32)), .unset, .unset]) rfl k) ?_
        refine Go.by (T' := T23) (f' := (mkF m 119 #[.val (.int k1), .val (.int i1), .val (.int k2), .val (.int i2), .val (.int mode), .val (.ref kd1), .val (.ref kd2), .val (.int (i1 &&& (2147483647 : Int32))), .val (.int (i2 &&& (2147483647 : Int32))), .val (.ref b4), .val (.ref b6), .val (.ref bx8), .val (.int (0 : Int32)), .val (.int (0 : Int32)), .val (.int (0 : Int32)), .val (.int (1 : Int32)), .unset, .unset] [(.ref b4)])) (fun _ k => XS.aload X23.here hx rfl (hb hby at_117) rfl rfl k) ?_
        refine Go.by (T' := T23) (f' := (mkF m 120 #[.val (.int k1), .val (.int i1), .val (.int k2), .val (.int i2), .val (.int mode), .val (.ref kd1), .val (.ref kd2), .val (.int (i1 &&& (2147483647 : Int32))), .val (.int (i2 &&& (2147483647 : Int32))), .val (.ref b4), .val (.ref b6), .val (.ref bx8), .val (.int (0 : Int32)), .val (.int (0 : Int32)), .val (.int (0 : Int32)), .val (.int (1 : Int32)), .unset, .unset] [.null, (.ref b4)])) (fun _ k => XS.aconstNull X23.here hx rfl (hb hby at_119) k) ?_
        obtain ⟨cq24, kq24, q24a, q24b, q24c⟩ := isOf hZ e23 E_b4
        obtain ⟨v24, _, ⟨T24, L24, k24, n24⟩, -, X24, ⟨Lc24, hQ24, l24, y24, z24⟩, st24⟩ := X23.virtualBack hx (y := (⟨"com/example/honest_replica/honestreplica/model/Entity", "equals", "(Ljava/lang/Object;)Z"⟩ : MethodName)) (z := (⟨"com/example/honest_replica/honestreplica/model/Entity", "equals", "(Ljava/lang/Object;)Z"⟩ : MethodName)) hown (mvT hZ (hw _ (List.mem_of_getElem? (i := 29) rfl))) (mvT hZ (hw _ (List.mem_of_getElem? (i := 30) rfl))) (notFace_of_selects (args := #[]) (mvT hZ (hw _ (List.mem_of_getElem? (i := 32) rfl)))) (mvT hZ (hw _ (List.mem_of_getElem? (i := 32) rfl))) (mvT hZ (hw _ (List.mem_of_getElem? (i := 31) rfl))) (by decide) (backOf (W := 0) (rm_qn l Z a0 hw [] b4 T8.heap n0 O) hZ (hw _ (List.mem_of_getElem? (i := 33) rfl)) (hw _ (List.mem_of_getElem? (i := 10) rfl)) (by decide) (by decide)) q24a q24c (g := (mkF m 120 #[.val (.int k1), .val (.int i1), .val (.int k2), .val (.int i2), .val (.int mode), .val (.ref kd1), .val (.ref kd2), .val (.int (i1 &&& (2147483647 : Int32))), .val (.int (i2 &&& (2147483647 : Int32))), .val (.ref b4), .val (.ref b6), .val (.ref bx8), .val (.int (0 : Int32)), .val (.int (0 : Int32)), .val (.int (0 : Int32)), .val (.int (1 : Int32)), .unset, .unset] [.null, (.ref b4)])) rfl (by rw [hml]; rfl) (Steps.refl _) (argsL := [.null]) (rest := []) (lenOf pd_rm1_3 rfl) rfl (by show 2 * 0 + _ ≤ _; exact Nat.le_of_eq rfl) (hb hby at_120) (fun _ _ => ⟨rfl, e23, (by decide : 3 + 0 ≤ _), (by decide : 5 + 0 ≤ _)⟩)
        dsimp only [Pt.U, Pt.locs, Pt.cells, Pt.slots] at X24 l24 y24 z24 st24 hQ24
        subst l24 y24 z24
        obtain ⟨rfl, Nq24, e24⟩ := hQ24
        replace N := Fr.app N Nq24
        refine Go.by (T' := T24) (f' := (mkF m 123 #[.val (.int k1), .val (.int i1), .val (.int k2), .val (.int i2), .val (.int mode), .val (.ref kd1), .val (.ref kd2), .val (.int (i1 &&& (2147483647 : Int32))), .val (.int (i2 &&& (2147483647 : Int32))), .val (.ref b4), .val (.ref b6), .val (.ref bx8), .val (.int (0 : Int32)), .val (.int (0 : Int32)), .val (.int (0 : Int32)), .val (.int (1 : Int32)), .unset, .unset] [(.int (0 : Int32))])) (fun _ k => st24.trans k) ?_
        refine Go.by (T' := T24) (f' := (mkF m 125 #[.val (.int k1), .val (.int i1), .val (.int k2), .val (.int i2), .val (.int mode), .val (.ref kd1), .val (.ref kd2), .val (.int (i1 &&& (2147483647 : Int32))), .val (.int (i2 &&& (2147483647 : Int32))), .val (.ref b4), .val (.ref b6), .val (.ref bx8), .val (.int (0 : Int32)), .val (.int (0 : Int32)), .val (.int (0 : Int32)), .val (.int (1 : Int32)), .val (.int (0 : Int32)), .unset] [])) (fun _ k => XS.istore X24.here hx rfl (hb hby at_123) rfl (l' := #[.val (.int k1), .val (.int i1), .val (.int k2), .val (.int i2), .val (.int mode), .val (.ref kd1), .val (.ref kd2), .val (.int (i1 &&& (2147483647 : Int32))), .val (.int (i2 &&& (2147483647 : Int32))), .val (.ref b4), .val (.ref b6), .val (.ref bx8), .val (.int (0 : Int32)), .val (.int (0 : Int32)), .val (.int (0 : Int32)), .val (.int (1 : Int32)), .val (.int (0 : Int32)), .unset]) rfl k) ?_
        refine Go.by (T' := T24) (f' := (mkF m 127 #[.val (.int k1), .val (.int i1), .val (.int k2), .val (.int i2), .val (.int mode), .val (.ref kd1), .val (.ref kd2), .val (.int (i1 &&& (2147483647 : Int32))), .val (.int (i2 &&& (2147483647 : Int32))), .val (.ref b4), .val (.ref b6), .val (.ref bx8), .val (.int (0 : Int32)), .val (.int (0 : Int32)), .val (.int (0 : Int32)), .val (.int (1 : Int32)), .val (.int (0 : Int32)), .unset] [(.ref b4)])) (fun _ k => XS.aload X24.here hx rfl (hb hby at_125) rfl rfl k) ?_
        refine Go.by (T' := T24) (f' := (mkF m 129 #[.val (.int k1), .val (.int i1), .val (.int k2), .val (.int i2), .val (.int mode), .val (.ref kd1), .val (.ref kd2), .val (.int (i1 &&& (2147483647 : Int32))), .val (.int (i2 &&& (2147483647 : Int32))), .val (.ref b4), .val (.ref b6), .val (.ref bx8), .val (.int (0 : Int32)), .val (.int (0 : Int32)), .val (.int (0 : Int32)), .val (.int (1 : Int32)), .val (.int (0 : Int32)), .unset] [(.ref bx8), (.ref b4)])) (fun _ k => XS.aload X24.here hx rfl (hb hby at_127) rfl rfl k) ?_
        obtain ⟨cq25, kq25, q25a, q25b, q25c⟩ := isOf hZ e24 E_b4
        obtain ⟨v25, _, ⟨T25, L25, k25, n25⟩, -, X25, ⟨Lc25, hQ25, l25, y25, z25⟩, st25⟩ := X24.virtualBack hx (y := (⟨"com/example/honest_replica/honestreplica/model/Entity", "equals", "(Ljava/lang/Object;)Z"⟩ : MethodName)) (z := (⟨"com/example/honest_replica/honestreplica/model/Entity", "equals", "(Ljava/lang/Object;)Z"⟩ : MethodName)) hown (mvT hZ (hw _ (List.mem_of_getElem? (i := 29) rfl))) (mvT hZ (hw _ (List.mem_of_getElem? (i := 30) rfl))) (notFace_of_selects (args := #[]) (mvT hZ (hw _ (List.mem_of_getElem? (i := 32) rfl)))) (mvT hZ (hw _ (List.mem_of_getElem? (i := 32) rfl))) (mvT hZ (hw _ (List.mem_of_getElem? (i := 31) rfl))) (by decide) (backOf (W := 0) (rm_qi l Z a0 hw [] b4 bx8 T8.heap n0 O E_bx8) hZ (hw _ (List.mem_of_getElem? (i := 33) rfl)) (hw _ (List.mem_of_getElem? (i := 10) rfl)) (by decide) (by decide)) q25a q25c (g := (mkF m 129 #[.val (.int k1), .val (.int i1), .val (.int k2), .val (.int i2), .val (.int mode), .val (.ref kd1), .val (.ref kd2), .val (.int (i1 &&& (2147483647 : Int32))), .val (.int (i2 &&& (2147483647 : Int32))), .val (.ref b4), .val (.ref b6), .val (.ref bx8), .val (.int (0 : Int32)), .val (.int (0 : Int32)), .val (.int (0 : Int32)), .val (.int (1 : Int32)), .val (.int (0 : Int32)), .unset] [(.ref bx8), (.ref b4)])) rfl (by rw [hml]; rfl) (Steps.refl _) (argsL := [(.ref bx8)]) (rest := []) (lenOf pd_rm1_3 rfl) rfl (by show 2 * 0 + _ ≤ _; exact Nat.le_of_eq rfl) (hb hby at_129) (fun _ _ => ⟨rfl, e24, (by decide : 3 + 0 ≤ _), (by decide : 5 + 0 ≤ _)⟩)
        dsimp only [Pt.U, Pt.locs, Pt.cells, Pt.slots] at X25 l25 y25 z25 st25 hQ25
        subst l25 y25 z25
        obtain ⟨rfl, Nq25, e25⟩ := hQ25
        replace N := Fr.app N Nq25
        refine Go.by (T' := T25) (f' := (mkF m 132 #[.val (.int k1), .val (.int i1), .val (.int k2), .val (.int i2), .val (.int mode), .val (.ref kd1), .val (.ref kd2), .val (.int (i1 &&& (2147483647 : Int32))), .val (.int (i2 &&& (2147483647 : Int32))), .val (.ref b4), .val (.ref b6), .val (.ref bx8), .val (.int (0 : Int32)), .val (.int (0 : Int32)), .val (.int (0 : Int32)), .val (.int (1 : Int32)), .val (.int (0 : Int32)), .unset] [(.int (0 : Int32))])) (fun _ k => st25.trans k) ?_
        refine Go.by (T' := T25) (f' := (mkF m 134 #[.val (.int k1), .val (.int i1), .val (.int k2), .val (.int i2), .val (.int mode), .val (.ref kd1), .val (.ref kd2), .val (.int (i1 &&& (2147483647 : Int32))), .val (.int (i2 &&& (2147483647 : Int32))), .val (.ref b4), .val (.ref b6), .val (.ref bx8), .val (.int (0 : Int32)), .val (.int (0 : Int32)), .val (.int (0 : Int32)), .val (.int (1 : Int32)), .val (.int (0 : Int32)), .val (.int (0 : Int32))] [])) (fun _ k => XS.istore X25.here hx rfl (hb hby at_132) rfl (l' := #[.val (.int k1), .val (.int i1), .val (.int k2), .val (.int i2), .val (.int mode), .val (.ref kd1), .val (.ref kd2), .val (.int (i1 &&& (2147483647 : Int32))), .val (.int (i2 &&& (2147483647 : Int32))), .val (.ref b4), .val (.ref b6), .val (.ref bx8), .val (.int (0 : Int32)), .val (.int (0 : Int32)), .val (.int (0 : Int32)), .val (.int (1 : Int32)), .val (.int (0 : Int32)), .val (.int (0 : Int32))]) rfl k) ?_
        refine Go.by (T' := T25) (f' := (mkF m 136 #[.val (.int k1), .val (.int i1), .val (.int k2), .val (.int i2), .val (.int mode), .val (.ref kd1), .val (.ref kd2), .val (.int (i1 &&& (2147483647 : Int32))), .val (.int (i2 &&& (2147483647 : Int32))), .val (.ref b4), .val (.ref b6), .val (.ref bx8), .val (.int (0 : Int32)), .val (.int (0 : Int32)), .val (.int (0 : Int32)), .val (.int (1 : Int32)), .val (.int (0 : Int32)), .val (.int (0 : Int32))] [(.int (0 : Int32))])) (fun _ k => XS.iload X25.here hx rfl (hb hby at_134) rfl k) ?_
        refine Go.by (T' := T25) (f' := (mkF m 138 #[.val (.int k1), .val (.int i1), .val (.int k2), .val (.int i2), .val (.int mode), .val (.ref kd1), .val (.ref kd2), .val (.int (i1 &&& (2147483647 : Int32))), .val (.int (i2 &&& (2147483647 : Int32))), .val (.ref b4), .val (.ref b6), .val (.ref bx8), .val (.int (0 : Int32)), .val (.int (0 : Int32)), .val (.int (0 : Int32)), .val (.int (1 : Int32)), .val (.int (0 : Int32)), .val (.int (0 : Int32))] [(.int (0 : Int32)), (.int (0 : Int32))])) (fun _ k => XS.iload X25.here hx rfl (hb hby at_136) rfl k) ?_
        refine Go.by (T' := T25) (f' := (mkF m 141 #[.val (.int k1), .val (.int i1), .val (.int k2), .val (.int i2), .val (.int mode), .val (.ref kd1), .val (.ref kd2), .val (.int (i1 &&& (2147483647 : Int32))), .val (.int (i2 &&& (2147483647 : Int32))), .val (.ref b4), .val (.ref b6), .val (.ref bx8), .val (.int (0 : Int32)), .val (.int (0 : Int32)), .val (.int (0 : Int32)), .val (.int (1 : Int32)), .val (.int (0 : Int32)), .val (.int (0 : Int32))] [])) (fun _ k => XS.icmpNo X25.here hx rfl (hb hby at_138) rfl (teq (by decide : (0 : Int32) = (0 : Int32))).2 k) ?_
        refine Go.by (T' := T25) (f' := (mkF m 143 #[.val (.int k1), .val (.int i1), .val (.int k2), .val (.int i2), .val (.int mode), .val (.ref kd1), .val (.ref kd2), .val (.int (i1 &&& (2147483647 : Int32))), .val (.int (i2 &&& (2147483647 : Int32))), .val (.ref b4), .val (.ref b6), .val (.ref bx8), .val (.int (0 : Int32)), .val (.int (0 : Int32)), .val (.int (0 : Int32)), .val (.int (1 : Int32)), .val (.int (0 : Int32)), .val (.int (0 : Int32))] [(.int (0 : Int32))])) (fun _ k => XS.iload X25.here hx rfl (hb hby at_141) rfl k) ?_
        refine Go.by (T' := T25) (f' := (mkF m 145 #[.val (.int k1), .val (.int i1), .val (.int k2), .val (.int i2), .val (.int mode), .val (.ref kd1), .val (.ref kd2), .val (.int (i1 &&& (2147483647 : Int32))), .val (.int (i2 &&& (2147483647 : Int32))), .val (.ref b4), .val (.ref b6), .val (.ref bx8), .val (.int (0 : Int32)), .val (.int (0 : Int32)), .val (.int (0 : Int32)), .val (.int (1 : Int32)), .val (.int (0 : Int32)), .val (.int (0 : Int32))] [(.int (0 : Int32)), (.int (0 : Int32))])) (fun _ k => XS.iload X25.here hx rfl (hb hby at_143) rfl k) ?_
        refine Go.by (T' := T25) (f' := (mkF m 148 #[.val (.int k1), .val (.int i1), .val (.int k2), .val (.int i2), .val (.int mode), .val (.ref kd1), .val (.ref kd2), .val (.int (i1 &&& (2147483647 : Int32))), .val (.int (i2 &&& (2147483647 : Int32))), .val (.ref b4), .val (.ref b6), .val (.ref bx8), .val (.int (0 : Int32)), .val (.int (0 : Int32)), .val (.int (0 : Int32)), .val (.int (1 : Int32)), .val (.int (0 : Int32)), .val (.int (0 : Int32))] [])) (fun _ k => XS.icmpNo X25.here hx rfl (hb hby at_145) rfl (teq (by decide : (0 : Int32) = (0 : Int32))).2 k) ?_
        refine Go.by (T' := T25) (f' := (mkF m 150 #[.val (.int k1), .val (.int i1), .val (.int k2), .val (.int i2), .val (.int mode), .val (.ref kd1), .val (.ref kd2), .val (.int (i1 &&& (2147483647 : Int32))), .val (.int (i2 &&& (2147483647 : Int32))), .val (.ref b4), .val (.ref b6), .val (.ref bx8), .val (.int (0 : Int32)), .val (.int (0 : Int32)), .val (.int (0 : Int32)), .val (.int (1 : Int32)), .val (.int (0 : Int32)), .val (.int (0 : Int32))] [(.int (1 : Int32))])) (fun _ k => XS.iload X25.here hx rfl (hb hby at_148) rfl k) ?_
        refine Go.by (T' := T25) (f' := (mkF m 153 #[.val (.int k1), .val (.int i1), .val (.int k2), .val (.int i2), .val (.int mode), .val (.ref kd1), .val (.ref kd2), .val (.int (i1 &&& (2147483647 : Int32))), .val (.int (i2 &&& (2147483647 : Int32))), .val (.ref b4), .val (.ref b6), .val (.ref bx8), .val (.int (0 : Int32)), .val (.int (0 : Int32)), .val (.int (0 : Int32)), .val (.int (1 : Int32)), .val (.int (0 : Int32)), .val (.int (0 : Int32))] [])) (fun _ k => XS.ifNo X25.here hx rfl (hb hby at_150) rfl ((if0 _ _).trans (feq (by decide : ¬ ((1 : Int32) = (0 : Int32)))).1) k) ?_
        refine Go.by (T' := T25) (f' := (mkF m 155 #[.val (.int k1), .val (.int i1), .val (.int k2), .val (.int i2), .val (.int mode), .val (.ref kd1), .val (.ref kd2), .val (.int (i1 &&& (2147483647 : Int32))), .val (.int (i2 &&& (2147483647 : Int32))), .val (.ref b4), .val (.ref b6), .val (.ref bx8), .val (.int (0 : Int32)), .val (.int (0 : Int32)), .val (.int (0 : Int32)), .val (.int (1 : Int32)), .val (.int (0 : Int32)), .val (.int (0 : Int32))] [(.int (0 : Int32))])) (fun _ k => XS.iload X25.here hx rfl (hb hby at_153) rfl k) ?_
        refine Go.by (T' := T25) (f' := (mkF m 158 #[.val (.int k1), .val (.int i1), .val (.int k2), .val (.int i2), .val (.int mode), .val (.ref kd1), .val (.ref kd2), .val (.int (i1 &&& (2147483647 : Int32))), .val (.int (i2 &&& (2147483647 : Int32))), .val (.ref b4), .val (.ref b6), .val (.ref bx8), .val (.int (0 : Int32)), .val (.int (0 : Int32)), .val (.int (0 : Int32)), .val (.int (1 : Int32)), .val (.int (0 : Int32)), .val (.int (0 : Int32))] [])) (fun _ k => XS.ifNo X25.here hx rfl (hb hby at_155) rfl ((if0 _ _).trans (teq (by decide : (0 : Int32) = (0 : Int32))).2) k) ?_
        refine Go.by (T' := T25) (f' := (mkF m 160 #[.val (.int k1), .val (.int i1), .val (.int k2), .val (.int i2), .val (.int mode), .val (.ref kd1), .val (.ref kd2), .val (.int (i1 &&& (2147483647 : Int32))), .val (.int (i2 &&& (2147483647 : Int32))), .val (.ref b4), .val (.ref b6), .val (.ref bx8), .val (.int (0 : Int32)), .val (.int (0 : Int32)), .val (.int (0 : Int32)), .val (.int (1 : Int32)), .val (.int (0 : Int32)), .val (.int (0 : Int32))] [(.int (0 : Int32))])) (fun _ k => XS.iload X25.here hx rfl (hb hby at_158) rfl k) ?_
        refine Go.by (T' := T25) (f' := (mkF m 163 #[.val (.int k1), .val (.int i1), .val (.int k2), .val (.int i2), .val (.int mode), .val (.ref kd1), .val (.ref kd2), .val (.int (i1 &&& (2147483647 : Int32))), .val (.int (i2 &&& (2147483647 : Int32))), .val (.ref b4), .val (.ref b6), .val (.ref bx8), .val (.int (0 : Int32)), .val (.int (0 : Int32)), .val (.int (0 : Int32)), .val (.int (1 : Int32)), .val (.int (0 : Int32)), .val (.int (0 : Int32))] [])) (fun _ k => XS.ifNo X25.here hx rfl (hb hby at_160) rfl ((if0 _ _).trans (teq (by decide : (0 : Int32) = (0 : Int32))).2) k) ?_
        refine Go.by (T' := T25) (f' := (mkF m 164 #[.val (.int k1), .val (.int i1), .val (.int k2), .val (.int i2), .val (.int mode), .val (.ref kd1), .val (.ref kd2), .val (.int (i1 &&& (2147483647 : Int32))), .val (.int (i2 &&& (2147483647 : Int32))), .val (.ref b4), .val (.ref b6), .val (.ref bx8), .val (.int (0 : Int32)), .val (.int (0 : Int32)), .val (.int (0 : Int32)), .val (.int (1 : Int32)), .val (.int (0 : Int32)), .val (.int (0 : Int32))] [(.int (1 : Int32))])) (fun _ k => XS.iconst X25.here hx rfl (hb hby at_163) k) ?_
        refine Go.by (T' := T25) (f' := (mkF m 168 #[.val (.int k1), .val (.int i1), .val (.int k2), .val (.int i2), .val (.int mode), .val (.ref kd1), .val (.ref kd2), .val (.int (i1 &&& (2147483647 : Int32))), .val (.int (i2 &&& (2147483647 : Int32))), .val (.ref b4), .val (.ref b6), .val (.ref bx8), .val (.int (0 : Int32)), .val (.int (0 : Int32)), .val (.int (0 : Int32)), .val (.int (1 : Int32)), .val (.int (0 : Int32)), .val (.int (0 : Int32))] [(.int (1 : Int32))])) (fun _ k => XS.goto X25.here hx rfl (pc0 := 164) (pc' := 168) rfl (hb hby at_164) (by decide) (by decide) k) ?_
        obtain ⟨fs, hr, hrun, hended, hW, hsame⟩ := X25.leave (v := some (.int (1 : Int32))) (fun h => by rw [Bd.returns] at h; cases h)
        refine ⟨_, _, retN X25 hx (t := .boolean) Bd.returns (by simp) (hb hby at_168) hr, hrun, hended, _, _, rfl, ?_, ⟨_, rfl⟩, hW, hsame.mono (by decide) (by decide)⟩
        show Q1 n0 (some (.int (1 : Int32))) T25.heap _
        rw [e25]
        exact ⟨rfl, N⟩
    · skip
      refine Go.by (T' := T8) (f' := (mkF m 87 #[.val (.int k1), .val (.int i1), .val (.int k2), .val (.int i2), .val (.int mode), .val (.ref kd1), .val (.ref kd2), .val (.int (i1 &&& (2147483647 : Int32))), .val (.int (i2 &&& (2147483647 : Int32))), .val (.ref b4), .val (.ref b6), .val (.ref bx8), .unset, .unset, .unset, .unset, .unset, .unset] [])) (fun _ k => Jvm.RoadKit.acmp (g := (mkF m 73 #[.val (.int k1), .val (.int i1), .val (.int k2), .val (.int i2), .val (.int mode), .val (.ref kd1), .val (.ref kd2), .val (.int (i1 &&& (2147483647 : Int32))), .val (.int (i2 &&& (2147483647 : Int32))), .val (.ref b4), .val (.ref b6), .val (.ref bx8), .unset, .unset, .unset, .unset, .unset, .unset] [(.ref kd2), (.ref kd1)])) X8 hx rfl rfl rfl (pc0 := 73) (pc' := 87) (same := false) rfl (hb hby at_73) rfl (decide_eq_false fun q => ha73_9 (Value.ref.inj q)) (by decide) (by decide) k) ?_
      refine Go.by (T' := T8) (f' := (mkF m 88 #[.val (.int k1), .val (.int i1), .val (.int k2), .val (.int i2), .val (.int mode), .val (.ref kd1), .val (.ref kd2), .val (.int (i1 &&& (2147483647 : Int32))), .val (.int (i2 &&& (2147483647 : Int32))), .val (.ref b4), .val (.ref b6), .val (.ref bx8), .unset, .unset, .unset, .unset, .unset, .unset] [(.int (0 : Int32))])) (fun _ k => XS.iconst X8.here hx rfl (hb hby at_87) k) ?_
      refine Go.by (T' := T8) (f' := (mkF m 90 #[.val (.int k1), .val (.int i1), .val (.int k2), .val (.int i2), .val (.int mode), .val (.ref kd1), .val (.ref kd2), .val (.int (i1 &&& (2147483647 : Int32))), .val (.int (i2 &&& (2147483647 : Int32))), .val (.ref b4), .val (.ref b6), .val (.ref bx8), .val (.int (0 : Int32)), .unset, .unset, .unset, .unset, .unset] [])) (fun _ k => XS.istore X8.here hx rfl (hb hby at_88) rfl (l' := #[.val (.int k1), .val (.int i1), .val (.int k2), .val (.int i2), .val (.int mode), .val (.ref kd1), .val (.ref kd2), .val (.int (i1 &&& (2147483647 : Int32))), .val (.int (i2 &&& (2147483647 : Int32))), .val (.ref b4), .val (.ref b6), .val (.ref bx8), .val (.int (0 : Int32)), .unset, .unset, .unset, .unset, .unset]) rfl k) ?_
      refine Go.by (T' := T8) (f' := (mkF m 92 #[.val (.int k1), .val (.int i1), .val (.int k2), .val (.int i2), .val (.int mode), .val (.ref kd1), .val (.ref kd2), .val (.int (i1 &&& (2147483647 : Int32))), .val (.int (i2 &&& (2147483647 : Int32))), .val (.ref b4), .val (.ref b6), .val (.ref bx8), .val (.int (0 : Int32)), .unset, .unset, .unset, .unset, .unset] [(.ref b4)])) (fun _ k => XS.aload X8.here hx rfl (hb hby at_90) rfl rfl k) ?_
      refine Go.by (T' := T8) (f' := (mkF m 94 #[.val (.int k1), .val (.int i1), .val (.int k2), .val (.int i2), .val (.int mode), .val (.ref kd1), .val (.ref kd2), .val (.int (i1 &&& (2147483647 : Int32))), .val (.int (i2 &&& (2147483647 : Int32))), .val (.ref b4), .val (.ref b6), .val (.ref bx8), .val (.int (0 : Int32)), .unset, .unset, .unset, .unset, .unset] [(.ref b6), (.ref b4)])) (fun _ k => XS.aload X8.here hx rfl (hb hby at_92) rfl rfl k) ?_
      obtain ⟨cq31, kq31, q31a, q31b, q31c⟩ := isOf hZ rfl E_b4
      obtain ⟨v31, _, ⟨T31, L31, k31, n31⟩, -, X31, ⟨Lc31, hQ31, l31, y31, z31⟩, st31⟩ := X8.virtualBack hx (y := (⟨"com/example/honest_replica/honestreplica/model/Entity", "equals", "(Ljava/lang/Object;)Z"⟩ : MethodName)) (z := (⟨"com/example/honest_replica/honestreplica/model/Entity", "equals", "(Ljava/lang/Object;)Z"⟩ : MethodName)) hown (mvT hZ (hw _ (List.mem_of_getElem? (i := 29) rfl))) (mvT hZ (hw _ (List.mem_of_getElem? (i := 30) rfl))) (notFace_of_selects (args := #[]) (mvT hZ (hw _ (List.mem_of_getElem? (i := 32) rfl)))) (mvT hZ (hw _ (List.mem_of_getElem? (i := 32) rfl))) (mvT hZ (hw _ (List.mem_of_getElem? (i := 31) rfl))) (by decide) (backOf (W := 0) (rm_q l Z a0 hw [] b4 b6 kd1 kd2 (i1 &&& (2147483647 : Int32)) (i2 &&& (2147483647 : Int32)) T8.heap n0 O E_b4 E_b6 Gk5 Gi5 Gk7 Gi7) hZ (hw _ (List.mem_of_getElem? (i := 33) rfl)) (hw _ (List.mem_of_getElem? (i := 10) rfl)) (by decide) (by decide)) q31a q31c (g := (mkF m 94 #[.val (.int k1), .val (.int i1), .val (.int k2), .val (.int i2), .val (.int mode), .val (.ref kd1), .val (.ref kd2), .val (.int (i1 &&& (2147483647 : Int32))), .val (.int (i2 &&& (2147483647 : Int32))), .val (.ref b4), .val (.ref b6), .val (.ref bx8), .val (.int (0 : Int32)), .unset, .unset, .unset, .unset, .unset] [(.ref b6), (.ref b4)])) rfl (by rw [hml]; rfl) (Steps.refl _) (argsL := [(.ref b6)]) (rest := []) (lenOf pd_rm1_3 rfl) rfl (by show 2 * 0 + _ ≤ _; exact Nat.le_of_eq rfl) (hb hby at_94) (fun _ _ => ⟨rfl, rfl, (by decide : 3 + 0 ≤ _), (by decide : 5 + 0 ≤ _)⟩)
      dsimp only [Pt.U, Pt.locs, Pt.cells, Pt.slots] at X31 l31 y31 z31 st31 hQ31
      subst l31 y31 z31
      obtain ⟨hv31, Nq31, e31⟩ := hQ31
      have hz31 : eqv kd1 (i1 &&& (2147483647 : Int32)) kd2 (i2 &&& (2147483647 : Int32)) = 0 := by simp [eqv, ha73_9]
      rw [hz31] at hv31
      subst hv31
      replace N := Fr.app N Nq31
      refine Go.by (T' := T31) (f' := (mkF m 97 #[.val (.int k1), .val (.int i1), .val (.int k2), .val (.int i2), .val (.int mode), .val (.ref kd1), .val (.ref kd2), .val (.int (i1 &&& (2147483647 : Int32))), .val (.int (i2 &&& (2147483647 : Int32))), .val (.ref b4), .val (.ref b6), .val (.ref bx8), .val (.int (0 : Int32)), .unset, .unset, .unset, .unset, .unset] [(.int (0 : Int32))])) (fun _ k => st31.trans k) ?_
      refine Go.by (T' := T31) (f' := (mkF m 99 #[.val (.int k1), .val (.int i1), .val (.int k2), .val (.int i2), .val (.int mode), .val (.ref kd1), .val (.ref kd2), .val (.int (i1 &&& (2147483647 : Int32))), .val (.int (i2 &&& (2147483647 : Int32))), .val (.ref b4), .val (.ref b6), .val (.ref bx8), .val (.int (0 : Int32)), .val (.int (0 : Int32)), .unset, .unset, .unset, .unset] [])) (fun _ k => XS.istore X31.here hx rfl (hb hby at_97) rfl (l' := #[.val (.int k1), .val (.int i1), .val (.int k2), .val (.int i2), .val (.int mode), .val (.ref kd1), .val (.ref kd2), .val (.int (i1 &&& (2147483647 : Int32))), .val (.int (i2 &&& (2147483647 : Int32))), .val (.ref b4), .val (.ref b6), .val (.ref bx8), .val (.int (0 : Int32)), .val (.int (0 : Int32)), .unset, .unset, .unset, .unset]) rfl k) ?_
      refine Go.by (T' := T31) (f' := (mkF m 101 #[.val (.int k1), .val (.int i1), .val (.int k2), .val (.int i2), .val (.int mode), .val (.ref kd1), .val (.ref kd2), .val (.int (i1 &&& (2147483647 : Int32))), .val (.int (i2 &&& (2147483647 : Int32))), .val (.ref b4), .val (.ref b6), .val (.ref bx8), .val (.int (0 : Int32)), .val (.int (0 : Int32)), .unset, .unset, .unset, .unset] [(.ref b6)])) (fun _ k => XS.aload X31.here hx rfl (hb hby at_99) rfl rfl k) ?_
      refine Go.by (T' := T31) (f' := (mkF m 103 #[.val (.int k1), .val (.int i1), .val (.int k2), .val (.int i2), .val (.int mode), .val (.ref kd1), .val (.ref kd2), .val (.int (i1 &&& (2147483647 : Int32))), .val (.int (i2 &&& (2147483647 : Int32))), .val (.ref b4), .val (.ref b6), .val (.ref bx8), .val (.int (0 : Int32)), .val (.int (0 : Int32)), .unset, .unset, .unset, .unset] [(.ref b4), (.ref b6)])) (fun _ k => XS.aload X31.here hx rfl (hb hby at_101) rfl rfl k) ?_
      obtain ⟨cq32, kq32, q32a, q32b, q32c⟩ := isOf hZ e31 E_b6
      obtain ⟨v32, _, ⟨T32, L32, k32, n32⟩, -, X32, ⟨Lc32, hQ32, l32, y32, z32⟩, st32⟩ := X31.virtualBack hx (y := (⟨"com/example/honest_replica/honestreplica/model/Entity", "equals", "(Ljava/lang/Object;)Z"⟩ : MethodName)) (z := (⟨"com/example/honest_replica/honestreplica/model/Entity", "equals", "(Ljava/lang/Object;)Z"⟩ : MethodName)) hown (mvT hZ (hw _ (List.mem_of_getElem? (i := 29) rfl))) (mvT hZ (hw _ (List.mem_of_getElem? (i := 30) rfl))) (notFace_of_selects (args := #[]) (mvT hZ (hw _ (List.mem_of_getElem? (i := 32) rfl)))) (mvT hZ (hw _ (List.mem_of_getElem? (i := 32) rfl))) (mvT hZ (hw _ (List.mem_of_getElem? (i := 31) rfl))) (by decide) (backOf (W := 0) (rm_q l Z a0 hw [] b6 b4 kd2 kd1 (i2 &&& (2147483647 : Int32)) (i1 &&& (2147483647 : Int32)) T8.heap n0 O E_b6 E_b4 Gk7 Gi7 Gk5 Gi5) hZ (hw _ (List.mem_of_getElem? (i := 33) rfl)) (hw _ (List.mem_of_getElem? (i := 10) rfl)) (by decide) (by decide)) q32a q32c (g := (mkF m 103 #[.val (.int k1), .val (.int i1), .val (.int k2), .val (.int i2), .val (.int mode), .val (.ref kd1), .val (.ref kd2), .val (.int (i1 &&& (2147483647 : Int32))), .val (.int (i2 &&& (2147483647 : Int32))), .val (.ref b4), .val (.ref b6), .val (.ref bx8), .val (.int (0 : Int32)), .val (.int (0 : Int32)), .unset, .unset, .unset, .unset] [(.ref b4), (.ref b6)])) rfl (by rw [hml]; rfl) (Steps.refl _) (argsL := [(.ref b4)]) (rest := []) (lenOf pd_rm1_3 rfl) rfl (by show 2 * 0 + _ ≤ _; exact Nat.le_of_eq rfl) (hb hby at_103) (fun _ _ => ⟨rfl, e31, (by decide : 3 + 0 ≤ _), (by decide : 5 + 0 ≤ _)⟩)
      dsimp only [Pt.U, Pt.locs, Pt.cells, Pt.slots] at X32 l32 y32 z32 st32 hQ32
      subst l32 y32 z32
      obtain ⟨hv32, Nq32, e32⟩ := hQ32
      have hz32 : eqv kd2 (i2 &&& (2147483647 : Int32)) kd1 (i1 &&& (2147483647 : Int32)) = 0 := by simp [eqv, (show ¬ kd2 = kd1 from fun q => ha73_9 q.symm)]
      rw [hz32] at hv32
      subst hv32
      replace N := Fr.app N Nq32
      refine Go.by (T' := T32) (f' := (mkF m 106 #[.val (.int k1), .val (.int i1), .val (.int k2), .val (.int i2), .val (.int mode), .val (.ref kd1), .val (.ref kd2), .val (.int (i1 &&& (2147483647 : Int32))), .val (.int (i2 &&& (2147483647 : Int32))), .val (.ref b4), .val (.ref b6), .val (.ref bx8), .val (.int (0 : Int32)), .val (.int (0 : Int32)), .unset, .unset, .unset, .unset] [(.int (0 : Int32))])) (fun _ k => st32.trans k) ?_
      refine Go.by (T' := T32) (f' := (mkF m 108 #[.val (.int k1), .val (.int i1), .val (.int k2), .val (.int i2), .val (.int mode), .val (.ref kd1), .val (.ref kd2), .val (.int (i1 &&& (2147483647 : Int32))), .val (.int (i2 &&& (2147483647 : Int32))), .val (.ref b4), .val (.ref b6), .val (.ref bx8), .val (.int (0 : Int32)), .val (.int (0 : Int32)), .val (.int (0 : Int32)), .unset, .unset, .unset] [])) (fun _ k => XS.istore X32.here hx rfl (hb hby at_106) rfl (l' := #[.val (.int k1), .val (.int i1), .val (.int k2), .val (.int i2), .val (.int mode), .val (.ref kd1), .val (.ref kd2), .val (.int (i1 &&& (2147483647 : Int32))), .val (.int (i2 &&& (2147483647 : Int32))), .val (.ref b4), .val (.ref b6), .val (.ref bx8), .val (.int (0 : Int32)), .val (.int (0 : Int32)), .val (.int (0 : Int32)), .unset, .unset, .unset]) rfl k) ?_
      refine Go.by (T' := T32) (f' := (mkF m 110 #[.val (.int k1), .val (.int i1), .val (.int k2), .val (.int i2), .val (.int mode), .val (.ref kd1), .val (.ref kd2), .val (.int (i1 &&& (2147483647 : Int32))), .val (.int (i2 &&& (2147483647 : Int32))), .val (.ref b4), .val (.ref b6), .val (.ref bx8), .val (.int (0 : Int32)), .val (.int (0 : Int32)), .val (.int (0 : Int32)), .unset, .unset, .unset] [(.ref b4)])) (fun _ k => XS.aload X32.here hx rfl (hb hby at_108) rfl rfl k) ?_
      refine Go.by (T' := T32) (f' := (mkF m 112 #[.val (.int k1), .val (.int i1), .val (.int k2), .val (.int i2), .val (.int mode), .val (.ref kd1), .val (.ref kd2), .val (.int (i1 &&& (2147483647 : Int32))), .val (.int (i2 &&& (2147483647 : Int32))), .val (.ref b4), .val (.ref b6), .val (.ref bx8), .val (.int (0 : Int32)), .val (.int (0 : Int32)), .val (.int (0 : Int32)), .unset, .unset, .unset] [(.ref b4), (.ref b4)])) (fun _ k => XS.aload X32.here hx rfl (hb hby at_110) rfl rfl k) ?_
      obtain ⟨cq33, kq33, q33a, q33b, q33c⟩ := isOf hZ e32 E_b4
      obtain ⟨v33, _, ⟨T33, L33, k33, n33⟩, -, X33, ⟨Lc33, hQ33, l33, y33, z33⟩, st33⟩ := X32.virtualBack hx (y := (⟨"com/example/honest_replica/honestreplica/model/Entity", "equals", "(Ljava/lang/Object;)Z"⟩ : MethodName)) (z := (⟨"com/example/honest_replica/honestreplica/model/Entity", "equals", "(Ljava/lang/Object;)Z"⟩ : MethodName)) hown (mvT hZ (hw _ (List.mem_of_getElem? (i := 29) rfl))) (mvT hZ (hw _ (List.mem_of_getElem? (i := 30) rfl))) (notFace_of_selects (args := #[]) (mvT hZ (hw _ (List.mem_of_getElem? (i := 32) rfl)))) (mvT hZ (hw _ (List.mem_of_getElem? (i := 32) rfl))) (mvT hZ (hw _ (List.mem_of_getElem? (i := 31) rfl))) (by decide) (backOf (W := 0) (rm_q l Z a0 hw [] b4 b4 kd1 kd1 (i1 &&& (2147483647 : Int32)) (i1 &&& (2147483647 : Int32)) T8.heap n0 O E_b4 E_b4 Gk5 Gi5 Gk5 Gi5) hZ (hw _ (List.mem_of_getElem? (i := 33) rfl)) (hw _ (List.mem_of_getElem? (i := 10) rfl)) (by decide) (by decide)) q33a q33c (g := (mkF m 112 #[.val (.int k1), .val (.int i1), .val (.int k2), .val (.int i2), .val (.int mode), .val (.ref kd1), .val (.ref kd2), .val (.int (i1 &&& (2147483647 : Int32))), .val (.int (i2 &&& (2147483647 : Int32))), .val (.ref b4), .val (.ref b6), .val (.ref bx8), .val (.int (0 : Int32)), .val (.int (0 : Int32)), .val (.int (0 : Int32)), .unset, .unset, .unset] [(.ref b4), (.ref b4)])) rfl (by rw [hml]; rfl) (Steps.refl _) (argsL := [(.ref b4)]) (rest := []) (lenOf pd_rm1_3 rfl) rfl (by show 2 * 0 + _ ≤ _; exact Nat.le_of_eq rfl) (hb hby at_112) (fun _ _ => ⟨rfl, e32, (by decide : 3 + 0 ≤ _), (by decide : 5 + 0 ≤ _)⟩)
      dsimp only [Pt.U, Pt.locs, Pt.cells, Pt.slots] at X33 l33 y33 z33 st33 hQ33
      subst l33 y33 z33
      obtain ⟨hv33, Nq33, e33⟩ := hQ33
      have hz33 : eqv kd1 (i1 &&& (2147483647 : Int32)) kd1 (i1 &&& (2147483647 : Int32)) = 1 := by simp [eqv]
      rw [hz33] at hv33
      subst hv33
      replace N := Fr.app N Nq33
      refine Go.by (T' := T33) (f' := (mkF m 115 #[.val (.int k1), .val (.int i1), .val (.int k2), .val (.int i2), .val (.int mode), .val (.ref kd1), .val (.ref kd2), .val (.int (i1 &&& (2147483647 : Int32))), .val (.int (i2 &&& (2147483647 : Int32))), .val (.ref b4), .val (.ref b6), .val (.ref bx8), .val (.int (0 : Int32)), .val (.int (0 : Int32)), .val (.int (0 : Int32)), .unset, .unset, .unset] [(.int (1 : Int32))])) (fun _ k => st33.trans k) ?_
      refine Go.by (T' := T33) (f' := (mkF m 117 #[.val (.int k1), .val (.int i1), .val (.int k2), .val (.int i2), .val (.int mode), .val (.ref kd1), .val (.ref kd2), .val (.int (i1 &&& (2147483647 : Int32))), .val (.int (i2 &&& (2147483647 : Int32))), .val (.ref b4), .val (.ref b6), .val (.ref bx8), .val (.int (0 : Int32)), .val (.int (0 : Int32)), .val (.int (0 : Int32)), .val (.int (1 : Int32)), .unset, .unset] [])) (fun _ k => XS.istore X33.here hx rfl (hb hby at_115) rfl (l' := #[.val (.int k1), .val (.int i1), .val (.int k2), .val (.int i2), .val (.int mode), .val (.ref kd1), .val (.ref kd2), .val (.int (i1 &&& (2147483647 : Int32))), .val (.int (i2 &&& (2147483647 : Int32))), .val (.ref b4), .val (.ref b6), .val (.ref bx8), .val (.int (0 : Int32)), .val (.int (0 : Int32)), .val (.int (0 : Int32)), .val (.int (1 : Int32)), .unset, .unset]) rfl k) ?_
      refine Go.by (T' := T33) (f' := (mkF m 119 #[.val (.int k1), .val (.int i1), .val (.int k2), .val (.int i2), .val (.int mode), .val (.ref kd1), .val (.ref kd2), .val (.int (i1 &&& (2147483647 : Int32))), .val (.int (i2 &&& (2147483647 : Int32))), .val (.ref b4), .val (.ref b6), .val (.ref bx8), .val (.int (0 : Int32)), .val (.int (0 : Int32)), .val (.int (0 : Int32)), .val (.int (1 : Int32)), .unset, .unset] [(.ref b4)])) (fun _ k => XS.aload X33.here hx rfl (hb hby at_117) rfl rfl k) ?_
      refine Go.by (T' := T33) (f' := (mkF m 120 #[.val (.int k1), .val (.int i1), .val (.int k2), .val (.int i2), .val (.int mode), .val (.ref kd1), .val (.ref kd2), .val (.int (i1 &&& (2147483647 : Int32))), .val (.int (i2 &&& (2147483647 : Int32))), .val (.ref b4), .val (.ref b6), .val (.ref bx8), .val (.int (0 : Int32)), .val (.int (0 : Int32)), .val (.int (0 : Int32)), .val (.int (1 : Int32)), .unset, .unset] [.null, (.ref b4)])) (fun _ k => XS.aconstNull X33.here hx rfl (hb hby at_119) k) ?_
      obtain ⟨cq34, kq34, q34a, q34b, q34c⟩ := isOf hZ e33 E_b4
      obtain ⟨v34, _, ⟨T34, L34, k34, n34⟩, -, X34, ⟨Lc34, hQ34, l34, y34, z34⟩, st34⟩ := X33.virtualBack hx (y := (⟨"com/example/honest_replica/honestreplica/model/Entity", "equals", "(Ljava/lang/Object;)Z"⟩ : MethodName)) (z := (⟨"com/example/honest_replica/honestreplica/model/Entity", "equals", "(Ljava/lang/Object;)Z"⟩ : MethodName)) hown (mvT hZ (hw _ (List.mem_of_getElem? (i := 29) rfl))) (mvT hZ (hw _ (List.mem_of_getElem? (i := 30) rfl))) (notFace_of_selects (args := #[]) (mvT hZ (hw _ (List.mem_of_getElem? (i := 32) rfl)))) (mvT hZ (hw _ (List.mem_of_getElem? (i := 32) rfl))) (mvT hZ (hw _ (List.mem_of_getElem? (i := 31) rfl))) (by decide) (backOf (W := 0) (rm_qn l Z a0 hw [] b4 T8.heap n0 O) hZ (hw _ (List.mem_of_getElem? (i := 33) rfl)) (hw _ (List.mem_of_getElem? (i := 10) rfl)) (by decide) (by decide)) q34a q34c (g := (mkF m 120 #[.val (.int k1), .val (.int i1), .val (.int k2), .val (.int i2), .val (.int mode), .val (.ref kd1), .val (.ref kd2), .val (.int (i1 &&& (2147483647 : Int32))), .val (.int (i2 &&& (2147483647 : Int32))), .val (.ref b4), .val (.ref b6), .val (.ref bx8), .val (.int (0 : Int32)), .val (.int (0 : Int32)), .val (.int (0 : Int32)), .val (.int (1 : Int32)), .unset, .unset] [.null, (.ref b4)])) rfl (by rw [hml]; rfl) (Steps.refl _) (argsL := [.null]) (rest := []) (lenOf pd_rm1_3 rfl) rfl (by show 2 * 0 + _ ≤ _; exact Nat.le_of_eq rfl) (hb hby at_120) (fun _ _ => ⟨rfl, e33, (by decide : 3 + 0 ≤ _), (by decide : 5 + 0 ≤ _)⟩)
      dsimp only [Pt.U, Pt.locs, Pt.cells, Pt.slots] at X34 l34 y34 z34 st34 hQ34
      subst l34 y34 z34
      obtain ⟨rfl, Nq34, e34⟩ := hQ34
      replace N := Fr.app N Nq34
      refine Go.by (T' := T34) (f' := (mkF m 123 #[.val (.int k1), .val (.int i1), .val (.int k2), .val (.int i2), .val (.int mode), .val (.ref kd1), .val (.ref kd2), .val (.int (i1 &&& (2147483647 : Int32))), .val (.int (i2 &&& (2147483647 : Int32))), .val (.ref b4), .val (.ref b6), .val (.ref bx8), .val (.int (0 : Int32)), .val (.int (0 : Int32)), .val (.int (0 : Int32)), .val (.int (1 : Int32)), .unset, .unset] [(.int (0 : Int32))])) (fun _ k => st34.trans k) ?_
      refine Go.by (T' := T34) (f' := (mkF m 125 #[.val (.int k1), .val (.int i1), .val (.int k2), .val (.int i2), .val (.int mode), .val (.ref kd1), .val (.ref kd2), .val (.int (i1 &&& (2147483647 : Int32))), .val (.int (i2 &&& (2147483647 : Int32))), .val (.ref b4), .val (.ref b6), .val (.ref bx8), .val (.int (0 : Int32)), .val (.int (0 : Int32)), .val (.int (0 : Int32)), .val (.int (1 : Int32)), .val (.int (0 : Int32)), .unset] [])) (fun _ k => XS.istore X34.here hx rfl (hb hby at_123) rfl (l' := #[.val (.int k1), .val (.int i1), .val (.int k2), .val (.int i2), .val (.int mode), .val (.ref kd1), .val (.ref kd2), .val (.int (i1 &&& (2147483647 : Int32))), .val (.int (i2 &&& (2147483647 : Int32))), .val (.ref b4), .val (.ref b6), .val (.ref bx8), .val (.int (0 : Int32)), .val (.int (0 : Int32)), .val (.int (0 : Int32)), .val (.int (1 : Int32)), .val (.int (0 : Int32)), .unset]) rfl k) ?_
      refine Go.by (T' := T34) (f' := (mkF m 127 #[.val (.int k1), .val (.int i1), .val (.int k2), .val (.int i2), .val (.int mode), .val (.ref kd1), .val (.ref kd2), .val (.int (i1 &&& (2147483647 : Int32))), .val (.int (i2 &&& (2147483647 : Int32))), .val (.ref b4), .val (.ref b6), .val (.ref bx8), .val (.int (0 : Int32)), .val (.int (0 : Int32)), .val (.int (0 : Int32)), .val (.int (1 : Int32)), .val (.int (0 : Int32)), .unset] [(.ref b4)])) (fun _ k => XS.aload X34.here hx rfl (hb hby at_125) rfl rfl k) ?_
      refine Go.by (T' := T34) (f' := (mkF m 129 #[.val (.int k1), .val (.int i1), .val (.int k2), .val (.int i2), .val (.int mode), .val (.ref kd1), .val (.ref kd2), .val (.int (i1 &&& (2147483647 : Int32))), .val (.int (i2 &&& (2147483647 : Int32))), .val (.ref b4), .val (.ref b6), .val (.ref bx8), .val (.int (0 : Int32)), .val (.int (0 : Int32)), .val (.int (0 : Int32)), .val (.int (1 : Int32)), .val (.int (0 : Int32)), .unset] [(.ref bx8), (.ref b4)])) (fun _ k => XS.aload X34.here hx rfl (hb hby at_127) rfl rfl k) ?_
      obtain ⟨cq35, kq35, q35a, q35b, q35c⟩ := isOf hZ e34 E_b4
      obtain ⟨v35, _, ⟨T35, L35, k35, n35⟩, -, X35, ⟨Lc35, hQ35, l35, y35, z35⟩, st35⟩ := X34.virtualBack hx (y := (⟨"com/example/honest_replica/honestreplica/model/Entity", "equals", "(Ljava/lang/Object;)Z"⟩ : MethodName)) (z := (⟨"com/example/honest_replica/honestreplica/model/Entity", "equals", "(Ljava/lang/Object;)Z"⟩ : MethodName)) hown (mvT hZ (hw _ (List.mem_of_getElem? (i := 29) rfl))) (mvT hZ (hw _ (List.mem_of_getElem? (i := 30) rfl))) (notFace_of_selects (args := #[]) (mvT hZ (hw _ (List.mem_of_getElem? (i := 32) rfl)))) (mvT hZ (hw _ (List.mem_of_getElem? (i := 32) rfl))) (mvT hZ (hw _ (List.mem_of_getElem? (i := 31) rfl))) (by decide) (backOf (W := 0) (rm_qi l Z a0 hw [] b4 bx8 T8.heap n0 O E_bx8) hZ (hw _ (List.mem_of_getElem? (i := 33) rfl)) (hw _ (List.mem_of_getElem? (i := 10) rfl)) (by decide) (by decide)) q35a q35c (g := (mkF m 129 #[.val (.int k1), .val (.int i1), .val (.int k2), .val (.int i2), .val (.int mode), .val (.ref kd1), .val (.ref kd2), .val (.int (i1 &&& (2147483647 : Int32))), .val (.int (i2 &&& (2147483647 : Int32))), .val (.ref b4), .val (.ref b6), .val (.ref bx8), .val (.int (0 : Int32)), .val (.int (0 : Int32)), .val (.int (0 : Int32)), .val (.int (1 : Int32)), .val (.int (0 : Int32)), .unset] [(.ref bx8), (.ref b4)])) rfl (by rw [hml]; rfl) (Steps.refl _) (argsL := [(.ref bx8)]) (rest := []) (lenOf pd_rm1_3 rfl) rfl (by show 2 * 0 + _ ≤ _; exact Nat.le_of_eq rfl) (hb hby at_129) (fun _ _ => ⟨rfl, e34, (by decide : 3 + 0 ≤ _), (by decide : 5 + 0 ≤ _)⟩)
      dsimp only [Pt.U, Pt.locs, Pt.cells, Pt.slots] at X35 l35 y35 z35 st35 hQ35
      subst l35 y35 z35
      obtain ⟨rfl, Nq35, e35⟩ := hQ35
      replace N := Fr.app N Nq35
      refine Go.by (T' := T35) (f' := (mkF m 132 #[.val (.int k1), .val (.int i1), .val (.int k2), .val (.int i2), .val (.int mode), .val (.ref kd1), .val (.ref kd2), .val (.int (i1 &&& (2147483647 : Int32))), .val (.int (i2 &&& (2147483647 : Int32))), .val (.ref b4), .val (.ref b6), .val (.ref bx8), .val (.int (0 : Int32)), .val (.int (0 : Int32)), .val (.int (0 : Int32)), .val (.int (1 : Int32)), .val (.int (0 : Int32)), .unset] [(.int (0 : Int32))])) (fun _ k => st35.trans k) ?_
      refine Go.by (T' := T35) (f' := (mkF m 134 #[.val (.int k1), .val (.int i1), .val (.int k2), .val (.int i2), .val (.int mode), .val (.ref kd1), .val (.ref kd2), .val (.int (i1 &&& (2147483647 : Int32))), .val (.int (i2 &&& (2147483647 : Int32))), .val (.ref b4), .val (.ref b6), .val (.ref bx8), .val (.int (0 : Int32)), .val (.int (0 : Int32)), .val (.int (0 : Int32)), .val (.int (1 : Int32)), .val (.int (0 : Int32)), .val (.int (0 : Int32))] [])) (fun _ k => XS.istore X35.here hx rfl (hb hby at_132) rfl (l' := #[.val (.int k1), .val (.int i1), .val (.int k2), .val (.int i2), .val (.int mode), .val (.ref kd1), .val (.ref kd2), .val (.int (i1 &&& (2147483647 : Int32))), .val (.int (i2 &&& (2147483647 : Int32))), .val (.ref b4), .val (.ref b6), .val (.ref bx8), .val (.int (0 : Int32)), .val (.int (0 : Int32)), .val (.int (0 : Int32)), .val (.int (1 : Int32)), .val (.int (0 : Int32)), .val (.int (0 : Int32))]) rfl k) ?_
      refine Go.by (T' := T35) (f' := (mkF m 136 #[.val (.int k1), .val (.int i1), .val (.int k2), .val (.int i2), .val (.int mode), .val (.ref kd1), .val (.ref kd2), .val (.int (i1 &&& (2147483647 : Int32))), .val (.int (i2 &&& (2147483647 : Int32))), .val (.ref b4), .val (.ref b6), .val (.ref bx8), .val (.int (0 : Int32)), .val (.int (0 : Int32)), .val (.int (0 : Int32)), .val (.int (1 : Int32)), .val (.int (0 : Int32)), .val (.int (0 : Int32))] [(.int (0 : Int32))])) (fun _ k => XS.iload X35.here hx rfl (hb hby at_134) rfl k) ?_
      refine Go.by (T' := T35) (f' := (mkF m 138 #[.val (.int k1), .val (.int i1), .val (.int k2), .val (.int i2), .val (.int mode), .val (.ref kd1), .val (.ref kd2), .val (.int (i1 &&& (2147483647 : Int32))), .val (.int (i2 &&& (2147483647 : Int32))), .val (.ref b4), .val (.ref b6), .val (.ref bx8), .val (.int (0 : Int32)), .val (.int (0 : Int32)), .val (.int (0 : Int32)), .val (.int (1 : Int32)), .val (.int (0 : Int32)), .val (.int (0 : Int32))] [(.int (0 : Int32)), (.int (0 : Int32))])) (fun _ k => XS.iload X35.here hx rfl (hb hby at_136) rfl k) ?_
      refine Go.by (T' := T35) (f' := (mkF m 141 #[.val (.int k1), .val (.int i1), .val (.int k2), .val (.int i2), .val (.int mode), .val (.ref kd1), .val (.ref kd2), .val (.int (i1 &&& (2147483647 : Int32))), .val (.int (i2 &&& (2147483647 : Int32))), .val (.ref b4), .val (.ref b6), .val (.ref bx8), .val (.int (0 : Int32)), .val (.int (0 : Int32)), .val (.int (0 : Int32)), .val (.int (1 : Int32)), .val (.int (0 : Int32)), .val (.int (0 : Int32))] [])) (fun _ k => XS.icmpNo X35.here hx rfl (hb hby at_138) rfl (teq (by decide : (0 : Int32) = (0 : Int32))).2 k) ?_
      refine Go.by (T' := T35) (f' := (mkF m 143 #[.val (.int k1), .val (.int i1), .val (.int k2), .val (.int i2), .val (.int mode), .val (.ref kd1), .val (.ref kd2), .val (.int (i1 &&& (2147483647 : Int32))), .val (.int (i2 &&& (2147483647 : Int32))), .val (.ref b4), .val (.ref b6), .val (.ref bx8), .val (.int (0 : Int32)), .val (.int (0 : Int32)), .val (.int (0 : Int32)), .val (.int (1 : Int32)), .val (.int (0 : Int32)), .val (.int (0 : Int32))] [(.int (0 : Int32))])) (fun _ k => XS.iload X35.here hx rfl (hb hby at_141) rfl k) ?_
      refine Go.by (T' := T35) (f' := (mkF m 145 #[.val (.int k1), .val (.int i1), .val (.int k2), .val (.int i2), .val (.int mode), .val (.ref kd1), .val (.ref kd2), .val (.int (i1 &&& (2147483647 : Int32))), .val (.int (i2 &&& (2147483647 : Int32))), .val (.ref b4), .val (.ref b6), .val (.ref bx8), .val (.int (0 : Int32)), .val (.int (0 : Int32)), .val (.int (0 : Int32)), .val (.int (1 : Int32)), .val (.int (0 : Int32)), .val (.int (0 : Int32))] [(.int (0 : Int32)), (.int (0 : Int32))])) (fun _ k => XS.iload X35.here hx rfl (hb hby at_143) rfl k) ?_
      refine Go.by (T' := T35) (f' := (mkF m 148 #[.val (.int k1), .val (.int i1), .val (.int k2), .val (.int i2), .val (.int mode), .val (.ref kd1), .val (.ref kd2), .val (.int (i1 &&& (2147483647 : Int32))), .val (.int (i2 &&& (2147483647 : Int32))), .val (.ref b4), .val (.ref b6), .val (.ref bx8), .val (.int (0 : Int32)), .val (.int (0 : Int32)), .val (.int (0 : Int32)), .val (.int (1 : Int32)), .val (.int (0 : Int32)), .val (.int (0 : Int32))] [])) (fun _ k => XS.icmpNo X35.here hx rfl (hb hby at_145) rfl (teq (by decide : (0 : Int32) = (0 : Int32))).2 k) ?_
      refine Go.by (T' := T35) (f' := (mkF m 150 #[.val (.int k1), .val (.int i1), .val (.int k2), .val (.int i2), .val (.int mode), .val (.ref kd1), .val (.ref kd2), .val (.int (i1 &&& (2147483647 : Int32))), .val (.int (i2 &&& (2147483647 : Int32))), .val (.ref b4), .val (.ref b6), .val (.ref bx8), .val (.int (0 : Int32)), .val (.int (0 : Int32)), .val (.int (0 : Int32)), .val (.int (1 : Int32)), .val (.int (0 : Int32)), .val (.int (0 : Int32))] [(.int (1 : Int32))])) (fun _ k => XS.iload X35.here hx rfl (hb hby at_148) rfl k) ?_
      refine Go.by (T' := T35) (f' := (mkF m 153 #[.val (.int k1), .val (.int i1), .val (.int k2), .val (.int i2), .val (.int mode), .val (.ref kd1), .val (.ref kd2), .val (.int (i1 &&& (2147483647 : Int32))), .val (.int (i2 &&& (2147483647 : Int32))), .val (.ref b4), .val (.ref b6), .val (.ref bx8), .val (.int (0 : Int32)), .val (.int (0 : Int32)), .val (.int (0 : Int32)), .val (.int (1 : Int32)), .val (.int (0 : Int32)), .val (.int (0 : Int32))] [])) (fun _ k => XS.ifNo X35.here hx rfl (hb hby at_150) rfl ((if0 _ _).trans (feq (by decide : ¬ ((1 : Int32) = (0 : Int32)))).1) k) ?_
      refine Go.by (T' := T35) (f' := (mkF m 155 #[.val (.int k1), .val (.int i1), .val (.int k2), .val (.int i2), .val (.int mode), .val (.ref kd1), .val (.ref kd2), .val (.int (i1 &&& (2147483647 : Int32))), .val (.int (i2 &&& (2147483647 : Int32))), .val (.ref b4), .val (.ref b6), .val (.ref bx8), .val (.int (0 : Int32)), .val (.int (0 : Int32)), .val (.int (0 : Int32)), .val (.int (1 : Int32)), .val (.int (0 : Int32)), .val (.int (0 : Int32))] [(.int (0 : Int32))])) (fun _ k => XS.iload X35.here hx rfl (hb hby at_153) rfl k) ?_
      refine Go.by (T' := T35) (f' := (mkF m 158 #[.val (.int k1), .val (.int i1), .val (.int k2), .val (.int i2), .val (.int mode), .val (.ref kd1), .val (.ref kd2), .val (.int (i1 &&& (2147483647 : Int32))), .val (.int (i2 &&& (2147483647 : Int32))), .val (.ref b4), .val (.ref b6), .val (.ref bx8), .val (.int (0 : Int32)), .val (.int (0 : Int32)), .val (.int (0 : Int32)), .val (.int (1 : Int32)), .val (.int (0 : Int32)), .val (.int (0 : Int32))] [])) (fun _ k => XS.ifNo X35.here hx rfl (hb hby at_155) rfl ((if0 _ _).trans (teq (by decide : (0 : Int32) = (0 : Int32))).2) k) ?_
      refine Go.by (T' := T35) (f' := (mkF m 160 #[.val (.int k1), .val (.int i1), .val (.int k2), .val (.int i2), .val (.int mode), .val (.ref kd1), .val (.ref kd2), .val (.int (i1 &&& (2147483647 : Int32))), .val (.int (i2 &&& (2147483647 : Int32))), .val (.ref b4), .val (.ref b6), .val (.ref bx8), .val (.int (0 : Int32)), .val (.int (0 : Int32)), .val (.int (0 : Int32)), .val (.int (1 : Int32)), .val (.int (0 : Int32)), .val (.int (0 : Int32))] [(.int (0 : Int32))])) (fun _ k => XS.iload X35.here hx rfl (hb hby at_158) rfl k) ?_
      refine Go.by (T' := T35) (f' := (mkF m 163 #[.val (.int k1), .val (.int i1), .val (.int k2), .val (.int i2), .val (.int mode), .val (.ref kd1), .val (.ref kd2), .val (.int (i1 &&& (2147483647 : Int32))), .val (.int (i2 &&& (2147483647 : Int32))), .val (.ref b4), .val (.ref b6), .val (.ref bx8), .val (.int (0 : Int32)), .val (.int (0 : Int32)), .val (.int (0 : Int32)), .val (.int (1 : Int32)), .val (.int (0 : Int32)), .val (.int (0 : Int32))] [])) (fun _ k => XS.ifNo X35.here hx rfl (hb hby at_160) rfl ((if0 _ _).trans (teq (by decide : (0 : Int32) = (0 : Int32))).2) k) ?_
      refine Go.by (T' := T35) (f' := (mkF m 164 #[.val (.int k1), .val (.int i1), .val (.int k2), .val (.int i2), .val (.int mode), .val (.ref kd1), .val (.ref kd2), .val (.int (i1 &&& (2147483647 : Int32))), .val (.int (i2 &&& (2147483647 : Int32))), .val (.ref b4), .val (.ref b6), .val (.ref bx8), .val (.int (0 : Int32)), .val (.int (0 : Int32)), .val (.int (0 : Int32)), .val (.int (1 : Int32)), .val (.int (0 : Int32)), .val (.int (0 : Int32))] [(.int (1 : Int32))])) (fun _ k => XS.iconst X35.here hx rfl (hb hby at_163) k) ?_
      refine Go.by (T' := T35) (f' := (mkF m 168 #[.val (.int k1), .val (.int i1), .val (.int k2), .val (.int i2), .val (.int mode), .val (.ref kd1), .val (.ref kd2), .val (.int (i1 &&& (2147483647 : Int32))), .val (.int (i2 &&& (2147483647 : Int32))), .val (.ref b4), .val (.ref b6), .val (.ref bx8), .val (.int (0 : Int32)), .val (.int (0 : Int32)), .val (.int (0 : Int32)), .val (.int (1 : Int32)), .val (.int (0 : Int32)), .val (.int (0 : Int32))] [(.int (1 : Int32))])) (fun _ k => XS.goto X35.here hx rfl (pc0 := 164) (pc' := 168) rfl (hb hby at_164) (by decide) (by decide) k) ?_
      obtain ⟨fs, hr, hrun, hended, hW, hsame⟩ := X35.leave (v := some (.int (1 : Int32))) (fun h => by rw [Bd.returns] at h; cases h)
      refine ⟨_, _, retN X35 hx (t := .boolean) Bd.returns (by simp) (hb hby at_168) hr, hrun, hended, _, _, rfl, ?_, ⟨_, rfl⟩, hW, hsame.mono (by decide) (by decide)⟩
      show Q1 n0 (some (.int (1 : Int32))) T35.heap _
      rw [e35]
      exact ⟨rfl, N⟩
  · skip
    refine Go.by (T' := T2) (f' := (mkF m 25 #[.val (.int k1), .val (.int i1), .val (.int k2), .val (.int i2), .val (.int mode), .val (.ref kd1), .val (.ref kd2), .val (.int (i1 &&& (2147483647 : Int32))), .unset, .unset, .unset, .unset, .unset, .unset, .unset, .unset, .unset, .unset] [])) (fun _ k => XS.ifNo X2.here hx rfl (hb hby at_22) rfl ((if0 _ _).trans (feq hc22_3).1) k) ?_
    refine Go.by (T' := T2) (f' := (mkF m 27 #[.val (.int k1), .val (.int i1), .val (.int k2), .val (.int i2), .val (.int mode), .val (.ref kd1), .val (.ref kd2), .val (.int (i1 &&& (2147483647 : Int32))), .unset, .unset, .unset, .unset, .unset, .unset, .unset, .unset, .unset, .unset] [(.int (i1 &&& (2147483647 : Int32)))])) (fun _ k => XS.iload X2.here hx rfl (hb hby at_25) rfl k) ?_
    refine Go.by (T' := T2) (f' := (mkF m 34 #[.val (.int k1), .val (.int i1), .val (.int k2), .val (.int i2), .val (.int mode), .val (.ref kd1), .val (.ref kd2), .val (.int (i1 &&& (2147483647 : Int32))), .unset, .unset, .unset, .unset, .unset, .unset, .unset, .unset, .unset, .unset] [(.int (i1 &&& (2147483647 : Int32)))])) (fun _ k => XS.goto X2.here hx rfl (pc0 := 27) (pc' := 34) rfl (hb hby at_27) (by decide) (by decide) k) ?_
    refine Go.by (T' := T2) (f' := (mkF m 36 #[.val (.int k1), .val (.int i1), .val (.int k2), .val (.int i2), .val (.int mode), .val (.ref kd1), .val (.ref kd2), .val (.int (i1 &&& (2147483647 : Int32))), .val (.int (i1 &&& (2147483647 : Int32))), .unset, .unset, .unset, .unset, .unset, .unset, .unset, .unset, .unset] [])) (fun _ k => XS.istore X2.here hx rfl (hb hby at_34) rfl (l' := #[.val (.int k1), .val (.int i1), .val (.int k2), .val (.int i2), .val (.int mode), .val (.ref kd1), .val (.ref kd2), .val (.int (i1 &&& (2147483647 : Int32))), .val (.int (i1 &&& (2147483647 : Int32))), .unset, .unset, .unset, .unset, .unset, .unset, .unset, .unset, .unset]) rfl k) ?_
    obtain ⟨T41, h41, X41, e41, E41, A41, D41, -, st41⟩ := newO X2 hx hZ hown (hw _ (List.mem_of_getElem? (i := 8) rfl)) (hw _ (List.mem_of_getElem? (i := 9) rfl)) (hw _ (List.mem_of_getElem? (i := 10) rfl)) e2 (g := (mkF m 36 #[.val (.int k1), .val (.int i1), .val (.int k2), .val (.int i2), .val (.int mode), .val (.ref kd1), .val (.ref kd2), .val (.int (i1 &&& (2147483647 : Int32))), .val (.int (i1 &&& (2147483647 : Int32))), .unset, .unset, .unset, .unset, .unset, .unset, .unset, .unset, .unset] [])) rfl (hb hby at_36) (by decide) (by decide)
    obtain ⟨b41, g41⟩ : ∃ z, z = h0.size := ⟨_, rfl⟩
    rw [← g41] at A41 D41 st41
    have ne_wU_b41 : wU ≠ b41 := Nat.ne_of_lt (Nat.lt_of_lt_of_le E_wU.lt (Nat.le_of_eq g41.symm))
    have ne_wR_b41 : wR ≠ b41 := Nat.ne_of_lt (Nat.lt_of_lt_of_le E_wR.lt (Nat.le_of_eq g41.symm))
    have g_b41 : n0 ≤ b41 := Nat.le_trans (Old.le O) (Nat.le_of_eq g41.symm)
    have sz_b41 : h0.size ≤ b41 := Nat.le_trans K.1 (Nat.le_of_eq g41.symm)
    replace E_wU := E_wU.ext E41
    replace E_wR := E_wR.ext E41
    replace O := O.ext E41
    replace K := K.ext E41
    have E_b41 := A41
    have F_kind_b41 : Fld Z h41 b41 "com/example/honest_replica/honestreplica/model/Entity" "kind" "Lcom/example/honest_replica/honestreplica/model/Credential$Kind;" .null := D41 (Or.inr (hw _ (List.mem_of_getElem? (i := 19) rfl))) (ty := (.object "com/example/honest_replica/honestreplica/model/Credential$Kind")) (by decide)
    have F_id_b41 : Fld Z h41 b41 "com/example/honest_replica/honestreplica/model/Entity" "id" "I" (.int (0 : Int32)) := D41 (Or.inr (hw _ (List.mem_of_getElem? (i := 21) rfl))) (ty := .int) (by decide)
    refine Go.by (T' := T41) (f' := (mkF m 39 #[.val (.int k1), .val (.int i1), .val (.int k2), .val (.int i2), .val (.int mode), .val (.ref kd1), .val (.ref kd2), .val (.int (i1 &&& (2147483647 : Int32))), .val (.int (i1 &&& (2147483647 : Int32))), .unset, .unset, .unset, .unset, .unset, .unset, .unset, .unset, .unset] [(.ref b41)])) (st41) ?_
    refine Go.by (T' := T41) (f' := (mkF m 40 #[.val (.int k1), .val (.int i1), .val (.int k2), .val (.int i2), .val (.int mode), .val (.ref kd1), .val (.ref kd2), .val (.int (i1 &&& (2147483647 : Int32))), .val (.int (i1 &&& (2147483647 : Int32))), .unset, .unset, .unset, .unset, .unset, .unset, .unset, .unset, .unset] [(.ref b41), (.ref b41)])) (fun _ k => XS.dup X41.here hx rfl (hb hby at_39) rfl rfl k) ?_
    refine Go.by (T' := T41) (f' := (mkF m 42 #[.val (.int k1), .val (.int i1), .val (.int k2), .val (.int i2), .val (.int mode), .val (.ref kd1), .val (.ref kd2), .val (.int (i1 &&& (2147483647 : Int32))), .val (.int (i1 &&& (2147483647 : Int32))), .unset, .unset, .unset, .unset, .unset, .unset, .unset, .unset, .unset] [(.ref kd1), (.ref b41), (.ref b41)])) (fun _ k => XS.aload X41.here hx rfl (hb hby at_40) rfl rfl k) ?_
    refine Go.by (T' := T41) (f' := (mkF m 44 #[.val (.int k1), .val (.int i1), .val (.int k2), .val (.int i2), .val (.int mode), .val (.ref kd1), .val (.ref kd2), .val (.int (i1 &&& (2147483647 : Int32))), .val (.int (i1 &&& (2147483647 : Int32))), .unset, .unset, .unset, .unset, .unset, .unset, .unset, .unset, .unset] [(.int (i1 &&& (2147483647 : Int32))), (.ref kd1), (.ref b41), (.ref b41)])) (fun _ k => XS.iload X41.here hx rfl (hb hby at_42) rfl k) ?_
    obtain ⟨v42, _, ⟨T42, L42, k42, n42⟩, -, X42, ⟨Lc42, hQ42, l42, y42, z42⟩, st42⟩ := X41.specialBack hx (y := (⟨"com/example/honest_replica/honestreplica/model/Entity", "<init>", "(Lcom/example/honest_replica/honestreplica/model/Credential$Kind;I)V"⟩ : MethodName)) rfl hown (mvT hZ (hw _ (List.mem_of_getElem? (i := 11) rfl))) (mvT hZ (hw _ (List.mem_of_getElem? (i := 12) rfl))) (mvT hZ (hw _ (List.mem_of_getElem? (i := 13) rfl))) (by decide) (backOf (W := 1) (rm_e l Z a0 hw [] b41 kd1 (i1 &&& (2147483647 : Int32)) wU wR wc cl hS hkd1 (own_nn i1) h41 n0 O E_b41 F_kind_b41 F_id_b41 g_b41) hZ (hw _ (List.mem_of_getElem? (i := 13) rfl)) (hw _ (List.mem_of_getElem? (i := 10) rfl)) (by decide) (by decide)) (g := (mkF m 44 #[.val (.int k1), .val (.int i1), .val (.int k2), .val (.int i2), .val (.int mode), .val (.ref kd1), .val (.ref kd2), .val (.int (i1 &&& (2147483647 : Int32))), .val (.int (i1 &&& (2147483647 : Int32))), .unset, .unset, .unset, .unset, .unset, .unset, .unset, .unset, .unset] [(.int (i1 &&& (2147483647 : Int32))), (.ref kd1), (.ref b41), (.ref b41)])) rfl (by rw [hml]; rfl) (Steps.refl _) (a := b41) (argsL := [(.ref kd1), (.int (i1 &&& (2147483647 : Int32)))]) (rest := [(.ref b41)]) (lenOf pd_rm1_1 rfl) rfl (by show 2 * 0 + _ ≤ _; exact Nat.le_of_eq rfl) (hb hby at_44) (fun _ _ => ⟨rfl, e41, (by decide : 1 + 0 ≤ _), (by decide : 2 + 0 ≤ _)⟩)
    dsimp only [Pt.U, Pt.locs, Pt.cells, Pt.slots] at X42 l42 y42 z42 st42 hQ42
    subst l42 y42 z42
    obtain ⟨rfl, Nq42, K42, Gk42, Gi42⟩ := hQ42
    replace N := Fr.app N Nq42
    replace E_wU := E_wU.keep K42
    replace E_wR := E_wR.keep K42
    replace E_b41 := E_b41.keep K42
    replace O := O.keep K42 (allS g_b41 all0)
    replace K := K.trans K42 (allS (Or.inr sz_b41) all0)
    refine Go.by (T' := T42) (f' := (mkF m 47 #[.val (.int k1), .val (.int i1), .val (.int k2), .val (.int i2), .val (.int mode), .val (.ref kd1), .val (.ref kd2), .val (.int (i1 &&& (2147483647 : Int32))), .val (.int (i1 &&& (2147483647 : Int32))), .unset, .unset, .unset, .unset, .unset, .unset, .unset, .unset, .unset] [(.ref b41)])) (fun _ k => st42.trans k) ?_
    refine Go.by (T' := T42) (f' := (mkF m 49 #[.val (.int k1), .val (.int i1), .val (.int k2), .val (.int i2), .val (.int mode), .val (.ref kd1), .val (.ref kd2), .val (.int (i1 &&& (2147483647 : Int32))), .val (.int (i1 &&& (2147483647 : Int32))), .val (.ref b41), .unset, .unset, .unset, .unset, .unset, .unset, .unset, .unset] [])) (fun _ k => XS.astore X42.here hx rfl (hb hby at_47) rfl rfl (l' := #[.val (.int k1), .val (.int i1), .val (.int k2), .val (.int i2), .val (.int mode), .val (.ref kd1), .val (.ref kd2), .val (.int (i1 &&& (2147483647 : Int32))), .val (.int (i1 &&& (2147483647 : Int32))), .val (.ref b41), .unset, .unset, .unset, .unset, .unset, .unset, .unset, .unset]) rfl k) ?_
    obtain ⟨T43, h43, X43, e43, E43, A43, D43, -, st43⟩ := newO X42 hx hZ hown (hw _ (List.mem_of_getElem? (i := 8) rfl)) (hw _ (List.mem_of_getElem? (i := 9) rfl)) (hw _ (List.mem_of_getElem? (i := 10) rfl)) rfl (g := (mkF m 49 #[.val (.int k1), .val (.int i1), .val (.int k2), .val (.int i2), .val (.int mode), .val (.ref kd1), .val (.ref kd2), .val (.int (i1 &&& (2147483647 : Int32))), .val (.int (i1 &&& (2147483647 : Int32))), .val (.ref b41), .unset, .unset, .unset, .unset, .unset, .unset, .unset, .unset] [])) rfl (hb hby at_49) (by decide) (by decide)
    obtain ⟨b43, g43⟩ : ∃ z, z = T42.heap.size := ⟨_, rfl⟩
    rw [← g43] at A43 D43 st43
    have ne_wU_b43 : wU ≠ b43 := Nat.ne_of_lt (Nat.lt_of_lt_of_le E_wU.lt (Nat.le_of_eq g43.symm))
    have ne_wR_b43 : wR ≠ b43 := Nat.ne_of_lt (Nat.lt_of_lt_of_le E_wR.lt (Nat.le_of_eq g43.symm))
    have ne_b41_b43 : b41 ≠ b43 := Nat.ne_of_lt (Nat.lt_of_lt_of_le E_b41.lt (Nat.le_of_eq g43.symm))
    have g_b43 : n0 ≤ b43 := Nat.le_trans (Old.le O) (Nat.le_of_eq g43.symm)
    have sz_b43 : h0.size ≤ b43 := Nat.le_trans K.1 (Nat.le_of_eq g43.symm)
    replace E_wU := E_wU.ext E43
    replace E_wR := E_wR.ext E43
    replace E_b41 := E_b41.ext E43
    replace Gk42 := Gk42.ext E43
    replace Gi42 := Gi42.ext E43
    replace O := O.ext E43
    replace K := K.ext E43
    have E_b43 := A43
    have F_kind_b43 : Fld Z h43 b43 "com/example/honest_replica/honestreplica/model/Entity" "kind" "Lcom/example/honest_replica/honestreplica/model/Credential$Kind;" .null := D43 (Or.inr (hw _ (List.mem_of_getElem? (i := 19) rfl))) (ty := (.object "com/example/honest_replica/honestreplica/model/Credential$Kind")) (by decide)
    have F_id_b43 : Fld Z h43 b43 "com/example/honest_replica/honestreplica/model/Entity" "id" "I" (.int (0 : Int32)) := D43 (Or.inr (hw _ (List.mem_of_getElem? (i := 21) rfl))) (ty := .int) (by decide)
    refine Go.by (T' := T43) (f' := (mkF m 52 #[.val (.int k1), .val (.int i1), .val (.int k2), .val (.int i2), .val (.int mode), .val (.ref kd1), .val (.ref kd2), .val (.int (i1 &&& (2147483647 : Int32))), .val (.int (i1 &&& (2147483647 : Int32))), .val (.ref b41), .unset, .unset, .unset, .unset, .unset, .unset, .unset, .unset] [(.ref b43)])) (st43) ?_
    refine Go.by (T' := T43) (f' := (mkF m 53 #[.val (.int k1), .val (.int i1), .val (.int k2), .val (.int i2), .val (.int mode), .val (.ref kd1), .val (.ref kd2), .val (.int (i1 &&& (2147483647 : Int32))), .val (.int (i1 &&& (2147483647 : Int32))), .val (.ref b41), .unset, .unset, .unset, .unset, .unset, .unset, .unset, .unset] [(.ref b43), (.ref b43)])) (fun _ k => XS.dup X43.here hx rfl (hb hby at_52) rfl rfl k) ?_
    refine Go.by (T' := T43) (f' := (mkF m 55 #[.val (.int k1), .val (.int i1), .val (.int k2), .val (.int i2), .val (.int mode), .val (.ref kd1), .val (.ref kd2), .val (.int (i1 &&& (2147483647 : Int32))), .val (.int (i1 &&& (2147483647 : Int32))), .val (.ref b41), .unset, .unset, .unset, .unset, .unset, .unset, .unset, .unset] [(.ref kd2), (.ref b43), (.ref b43)])) (fun _ k => XS.aload X43.here hx rfl (hb hby at_53) rfl rfl k) ?_
    refine Go.by (T' := T43) (f' := (mkF m 57 #[.val (.int k1), .val (.int i1), .val (.int k2), .val (.int i2), .val (.int mode), .val (.ref kd1), .val (.ref kd2), .val (.int (i1 &&& (2147483647 : Int32))), .val (.int (i1 &&& (2147483647 : Int32))), .val (.ref b41), .unset, .unset, .unset, .unset, .unset, .unset, .unset, .unset] [(.int (i1 &&& (2147483647 : Int32))), (.ref kd2), (.ref b43), (.ref b43)])) (fun _ k => XS.iload X43.here hx rfl (hb hby at_55) rfl k) ?_
    obtain ⟨v44, _, ⟨T44, L44, k44, n44⟩, -, X44, ⟨Lc44, hQ44, l44, y44, z44⟩, st44⟩ := X43.specialBack hx (y := (⟨"com/example/honest_replica/honestreplica/model/Entity", "<init>", "(Lcom/example/honest_replica/honestreplica/model/Credential$Kind;I)V"⟩ : MethodName)) rfl hown (mvT hZ (hw _ (List.mem_of_getElem? (i := 11) rfl))) (mvT hZ (hw _ (List.mem_of_getElem? (i := 12) rfl))) (mvT hZ (hw _ (List.mem_of_getElem? (i := 13) rfl))) (by decide) (backOf (W := 1) (rm_e l Z a0 hw [] b43 kd2 (i1 &&& (2147483647 : Int32)) wU wR wc cl hS hkd2 (own_nn i1) h43 n0 O E_b43 F_kind_b43 F_id_b43 g_b43) hZ (hw _ (List.mem_of_getElem? (i := 13) rfl)) (hw _ (List.mem_of_getElem? (i := 10) rfl)) (by decide) (by decide)) (g := (mkF m 57 #[.val (.int k1), .val (.int i1), .val (.int k2), .val (.int i2), .val (.int mode), .val (.ref kd1), .val (.ref kd2), .val (.int (i1 &&& (2147483647 : Int32))), .val (.int (i1 &&& (2147483647 : Int32))), .val (.ref b41), .unset, .unset, .unset, .unset, .unset, .unset, .unset, .unset] [(.int (i1 &&& (2147483647 : Int32))), (.ref kd2), (.ref b43), (.ref b43)])) rfl (by rw [hml]; rfl) (Steps.refl _) (a := b43) (argsL := [(.ref kd2), (.int (i1 &&& (2147483647 : Int32)))]) (rest := [(.ref b43)]) (lenOf pd_rm1_1 rfl) rfl (by show 2 * 0 + _ ≤ _; exact Nat.le_of_eq rfl) (hb hby at_57) (fun _ _ => ⟨rfl, e43, (by decide : 2 + 0 ≤ _), (by decide : 4 + 0 ≤ _)⟩)
    dsimp only [Pt.U, Pt.locs, Pt.cells, Pt.slots] at X44 l44 y44 z44 st44 hQ44
    subst l44 y44 z44
    obtain ⟨rfl, Nq44, K44, Gk44, Gi44⟩ := hQ44
    replace N := Fr.app N Nq44
    replace E_wU := E_wU.keep K44
    replace E_wR := E_wR.keep K44
    replace E_b41 := E_b41.keep K44
    replace Gk42 := Gk42.keep K44 (ninS ne_b41_b43 nin0)
    replace Gi42 := Gi42.keep K44 (ninS ne_b41_b43 nin0)
    replace E_b43 := E_b43.keep K44
    replace O := O.keep K44 (allS g_b43 all0)
    replace K := K.trans K44 (allS (Or.inr sz_b43) all0)
    refine Go.by (T' := T44) (f' := (mkF m 60 #[.val (.int k1), .val (.int i1), .val (.int k2), .val (.int i2), .val (.int mode), .val (.ref kd1), .val (.ref kd2), .val (.int (i1 &&& (2147483647 : Int32))), .val (.int (i1 &&& (2147483647 : Int32))), .val (.ref b41), .unset, .unset, .unset, .unset, .unset, .unset, .unset, .unset] [(.ref b43)])) (fun _ k => st44.trans k) ?_
    refine Go.by (T' := T44) (f' := (mkF m 62 #[.val (.int k1), .val (.int i1), .val (.int k2), .val (.int i2), .val (.int mode), .val (.ref kd1), .val (.ref kd2), .val (.int (i1 &&& (2147483647 : Int32))), .val (.int (i1 &&& (2147483647 : Int32))), .val (.ref b41), .val (.ref b43), .unset, .unset, .unset, .unset, .unset, .unset, .unset] [])) (fun _ k => XS.astore X44.here hx rfl (hb hby at_60) rfl rfl (l' := #[.val (.int k1), .val (.int i1), .val (.int k2), .val (.int i2), .val (.int mode), .val (.ref kd1), .val (.ref kd2), .val (.int (i1 &&& (2147483647 : Int32))), .val (.int (i1 &&& (2147483647 : Int32))), .val (.ref b41), .val (.ref b43), .unset, .unset, .unset, .unset, .unset, .unset, .unset]) rfl k) ?_
    refine Go.by (T' := T44) (f' := (mkF m 64 #[.val (.int k1), .val (.int i1), .val (.int k2), .val (.int i2), .val (.int mode), .val (.ref kd1), .val (.ref kd2), .val (.int (i1 &&& (2147483647 : Int32))), .val (.int (i1 &&& (2147483647 : Int32))), .val (.ref b41), .val (.ref b43), .unset, .unset, .unset, .unset, .unset, .unset, .unset] [(.int (i1 &&& (2147483647 : Int32)))])) (fun _ k => XS.iload X44.here hx rfl (hb hby at_62) rfl k) ?_
    obtain ⟨v45, _, ⟨T45, L45, k45, n45⟩, -, X45, ⟨Lc45, hQ45, l45, y45, z45⟩, st45⟩ := Jvm.LawKit.callS X44 hx (y := (⟨"java/lang/Integer", "valueOf", "(I)Ljava/lang/Integer;"⟩ : MethodName)) hown (mvT hZ (hw _ (List.mem_of_getElem? (i := 22) rfl))) (mvT hZ (hw _ (List.mem_of_getElem? (i := 23) rfl))) (mvT hZ (hw _ (List.mem_of_getElem? (i := 24) rfl))) (mvT hZ (hw _ (List.mem_of_getElem? (i := 25) rfl))) (by decide) (backOf (W := 0) (rm_vo l Z a0 hw [] (i1 &&& (2147483647 : Int32)) wU wR wc cl hS T44.heap n0 O) hZ (hw _ (List.mem_of_getElem? (i := 25) rfl)) (hw _ (List.mem_of_getElem? (i := 24) rfl)) (by decide) (by decide)) (g := (mkF m 64 #[.val (.int k1), .val (.int i1), .val (.int k2), .val (.int i2), .val (.int mode), .val (.ref kd1), .val (.ref kd2), .val (.int (i1 &&& (2147483647 : Int32))), .val (.int (i1 &&& (2147483647 : Int32))), .val (.ref b41), .val (.ref b43), .unset, .unset, .unset, .unset, .unset, .unset, .unset] [(.int (i1 &&& (2147483647 : Int32)))])) rfl (by rw [hml]; rfl) (argsL := [(.int (i1 &&& (2147483647 : Int32)))]) (rest := []) (lenOf pd_rm1_2 rfl) rfl (by show 2 * 0 + _ ≤ _; exact Nat.le_of_eq rfl) (hb hby at_64) (fun _ _ => ⟨rfl, rfl, (by decide : 2 + 1 ≤ _), (by decide : 4 + 1 ≤ _)⟩)
    dsimp only [Pt.U, Pt.locs, Pt.cells, Pt.slots] at X45 l45 y45 z45 st45 hQ45
    subst l45 y45 z45
    obtain ⟨bx45, rfl, Nq45, K45, E_bx45⟩ := hQ45
    replace N := Fr.app N Nq45
    replace E_wU := E_wU.keep K45
    replace E_wR := E_wR.keep K45
    replace E_b41 := E_b41.keep K45
    replace Gk42 := Gk42.keep K45 nin0
    replace Gi42 := Gi42.keep K45 nin0
    replace E_b43 := E_b43.keep K45
    replace Gk44 := Gk44.keep K45 nin0
    replace Gi44 := Gi44.keep K45 nin0
    replace O := O.keep K45 all0
    replace K := K.trans K45 all0
    refine Go.by (T' := T45) (f' := (mkF m 67 #[.val (.int k1), .val (.int i1), .val (.int k2), .val (.int i2), .val (.int mode), .val (.ref kd1), .val (.ref kd2), .val (.int (i1 &&& (2147483647 : Int32))), .val (.int (i1 &&& (2147483647 : Int32))), .val (.ref b41), .val (.ref b43), .unset, .unset, .unset, .unset, .unset, .unset, .unset] [(.ref bx45)])) (st45) ?_
    refine Go.by (T' := T45) (f' := (mkF m 69 #[.val (.int k1), .val (.int i1), .val (.int k2), .val (.int i2), .val (.int mode), .val (.ref kd1), .val (.ref kd2), .val (.int (i1 &&& (2147483647 : Int32))), .val (.int (i1 &&& (2147483647 : Int32))), .val (.ref b41), .val (.ref b43), .val (.ref bx45), .unset, .unset, .unset, .unset, .unset, .unset] [])) (fun _ k => XS.astore X45.here hx rfl (hb hby at_67) rfl rfl (l' := #[.val (.int k1), .val (.int i1), .val (.int k2), .val (.int i2), .val (.int mode), .val (.ref kd1), .val (.ref kd2), .val (.int (i1 &&& (2147483647 : Int32))), .val (.int (i1 &&& (2147483647 : Int32))), .val (.ref b41), .val (.ref b43), .val (.ref bx45), .unset, .unset, .unset, .unset, .unset, .unset]) rfl k) ?_
    refine Go.by (T' := T45) (f' := (mkF m 71 #[.val (.int k1), .val (.int i1), .val (.int k2), .val (.int i2), .val (.int mode), .val (.ref kd1), .val (.ref kd2), .val (.int (i1 &&& (2147483647 : Int32))), .val (.int (i1 &&& (2147483647 : Int32))), .val (.ref b41), .val (.ref b43), .val (.ref bx45), .unset, .unset, .unset, .unset, .unset, .unset] [(.ref kd1)])) (fun _ k => XS.aload X45.here hx rfl (hb hby at_69) rfl rfl k) ?_
    refine Go.by (T' := T45) (f' := (mkF m 73 #[.val (.int k1), .val (.int i1), .val (.int k2), .val (.int i2), .val (.int mode), .val (.ref kd1), .val (.ref kd2), .val (.int (i1 &&& (2147483647 : Int32))), .val (.int (i1 &&& (2147483647 : Int32))), .val (.ref b41), .val (.ref b43), .val (.ref bx45), .unset, .unset, .unset, .unset, .unset, .unset] [(.ref kd2), (.ref kd1)])) (fun _ k => XS.aload X45.here hx rfl (hb hby at_71) rfl rfl k) ?_
    by_cases ha73_46 : kd1 = kd2
    · skip
      refine Go.by (T' := T45) (f' := (mkF m 76 #[.val (.int k1), .val (.int i1), .val (.int k2), .val (.int i2), .val (.int mode), .val (.ref kd1), .val (.ref kd2), .val (.int (i1 &&& (2147483647 : Int32))), .val (.int (i1 &&& (2147483647 : Int32))), .val (.ref b41), .val (.ref b43), .val (.ref bx45), .unset, .unset, .unset, .unset, .unset, .unset] [])) (fun _ k => Jvm.RoadKit.acmp (g := (mkF m 73 #[.val (.int k1), .val (.int i1), .val (.int k2), .val (.int i2), .val (.int mode), .val (.ref kd1), .val (.ref kd2), .val (.int (i1 &&& (2147483647 : Int32))), .val (.int (i1 &&& (2147483647 : Int32))), .val (.ref b41), .val (.ref b43), .val (.ref bx45), .unset, .unset, .unset, .unset, .unset, .unset] [(.ref kd2), (.ref kd1)])) X45 hx rfl rfl rfl (pc0 := 73) (pc' := 76) (same := true) rfl (hb hby at_73) rfl (decide_eq_true (congrArg Value.ref ha73_46)) (by decide) (by decide) k) ?_
      refine Go.by (T' := T45) (f' := (mkF m 78 #[.val (.int k1), .val (.int i1), .val (.int k2), .val (.int i2), .val (.int mode), .val (.ref kd1), .val (.ref kd2), .val (.int (i1 &&& (2147483647 : Int32))), .val (.int (i1 &&& (2147483647 : Int32))), .val (.ref b41), .val (.ref b43), .val (.ref bx45), .unset, .unset, .unset, .unset, .unset, .unset] [(.int (i1 &&& (2147483647 : Int32)))])) (fun _ k => XS.iload X45.here hx rfl (hb hby at_76) rfl k) ?_
      refine Go.by (T' := T45) (f' := (mkF m 80 #[.val (.int k1), .val (.int i1), .val (.int k2), .val (.int i2), .val (.int mode), .val (.ref kd1), .val (.ref kd2), .val (.int (i1 &&& (2147483647 : Int32))), .val (.int (i1 &&& (2147483647 : Int32))), .val (.ref b41), .val (.ref b43), .val (.ref bx45), .unset, .unset, .unset, .unset, .unset, .unset] [(.int (i1 &&& (2147483647 : Int32))), (.int (i1 &&& (2147483647 : Int32)))])) (fun _ k => XS.iload X45.here hx rfl (hb hby at_78) rfl k) ?_
      refine Go.by (T' := T45) (f' := (mkF m 83 #[.val (.int k1), .val (.int i1), .val (.int k2), .val (.int i2), .val (.int mode), .val (.ref kd1), .val (.ref kd2), .val (.int (i1 &&& (2147483647 : Int32))), .val (.int (i1 &&& (2147483647 : Int32))), .val (.ref b41), .val (.ref b43), .val (.ref bx45), .unset, .unset, .unset, .unset, .unset, .unset] [])) (fun _ k => XS.icmpNo X45.here hx rfl (hb hby at_80) rfl (teq rfl).2 k) ?_
      refine Go.by (T' := T45) (f' := (mkF m 84 #[.val (.int k1), .val (.int i1), .val (.int k2), .val (.int i2), .val (.int mode), .val (.ref kd1), .val (.ref kd2), .val (.int (i1 &&& (2147483647 : Int32))), .val (.int (i1 &&& (2147483647 : Int32))), .val (.ref b41), .val (.ref b43), .val (.ref bx45), .unset, .unset, .unset, .unset, .unset, .unset] [(.int (1 : Int32))])) (fun _ k => XS.iconst X45.here hx rfl (hb hby at_83) k) ?_
      refine Go.by (T' := T45) (f' := (mkF m 88 #[.val (.int k1), .val (.int i1), .val (.int k2), .val (.int i2), .val (.int mode), .val (.ref kd1), .val (.ref kd2), .val (.int (i1 &&& (2147483647 : Int32))), .val (.int (i1 &&& (2147483647 : Int32))), .val (.ref b41), .val (.ref b43), .val (.ref bx45), .unset, .unset, .unset, .unset, .unset, .unset] [(.int (1 : Int32))])) (fun _ k => XS.goto X45.here hx rfl (pc0 := 84) (pc' := 88) rfl (hb hby at_84) (by decide) (by decide) k) ?_
      refine Go.by (T' := T45) (f' := (mkF m 90 #[.val (.int k1), .val (.int i1), .val (.int k2), .val (.int i2), .val (.int mode), .val (.ref kd1), .val (.ref kd2), .val (.int (i1 &&& (2147483647 : Int32))), .val (.int (i1 &&& (2147483647 : Int32))), .val (.ref b41), .val (.ref b43), .val (.ref bx45), .val (.int (1 : Int32)), .unset, .unset, .unset, .unset, .unset] [])) (fun _ k => XS.istore X45.here hx rfl (hb hby at_88) rfl (l' := #[.val (.int k1), .val (.int i1), .val (.int k2), .val (.int i2), .val (.int mode), .val (.ref kd1), .val (.ref kd2), .val (.int (i1 &&& (2147483647 : Int32))), .val (.int (i1 &&& (2147483647 : Int32))), .val (.ref b41), .val (.ref b43), .val (.ref bx45), .val (.int (1 : Int32)), .unset, .unset, .unset, .unset, .unset]) rfl k) ?_
      refine Go.by (T' := T45) (f' := (mkF m 92 #[.val (.int k1), .val (.int i1), .val (.int k2), .val (.int i2), .val (.int mode), .val (.ref kd1), .val (.ref kd2), .val (.int (i1 &&& (2147483647 : Int32))), .val (.int (i1 &&& (2147483647 : Int32))), .val (.ref b41), .val (.ref b43), .val (.ref bx45), .val (.int (1 : Int32)), .unset, .unset, .unset, .unset, .unset] [(.ref b41)])) (fun _ k => XS.aload X45.here hx rfl (hb hby at_90) rfl rfl k) ?_
      refine Go.by (T' := T45) (f' := (mkF m 94 #[.val (.int k1), .val (.int i1), .val (.int k2), .val (.int i2), .val (.int mode), .val (.ref kd1), .val (.ref kd2), .val (.int (i1 &&& (2147483647 : Int32))), .val (.int (i1 &&& (2147483647 : Int32))), .val (.ref b41), .val (.ref b43), .val (.ref bx45), .val (.int (1 : Int32)), .unset, .unset, .unset, .unset, .unset] [(.ref b43), (.ref b41)])) (fun _ k => XS.aload X45.here hx rfl (hb hby at_92) rfl rfl k) ?_
      obtain ⟨cq48, kq48, q48a, q48b, q48c⟩ := isOf hZ rfl E_b41
      obtain ⟨v48, _, ⟨T48, L48, k48, n48⟩, -, X48, ⟨Lc48, hQ48, l48, y48, z48⟩, st48⟩ := X45.virtualBack hx (y := (⟨"com/example/honest_replica/honestreplica/model/Entity", "equals", "(Ljava/lang/Object;)Z"⟩ : MethodName)) (z := (⟨"com/example/honest_replica/honestreplica/model/Entity", "equals", "(Ljava/lang/Object;)Z"⟩ : MethodName)) hown (mvT hZ (hw _ (List.mem_of_getElem? (i := 29) rfl))) (mvT hZ (hw _ (List.mem_of_getElem? (i := 30) rfl))) (notFace_of_selects (args := #[]) (mvT hZ (hw _ (List.mem_of_getElem? (i := 32) rfl)))) (mvT hZ (hw _ (List.mem_of_getElem? (i := 32) rfl))) (mvT hZ (hw _ (List.mem_of_getElem? (i := 31) rfl))) (by decide) (backOf (W := 0) (rm_q l Z a0 hw [] b41 b43 kd1 kd2 (i1 &&& (2147483647 : Int32)) (i1 &&& (2147483647 : Int32)) T45.heap n0 O E_b41 E_b43 Gk42 Gi42 Gk44 Gi44) hZ (hw _ (List.mem_of_getElem? (i := 33) rfl)) (hw _ (List.mem_of_getElem? (i := 10) rfl)) (by decide) (by decide)) q48a q48c (g := (mkF m 94 #[.val (.int k1), .val (.int i1), .val (.int k2), .val (.int i2), .val (.int mode), .val (.ref kd1), .val (.ref kd2), .val (.int (i1 &&& (2147483647 : Int32))), .val (.int (i1 &&& (2147483647 : Int32))), .val (.ref b41), .val (.ref b43), .val (.ref bx45), .val (.int (1 : Int32)), .unset, .unset, .unset, .unset, .unset] [(.ref b43), (.ref b41)])) rfl (by rw [hml]; rfl) (Steps.refl _) (argsL := [(.ref b43)]) (rest := []) (lenOf pd_rm1_3 rfl) rfl (by show 2 * 0 + _ ≤ _; exact Nat.le_of_eq rfl) (hb hby at_94) (fun _ _ => ⟨rfl, rfl, (by decide : 3 + 0 ≤ _), (by decide : 5 + 0 ≤ _)⟩)
      dsimp only [Pt.U, Pt.locs, Pt.cells, Pt.slots] at X48 l48 y48 z48 st48 hQ48
      subst l48 y48 z48
      obtain ⟨hv48, Nq48, e48⟩ := hQ48
      have hz48 : eqv kd1 (i1 &&& (2147483647 : Int32)) kd2 (i1 &&& (2147483647 : Int32)) = 1 := by simp [eqv, ha73_46]
      rw [hz48] at hv48
      subst hv48
      replace N := Fr.app N Nq48
      refine Go.by (T' := T48) (f' := (mkF m 97 #[.val (.int k1), .val (.int i1), .val (.int k2), .val (.int i2), .val (.int mode), .val (.ref kd1), .val (.ref kd2), .val (.int (i1 &&& (2147483647 : Int32))), .val (.int (i1 &&& (2147483647 : Int32))), .val (.ref b41), .val (.ref b43), .val (.ref bx45), .val (.int (1 : Int32)), .unset, .unset, .unset, .unset, .unset] [(.int (1 : Int32))])) (fun _ k => st48.trans k) ?_
      refine Go.by (T' := T48) (f' := (mkF m 99 #[.val (.int k1), .val (.int i1), .val (.int k2), .val (.int i2), .val (.int mode), .val (.ref kd1), .val (.ref kd2), .val (.int (i1 &&& (2147483647 : Int32))), .val (.int (i1 &&& (2147483647 : Int32))), .val (.ref b41), .val (.ref b43), .val (.ref bx45), .val (.int (1 : Int32)), .val (.int (1 : Int32)), .unset, .unset, .unset, .unset] [])) (fun _ k => XS.istore X48.here hx rfl (hb hby at_97) rfl (l' := #[.val (.int k1), .val (.int i1), .val (.int k2), .val (.int i2), .val (.int mode), .val (.ref kd1), .val (.ref kd2), .val (.int (i1 &&& (2147483647 : Int32))), .val (.int (i1 &&& (2147483647 : Int32))), .val (.ref b41), .val (.ref b43), .val (.ref bx45), .val (.int (1 : Int32)), .val (.int (1 : Int32)), .unset, .unset, .unset, .unset]) rfl k) ?_
      refine Go.by (T' := T48) (f' := (mkF m 101 #[.val (.int k1), .val (.int i1), .val (.int k2), .val (.int i2), .val (.int mode), .val (.ref kd1), .val (.ref kd2), .val (.int (i1 &&& (2147483647 : Int32))), .val (.int (i1 &&& (2147483647 : Int32))), .val (.ref b41), .val (.ref b43), .val (.ref bx45), .val (.int (1 : Int32)), .val (.int (1 : Int32)), .unset, .unset, .unset, .unset] [(.ref b43)])) (fun _ k => XS.aload X48.here hx rfl (hb hby at_99) rfl rfl k) ?_
      refine Go.by (T' := T48) (f' := (mkF m 103 #[.val (.int k1), .val (.int i1), .val (.int k2), .val (.int i2), .val (.int mode), .val (.ref kd1), .val (.ref kd2), .val (.int (i1 &&& (2147483647 : Int32))), .val (.int (i1 &&& (2147483647 : Int32))), .val (.ref b41), .val (.ref b43), .val (.ref bx45), .val (.int (1 : Int32)), .val (.int (1 : Int32)), .unset, .unset, .unset, .unset] [(.ref b41), (.ref b43)])) (fun _ k => XS.aload X48.here hx rfl (hb hby at_101) rfl rfl k) ?_
      obtain ⟨cq49, kq49, q49a, q49b, q49c⟩ := isOf hZ e48 E_b43
      obtain ⟨v49, _, ⟨T49, L49, k49, n49⟩, -, X49, ⟨Lc49, hQ49, l49, y49, z49⟩, st49⟩ := X48.virtualBack hx (y := (⟨"com/example/honest_replica/honestreplica/model/Entity", "equals", "(Ljava/lang/Object;)Z"⟩ : MethodName)) (z := (⟨"com/example/honest_replica/honestreplica/model/Entity", "equals", "(Ljava/lang/Object;)Z"⟩ : MethodName)) hown (mvT hZ (hw _ (List.mem_of_getElem? (i := 29) rfl))) (mvT hZ (hw _ (List.mem_of_getElem? (i := 30) rfl))) (notFace_of_selects (args := #[]) (mvT hZ (hw _ (List.mem_of_getElem? (i := 32) rfl)))) (mvT hZ (hw _ (List.mem_of_getElem? (i := 32) rfl))) (mvT hZ (hw _ (List.mem_of_getElem? (i := 31) rfl))) (by decide) (backOf (W := 0) (rm_q l Z a0 hw [] b43 b41 kd2 kd1 (i1 &&& (2147483647 : Int32)) (i1 &&& (2147483647 : Int32)) T45.heap n0 O E_b43 E_b41 Gk44 Gi44 Gk42 Gi42) hZ (hw _ (List.mem_of_getElem? (i := 33) rfl)) (hw _ (List.mem_of_getElem? (i := 10) rfl)) (by decide) (by decide)) q49a q49c (g := (mkF m 103 #[.val (.int k1), .val (.int i1), .val (.int k2), .val (.int i2), .val (.int mode), .val (.ref kd1), .val (.ref kd2), .val (.int (i1 &&& (2147483647 : Int32))), .val (.int (i1 &&& (2147483647 : Int32))), .val (.ref b41), .val (.ref b43), .val (.ref bx45), .val (.int (1 : Int32)), .val (.int (1 : Int32)), .unset, .unset, .unset, .unset] [(.ref b41), (.ref b43)])) rfl (by rw [hml]; rfl) (Steps.refl _) (argsL := [(.ref b41)]) (rest := []) (lenOf pd_rm1_3 rfl) rfl (by show 2 * 0 + _ ≤ _; exact Nat.le_of_eq rfl) (hb hby at_103) (fun _ _ => ⟨rfl, e48, (by decide : 3 + 0 ≤ _), (by decide : 5 + 0 ≤ _)⟩)
      dsimp only [Pt.U, Pt.locs, Pt.cells, Pt.slots] at X49 l49 y49 z49 st49 hQ49
      subst l49 y49 z49
      obtain ⟨hv49, Nq49, e49⟩ := hQ49
      have hz49 : eqv kd2 (i1 &&& (2147483647 : Int32)) kd1 (i1 &&& (2147483647 : Int32)) = 1 := by simp [eqv, ha73_46]
      rw [hz49] at hv49
      subst hv49
      replace N := Fr.app N Nq49
      refine Go.by (T' := T49) (f' := (mkF m 106 #[.val (.int k1), .val (.int i1), .val (.int k2), .val (.int i2), .val (.int mode), .val (.ref kd1), .val (.ref kd2), .val (.int (i1 &&& (2147483647 : Int32))), .val (.int (i1 &&& (2147483647 : Int32))), .val (.ref b41), .val (.ref b43), .val (.ref bx45), .val (.int (1 : Int32)), .val (.int (1 : Int32)), .unset, .unset, .unset, .unset] [(.int (1 : Int32))])) (fun _ k => st49.trans k) ?_
      refine Go.by (T' := T49) (f' := (mkF m 108 #[.val (.int k1), .val (.int i1), .val (.int k2), .val (.int i2), .val (.int mode), .val (.ref kd1), .val (.ref kd2), .val (.int (i1 &&& (2147483647 : Int32))), .val (.int (i1 &&& (2147483647 : Int32))), .val (.ref b41), .val (.ref b43), .val (.ref bx45), .val (.int (1 : Int32)), .val (.int (1 : Int32)), .val (.int (1 : Int32)), .unset, .unset, .unset] [])) (fun _ k => XS.istore X49.here hx rfl (hb hby at_106) rfl (l' := #[.val (.int k1), .val (.int i1), .val (.int k2), .val (.int i2), .val (.int mode), .val (.ref kd1), .val (.ref kd2), .val (.int (i1 &&& (2147483647 : Int32))), .val (.int (i1 &&& (2147483647 : Int32))), .val (.ref b41), .val (.ref b43), .val (.ref bx45), .val (.int (1 : Int32)), .val (.int (1 : Int32)), .val (.int (1 : Int32)), .unset, .unset, .unset]) rfl k) ?_
      refine Go.by (T' := T49) (f' := (mkF m 110 #[.val (.int k1), .val (.int i1), .val (.int k2), .val (.int i2), .val (.int mode), .val (.ref kd1), .val (.ref kd2), .val (.int (i1 &&& (2147483647 : Int32))), .val (.int (i1 &&& (2147483647 : Int32))), .val (.ref b41), .val (.ref b43), .val (.ref bx45), .val (.int (1 : Int32)), .val (.int (1 : Int32)), .val (.int (1 : Int32)), .unset, .unset, .unset] [(.ref b41)])) (fun _ k => XS.aload X49.here hx rfl (hb hby at_108) rfl rfl k) ?_
      refine Go.by (T' := T49) (f' := (mkF m 112 #[.val (.int k1), .val (.int i1), .val (.int k2), .val (.int i2), .val (.int mode), .val (.ref kd1), .val (.ref kd2), .val (.int (i1 &&& (2147483647 : Int32))), .val (.int (i1 &&& (2147483647 : Int32))), .val (.ref b41), .val (.ref b43), .val (.ref bx45), .val (.int (1 : Int32)), .val (.int (1 : Int32)), .val (.int (1 : Int32)), .unset, .unset, .unset] [(.ref b41), (.ref b41)])) (fun _ k => XS.aload X49.here hx rfl (hb hby at_110) rfl rfl k) ?_
      obtain ⟨cq50, kq50, q50a, q50b, q50c⟩ := isOf hZ e49 E_b41
      obtain ⟨v50, _, ⟨T50, L50, k50, n50⟩, -, X50, ⟨Lc50, hQ50, l50, y50, z50⟩, st50⟩ := X49.virtualBack hx (y := (⟨"com/example/honest_replica/honestreplica/model/Entity", "equals", "(Ljava/lang/Object;)Z"⟩ : MethodName)) (z := (⟨"com/example/honest_replica/honestreplica/model/Entity", "equals", "(Ljava/lang/Object;)Z"⟩ : MethodName)) hown (mvT hZ (hw _ (List.mem_of_getElem? (i := 29) rfl))) (mvT hZ (hw _ (List.mem_of_getElem? (i := 30) rfl))) (notFace_of_selects (args := #[]) (mvT hZ (hw _ (List.mem_of_getElem? (i := 32) rfl)))) (mvT hZ (hw _ (List.mem_of_getElem? (i := 32) rfl))) (mvT hZ (hw _ (List.mem_of_getElem? (i := 31) rfl))) (by decide) (backOf (W := 0) (rm_q l Z a0 hw [] b41 b41 kd1 kd1 (i1 &&& (2147483647 : Int32)) (i1 &&& (2147483647 : Int32)) T45.heap n0 O E_b41 E_b41 Gk42 Gi42 Gk42 Gi42) hZ (hw _ (List.mem_of_getElem? (i := 33) rfl)) (hw _ (List.mem_of_getElem? (i := 10) rfl)) (by decide) (by decide)) q50a q50c (g := (mkF m 112 #[.val (.int k1), .val (.int i1), .val (.int k2), .val (.int i2), .val (.int mode), .val (.ref kd1), .val (.ref kd2), .val (.int (i1 &&& (2147483647 : Int32))), .val (.int (i1 &&& (2147483647 : Int32))), .val (.ref b41), .val (.ref b43), .val (.ref bx45), .val (.int (1 : Int32)), .val (.int (1 : Int32)), .val (.int (1 : Int32)), .unset, .unset, .unset] [(.ref b41), (.ref b41)])) rfl (by rw [hml]; rfl) (Steps.refl _) (argsL := [(.ref b41)]) (rest := []) (lenOf pd_rm1_3 rfl) rfl (by show 2 * 0 + _ ≤ _; exact Nat.le_of_eq rfl) (hb hby at_112) (fun _ _ => ⟨rfl, e49, (by decide : 3 + 0 ≤ _), (by decide : 5 + 0 ≤ _)⟩)
      dsimp only [Pt.U, Pt.locs, Pt.cells, Pt.slots] at X50 l50 y50 z50 st50 hQ50
      subst l50 y50 z50
      obtain ⟨hv50, Nq50, e50⟩ := hQ50
      have hz50 : eqv kd1 (i1 &&& (2147483647 : Int32)) kd1 (i1 &&& (2147483647 : Int32)) = 1 := by simp [eqv]
      rw [hz50] at hv50
      subst hv50
      replace N := Fr.app N Nq50
      refine Go.by (T' := T50) (f' := (mkF m 115 #[.val (.int k1), .val (.int i1), .val (.int k2), .val (.int i2), .val (.int mode), .val (.ref kd1), .val (.ref kd2), .val (.int (i1 &&& (2147483647 : Int32))), .val (.int (i1 &&& (2147483647 : Int32))), .val (.ref b41), .val (.ref b43), .val (.ref bx45), .val (.int (1 : Int32)), .val (.int (1 : Int32)), .val (.int (1 : Int32)), .unset, .unset, .unset] [(.int (1 : Int32))])) (fun _ k => st50.trans k) ?_
      refine Go.by (T' := T50) (f' := (mkF m 117 #[.val (.int k1), .val (.int i1), .val (.int k2), .val (.int i2), .val (.int mode), .val (.ref kd1), .val (.ref kd2), .val (.int (i1 &&& (2147483647 : Int32))), .val (.int (i1 &&& (2147483647 : Int32))), .val (.ref b41), .val (.ref b43), .val (.ref bx45), .val (.int (1 : Int32)), .val (.int (1 : Int32)), .val (.int (1 : Int32)), .val (.int (1 : Int32)), .unset, .unset] [])) (fun _ k => XS.istore X50.here hx rfl (hb hby at_115) rfl (l' := #[.val (.int k1), .val (.int i1), .val (.int k2), .val (.int i2), .val (.int mode), .val (.ref kd1), .val (.ref kd2), .val (.int (i1 &&& (2147483647 : Int32))), .val (.int (i1 &&& (2147483647 : Int32))), .val (.ref b41), .val (.ref b43), .val (.ref bx45), .val (.int (1 : Int32)), .val (.int (1 : Int32)), .val (.int (1 : Int32)), .val (.int (1 : Int32)), .unset, .unset]) rfl k) ?_
      refine Go.by (T' := T50) (f' := (mkF m 119 #[.val (.int k1), .val (.int i1), .val (.int k2), .val (.int i2), .val (.int mode), .val (.ref kd1), .val (.ref kd2), .val (.int (i1 &&& (2147483647 : Int32))), .val (.int (i1 &&& (2147483647 : Int32))), .val (.ref b41), .val (.ref b43), .val (.ref bx45), .val (.int (1 : Int32)), .val (.int (1 : Int32)), .val (.int (1 : Int32)), .val (.int (1 : Int32)), .unset, .unset] [(.ref b41)])) (fun _ k => XS.aload X50.here hx rfl (hb hby at_117) rfl rfl k) ?_
      refine Go.by (T' := T50) (f' := (mkF m 120 #[.val (.int k1), .val (.int i1), .val (.int k2), .val (.int i2), .val (.int mode), .val (.ref kd1), .val (.ref kd2), .val (.int (i1 &&& (2147483647 : Int32))), .val (.int (i1 &&& (2147483647 : Int32))), .val (.ref b41), .val (.ref b43), .val (.ref bx45), .val (.int (1 : Int32)), .val (.int (1 : Int32)), .val (.int (1 : Int32)), .val (.int (1 : Int32)), .unset, .unset] [.null, (.ref b41)])) (fun _ k => XS.aconstNull X50.here hx rfl (hb hby at_119) k) ?_
      obtain ⟨cq51, kq51, q51a, q51b, q51c⟩ := isOf hZ e50 E_b41
      obtain ⟨v51, _, ⟨T51, L51, k51, n51⟩, -, X51, ⟨Lc51, hQ51, l51, y51, z51⟩, st51⟩ := X50.virtualBack hx (y := (⟨"com/example/honest_replica/honestreplica/model/Entity", "equals", "(Ljava/lang/Object;)Z"⟩ : MethodName)) (z := (⟨"com/example/honest_replica/honestreplica/model/Entity", "equals", "(Ljava/lang/Object;)Z"⟩ : MethodName)) hown (mvT hZ (hw _ (List.mem_of_getElem? (i := 29) rfl))) (mvT hZ (hw _ (List.mem_of_getElem? (i := 30) rfl))) (notFace_of_selects (args := #[]) (mvT hZ (hw _ (List.mem_of_getElem? (i := 32) rfl)))) (mvT hZ (hw _ (List.mem_of_getElem? (i := 32) rfl))) (mvT hZ (hw _ (List.mem_of_getElem? (i := 31) rfl))) (by decide) (backOf (W := 0) (rm_qn l Z a0 hw [] b41 T45.heap n0 O) hZ (hw _ (List.mem_of_getElem? (i := 33) rfl)) (hw _ (List.mem_of_getElem? (i := 10) rfl)) (by decide) (by decide)) q51a q51c (g := (mkF m 120 #[.val (.int k1), .val (.int i1), .val (.int k2), .val (.int i2), .val (.int mode), .val (.ref kd1), .val (.ref kd2), .val (.int (i1 &&& (2147483647 : Int32))), .val (.int (i1 &&& (2147483647 : Int32))), .val (.ref b41), .val (.ref b43), .val (.ref bx45), .val (.int (1 : Int32)), .val (.int (1 : Int32)), .val (.int (1 : Int32)), .val (.int (1 : Int32)), .unset, .unset] [.null, (.ref b41)])) rfl (by rw [hml]; rfl) (Steps.refl _) (argsL := [.null]) (rest := []) (lenOf pd_rm1_3 rfl) rfl (by show 2 * 0 + _ ≤ _; exact Nat.le_of_eq rfl) (hb hby at_120) (fun _ _ => ⟨rfl, e50, (by decide : 3 + 0 ≤ _), (by decide : 5 + 0 ≤ _)⟩)
      dsimp only [Pt.U, Pt.locs, Pt.cells, Pt.slots] at X51 l51 y51 z51 st51 hQ51
      subst l51 y51 z51
      obtain ⟨rfl, Nq51, e51⟩ := hQ51
      replace N := Fr.app N Nq51
      refine Go.by (T' := T51) (f' := (mkF m 123 #[.val (.int k1), .val (.int i1), .val (.int k2), .val (.int i2), .val (.int mode), .val (.ref kd1), .val (.ref kd2), .val (.int (i1 &&& (2147483647 : Int32))), .val (.int (i1 &&& (2147483647 : Int32))), .val (.ref b41), .val (.ref b43), .val (.ref bx45), .val (.int (1 : Int32)), .val (.int (1 : Int32)), .val (.int (1 : Int32)), .val (.int (1 : Int32)), .unset, .unset] [(.int (0 : Int32))])) (fun _ k => st51.trans k) ?_
      refine Go.by (T' := T51) (f' := (mkF m 125 #[.val (.int k1), .val (.int i1), .val (.int k2), .val (.int i2), .val (.int mode), .val (.ref kd1), .val (.ref kd2), .val (.int (i1 &&& (2147483647 : Int32))), .val (.int (i1 &&& (2147483647 : Int32))), .val (.ref b41), .val (.ref b43), .val (.ref bx45), .val (.int (1 : Int32)), .val (.int (1 : Int32)), .val (.int (1 : Int32)), .val (.int (1 : Int32)), .val (.int (0 : Int32)), .unset] [])) (fun _ k => XS.istore X51.here hx rfl (hb hby at_123) rfl (l' := #[.val (.int k1), .val (.int i1), .val (.int k2), .val (.int i2), .val (.int mode), .val (.ref kd1), .val (.ref kd2), .val (.int (i1 &&& (2147483647 : Int32))), .val (.int (i1 &&& (2147483647 : Int32))), .val (.ref b41), .val (.ref b43), .val (.ref bx45), .val (.int (1 : Int32)), .val (.int (1 : Int32)), .val (.int (1 : Int32)), .val (.int (1 : Int32)), .val (.int (0 : Int32)), .unset]) rfl k) ?_
      refine Go.by (T' := T51) (f' := (mkF m 127 #[.val (.int k1), .val (.int i1), .val (.int k2), .val (.int i2), .val (.int mode), .val (.ref kd1), .val (.ref kd2), .val (.int (i1 &&& (2147483647 : Int32))), .val (.int (i1 &&& (2147483647 : Int32))), .val (.ref b41), .val (.ref b43), .val (.ref bx45), .val (.int (1 : Int32)), .val (.int (1 : Int32)), .val (.int (1 : Int32)), .val (.int (1 : Int32)), .val (.int (0 : Int32)), .unset] [(.ref b41)])) (fun _ k => XS.aload X51.here hx rfl (hb hby at_125) rfl rfl k) ?_
      refine Go.by (T' := T51) (f' := (mkF m 129 #[.val (.int k1), .val (.int i1), .val (.int k2), .val (.int i2), .val (.int mode), .val (.ref kd1), .val (.ref kd2), .val (.int (i1 &&& (2147483647 : Int32))), .val (.int (i1 &&& (2147483647 : Int32))), .val (.ref b41), .val (.ref b43), .val (.ref bx45), .val (.int (1 : Int32)), .val (.int (1 : Int32)), .val (.int (1 : Int32)), .val (.int (1 : Int32)), .val (.int (0 : Int32)), .unset] [(.ref bx45), (.ref b41)])) (fun _ k => XS.aload X51.here hx rfl (hb hby at_127) rfl rfl k) ?_
      obtain ⟨cq52, kq52, q52a, q52b, q52c⟩ := isOf hZ e51 E_b41
      obtain ⟨v52, _, ⟨T52, L52, k52, n52⟩, -, X52, ⟨Lc52, hQ52, l52, y52, z52⟩, st52⟩ := X51.virtualBack hx (y := (⟨"com/example/honest_replica/honestreplica/model/Entity", "equals", "(Ljava/lang/Object;)Z"⟩ : MethodName)) (z := (⟨"com/example/honest_replica/honestreplica/model/Entity", "equals", "(Ljava/lang/Object;)Z"⟩ : MethodName)) hown (mvT hZ (hw _ (List.mem_of_getElem? (i := 29) rfl))) (mvT hZ (hw _ (List.mem_of_getElem? (i := 30) rfl))) (notFace_of_selects (args := #[]) (mvT hZ (hw _ (List.mem_of_getElem? (i := 32) rfl)))) (mvT hZ (hw _ (List.mem_of_getElem? (i := 32) rfl))) (mvT hZ (hw _ (List.mem_of_getElem? (i := 31) rfl))) (by decide) (backOf (W := 0) (rm_qi l Z a0 hw [] b41 bx45 T45.heap n0 O E_bx45) hZ (hw _ (List.mem_of_getElem? (i := 33) rfl)) (hw _ (List.mem_of_getElem? (i := 10) rfl)) (by decide) (by decide)) q52a q52c (g := (mkF m 129 #[.val (.int k1), .val (.int i1), .val (.int k2), .val (.int i2), .val (.int mode), .val (.ref kd1), .val (.ref kd2), .val (.int (i1 &&& (2147483647 : Int32))), .val (.int (i1 &&& (2147483647 : Int32))), .val (.ref b41), .val (.ref b43), .val (.ref bx45), .val (.int (1 : Int32)), .val (.int (1 : Int32)), .val (.int (1 : Int32)), .val (.int (1 : Int32)), .val (.int (0 : Int32)), .unset] [(.ref bx45), (.ref b41)])) rfl (by rw [hml]; rfl) (Steps.refl _) (argsL := [(.ref bx45)]) (rest := []) (lenOf pd_rm1_3 rfl) rfl (by show 2 * 0 + _ ≤ _; exact Nat.le_of_eq rfl) (hb hby at_129) (fun _ _ => ⟨rfl, e51, (by decide : 3 + 0 ≤ _), (by decide : 5 + 0 ≤ _)⟩)
      dsimp only [Pt.U, Pt.locs, Pt.cells, Pt.slots] at X52 l52 y52 z52 st52 hQ52
      subst l52 y52 z52
      obtain ⟨rfl, Nq52, e52⟩ := hQ52
      replace N := Fr.app N Nq52
      refine Go.by (T' := T52) (f' := (mkF m 132 #[.val (.int k1), .val (.int i1), .val (.int k2), .val (.int i2), .val (.int mode), .val (.ref kd1), .val (.ref kd2), .val (.int (i1 &&& (2147483647 : Int32))), .val (.int (i1 &&& (2147483647 : Int32))), .val (.ref b41), .val (.ref b43), .val (.ref bx45), .val (.int (1 : Int32)), .val (.int (1 : Int32)), .val (.int (1 : Int32)), .val (.int (1 : Int32)), .val (.int (0 : Int32)), .unset] [(.int (0 : Int32))])) (fun _ k => st52.trans k) ?_
      refine Go.by (T' := T52) (f' := (mkF m 134 #[.val (.int k1), .val (.int i1), .val (.int k2), .val (.int i2), .val (.int mode), .val (.ref kd1), .val (.ref kd2), .val (.int (i1 &&& (2147483647 : Int32))), .val (.int (i1 &&& (2147483647 : Int32))), .val (.ref b41), .val (.ref b43), .val (.ref bx45), .val (.int (1 : Int32)), .val (.int (1 : Int32)), .val (.int (1 : Int32)), .val (.int (1 : Int32)), .val (.int (0 : Int32)), .val (.int (0 : Int32))] [])) (fun _ k => XS.istore X52.here hx rfl (hb hby at_132) rfl (l' := #[.val (.int k1), .val (.int i1), .val (.int k2), .val (.int i2), .val (.int mode), .val (.ref kd1), .val (.ref kd2), .val (.int (i1 &&& (2147483647 : Int32))), .val (.int (i1 &&& (2147483647 : Int32))), .val (.ref b41), .val (.ref b43), .val (.ref bx45), .val (.int (1 : Int32)), .val (.int (1 : Int32)), .val (.int (1 : Int32)), .val (.int (1 : Int32)), .val (.int (0 : Int32)), .val (.int (0 : Int32))]) rfl k) ?_
      refine Go.by (T' := T52) (f' := (mkF m 136 #[.val (.int k1), .val (.int i1), .val (.int k2), .val (.int i2), .val (.int mode), .val (.ref kd1), .val (.ref kd2), .val (.int (i1 &&& (2147483647 : Int32))), .val (.int (i1 &&& (2147483647 : Int32))), .val (.ref b41), .val (.ref b43), .val (.ref bx45), .val (.int (1 : Int32)), .val (.int (1 : Int32)), .val (.int (1 : Int32)), .val (.int (1 : Int32)), .val (.int (0 : Int32)), .val (.int (0 : Int32))] [(.int (1 : Int32))])) (fun _ k => XS.iload X52.here hx rfl (hb hby at_134) rfl k) ?_
      refine Go.by (T' := T52) (f' := (mkF m 138 #[.val (.int k1), .val (.int i1), .val (.int k2), .val (.int i2), .val (.int mode), .val (.ref kd1), .val (.ref kd2), .val (.int (i1 &&& (2147483647 : Int32))), .val (.int (i1 &&& (2147483647 : Int32))), .val (.ref b41), .val (.ref b43), .val (.ref bx45), .val (.int (1 : Int32)), .val (.int (1 : Int32)), .val (.int (1 : Int32)), .val (.int (1 : Int32)), .val (.int (0 : Int32)), .val (.int (0 : Int32))] [(.int (1 : Int32)), (.int (1 : Int32))])) (fun _ k => XS.iload X52.here hx rfl (hb hby at_136) rfl k) ?_
      refine Go.by (T' := T52) (f' := (mkF m 141 #[.val (.int k1), .val (.int i1), .val (.int k2), .val (.int i2), .val (.int mode), .val (.ref kd1), .val (.ref kd2), .val (.int (i1 &&& (2147483647 : Int32))), .val (.int (i1 &&& (2147483647 : Int32))), .val (.ref b41), .val (.ref b43), .val (.ref bx45), .val (.int (1 : Int32)), .val (.int (1 : Int32)), .val (.int (1 : Int32)), .val (.int (1 : Int32)), .val (.int (0 : Int32)), .val (.int (0 : Int32))] [])) (fun _ k => XS.icmpNo X52.here hx rfl (hb hby at_138) rfl (teq (by decide : (1 : Int32) = (1 : Int32))).2 k) ?_
      refine Go.by (T' := T52) (f' := (mkF m 143 #[.val (.int k1), .val (.int i1), .val (.int k2), .val (.int i2), .val (.int mode), .val (.ref kd1), .val (.ref kd2), .val (.int (i1 &&& (2147483647 : Int32))), .val (.int (i1 &&& (2147483647 : Int32))), .val (.ref b41), .val (.ref b43), .val (.ref bx45), .val (.int (1 : Int32)), .val (.int (1 : Int32)), .val (.int (1 : Int32)), .val (.int (1 : Int32)), .val (.int (0 : Int32)), .val (.int (0 : Int32))] [(.int (1 : Int32))])) (fun _ k => XS.iload X52.here hx rfl (hb hby at_141) rfl k) ?_
      refine Go.by (T' := T52) (f' := (mkF m 145 #[.val (.int k1), .val (.int i1), .val (.int k2), .val (.int i2), .val (.int mode), .val (.ref kd1), .val (.ref kd2), .val (.int (i1 &&& (2147483647 : Int32))), .val (.int (i1 &&& (2147483647 : Int32))), .val (.ref b41), .val (.ref b43), .val (.ref bx45), .val (.int (1 : Int32)), .val (.int (1 : Int32)), .val (.int (1 : Int32)), .val (.int (1 : Int32)), .val (.int (0 : Int32)), .val (.int (0 : Int32))] [(.int (1 : Int32)), (.int (1 : Int32))])) (fun _ k => XS.iload X52.here hx rfl (hb hby at_143) rfl k) ?_
      refine Go.by (T' := T52) (f' := (mkF m 148 #[.val (.int k1), .val (.int i1), .val (.int k2), .val (.int i2), .val (.int mode), .val (.ref kd1), .val (.ref kd2), .val (.int (i1 &&& (2147483647 : Int32))), .val (.int (i1 &&& (2147483647 : Int32))), .val (.ref b41), .val (.ref b43), .val (.ref bx45), .val (.int (1 : Int32)), .val (.int (1 : Int32)), .val (.int (1 : Int32)), .val (.int (1 : Int32)), .val (.int (0 : Int32)), .val (.int (0 : Int32))] [])) (fun _ k => XS.icmpNo X52.here hx rfl (hb hby at_145) rfl (teq (by decide : (1 : Int32) = (1 : Int32))).2 k) ?_
      refine Go.by (T' := T52) (f' := (mkF m 150 #[.val (.int k1), .val (.int i1), .val (.int k2), .val (.int i2), .val (.int mode), .val (.ref kd1), .val (.ref kd2), .val (.int (i1 &&& (2147483647 : Int32))), .val (.int (i1 &&& (2147483647 : Int32))), .val (.ref b41), .val (.ref b43), .val (.ref bx45), .val (.int (1 : Int32)), .val (.int (1 : Int32)), .val (.int (1 : Int32)), .val (.int (1 : Int32)), .val (.int (0 : Int32)), .val (.int (0 : Int32))] [(.int (1 : Int32))])) (fun _ k => XS.iload X52.here hx rfl (hb hby at_148) rfl k) ?_
      refine Go.by (T' := T52) (f' := (mkF m 153 #[.val (.int k1), .val (.int i1), .val (.int k2), .val (.int i2), .val (.int mode), .val (.ref kd1), .val (.ref kd2), .val (.int (i1 &&& (2147483647 : Int32))), .val (.int (i1 &&& (2147483647 : Int32))), .val (.ref b41), .val (.ref b43), .val (.ref bx45), .val (.int (1 : Int32)), .val (.int (1 : Int32)), .val (.int (1 : Int32)), .val (.int (1 : Int32)), .val (.int (0 : Int32)), .val (.int (0 : Int32))] [])) (fun _ k => XS.ifNo X52.here hx rfl (hb hby at_150) rfl ((if0 _ _).trans (feq (by decide : ¬ ((1 : Int32) = (0 : Int32)))).1) k) ?_
      refine Go.by (T' := T52) (f' := (mkF m 155 #[.val (.int k1), .val (.int i1), .val (.int k2), .val (.int i2), .val (.int mode), .val (.ref kd1), .val (.ref kd2), .val (.int (i1 &&& (2147483647 : Int32))), .val (.int (i1 &&& (2147483647 : Int32))), .val (.ref b41), .val (.ref b43), .val (.ref bx45), .val (.int (1 : Int32)), .val (.int (1 : Int32)), .val (.int (1 : Int32)), .val (.int (1 : Int32)), .val (.int (0 : Int32)), .val (.int (0 : Int32))] [(.int (0 : Int32))])) (fun _ k => XS.iload X52.here hx rfl (hb hby at_153) rfl k) ?_
      refine Go.by (T' := T52) (f' := (mkF m 158 #[.val (.int k1), .val (.int i1), .val (.int k2), .val (.int i2), .val (.int mode), .val (.ref kd1), .val (.ref kd2), .val (.int (i1 &&& (2147483647 : Int32))), .val (.int (i1 &&& (2147483647 : Int32))), .val (.ref b41), .val (.ref b43), .val (.ref bx45), .val (.int (1 : Int32)), .val (.int (1 : Int32)), .val (.int (1 : Int32)), .val (.int (1 : Int32)), .val (.int (0 : Int32)), .val (.int (0 : Int32))] [])) (fun _ k => XS.ifNo X52.here hx rfl (hb hby at_155) rfl ((if0 _ _).trans (teq (by decide : (0 : Int32) = (0 : Int32))).2) k) ?_
      refine Go.by (T' := T52) (f' := (mkF m 160 #[.val (.int k1), .val (.int i1), .val (.int k2), .val (.int i2), .val (.int mode), .val (.ref kd1), .val (.ref kd2), .val (.int (i1 &&& (2147483647 : Int32))), .val (.int (i1 &&& (2147483647 : Int32))), .val (.ref b41), .val (.ref b43), .val (.ref bx45), .val (.int (1 : Int32)), .val (.int (1 : Int32)), .val (.int (1 : Int32)), .val (.int (1 : Int32)), .val (.int (0 : Int32)), .val (.int (0 : Int32))] [(.int (0 : Int32))])) (fun _ k => XS.iload X52.here hx rfl (hb hby at_158) rfl k) ?_
      refine Go.by (T' := T52) (f' := (mkF m 163 #[.val (.int k1), .val (.int i1), .val (.int k2), .val (.int i2), .val (.int mode), .val (.ref kd1), .val (.ref kd2), .val (.int (i1 &&& (2147483647 : Int32))), .val (.int (i1 &&& (2147483647 : Int32))), .val (.ref b41), .val (.ref b43), .val (.ref bx45), .val (.int (1 : Int32)), .val (.int (1 : Int32)), .val (.int (1 : Int32)), .val (.int (1 : Int32)), .val (.int (0 : Int32)), .val (.int (0 : Int32))] [])) (fun _ k => XS.ifNo X52.here hx rfl (hb hby at_160) rfl ((if0 _ _).trans (teq (by decide : (0 : Int32) = (0 : Int32))).2) k) ?_
      refine Go.by (T' := T52) (f' := (mkF m 164 #[.val (.int k1), .val (.int i1), .val (.int k2), .val (.int i2), .val (.int mode), .val (.ref kd1), .val (.ref kd2), .val (.int (i1 &&& (2147483647 : Int32))), .val (.int (i1 &&& (2147483647 : Int32))), .val (.ref b41), .val (.ref b43), .val (.ref bx45), .val (.int (1 : Int32)), .val (.int (1 : Int32)), .val (.int (1 : Int32)), .val (.int (1 : Int32)), .val (.int (0 : Int32)), .val (.int (0 : Int32))] [(.int (1 : Int32))])) (fun _ k => XS.iconst X52.here hx rfl (hb hby at_163) k) ?_
      refine Go.by (T' := T52) (f' := (mkF m 168 #[.val (.int k1), .val (.int i1), .val (.int k2), .val (.int i2), .val (.int mode), .val (.ref kd1), .val (.ref kd2), .val (.int (i1 &&& (2147483647 : Int32))), .val (.int (i1 &&& (2147483647 : Int32))), .val (.ref b41), .val (.ref b43), .val (.ref bx45), .val (.int (1 : Int32)), .val (.int (1 : Int32)), .val (.int (1 : Int32)), .val (.int (1 : Int32)), .val (.int (0 : Int32)), .val (.int (0 : Int32))] [(.int (1 : Int32))])) (fun _ k => XS.goto X52.here hx rfl (pc0 := 164) (pc' := 168) rfl (hb hby at_164) (by decide) (by decide) k) ?_
      obtain ⟨fs, hr, hrun, hended, hW, hsame⟩ := X52.leave (v := some (.int (1 : Int32))) (fun h => by rw [Bd.returns] at h; cases h)
      refine ⟨_, _, retN X52 hx (t := .boolean) Bd.returns (by simp) (hb hby at_168) hr, hrun, hended, _, _, rfl, ?_, ⟨_, rfl⟩, hW, hsame.mono (by decide) (by decide)⟩
      show Q1 n0 (some (.int (1 : Int32))) T52.heap _
      rw [e52]
      exact ⟨rfl, N⟩
    · skip
      refine Go.by (T' := T45) (f' := (mkF m 87 #[.val (.int k1), .val (.int i1), .val (.int k2), .val (.int i2), .val (.int mode), .val (.ref kd1), .val (.ref kd2), .val (.int (i1 &&& (2147483647 : Int32))), .val (.int (i1 &&& (2147483647 : Int32))), .val (.ref b41), .val (.ref b43), .val (.ref bx45), .unset, .unset, .unset, .unset, .unset, .unset] [])) (fun _ k => Jvm.RoadKit.acmp (g := (mkF m 73 #[.val (.int k1), .val (.int i1), .val (.int k2), .val (.int i2), .val (.int mode), .val (.ref kd1), .val (.ref kd2), .val (.int (i1 &&& (2147483647 : Int32))), .val (.int (i1 &&& (2147483647 : Int32))), .val (.ref b41), .val (.ref b43), .val (.ref bx45), .unset, .unset, .unset, .unset, .unset, .unset] [(.ref kd2), (.ref kd1)])) X45 hx rfl rfl rfl (pc0 := 73) (pc' := 87) (same := false) rfl (hb hby at_73) rfl (decide_eq_false fun q => ha73_46 (Value.ref.inj q)) (by decide) (by decide) k) ?_
      refine Go.by (T' := T45) (f' := (mkF m 88 #[.val (.int k1), .val (.int i1), .val (.int k2), .val (.int i2), .val (.int mode), .val (.ref kd1), .val (.ref kd2), .val (.int (i1 &&& (2147483647 : Int32))), .val (.int (i1 &&& (2147483647 : Int32))), .val (.ref b41), .val (.ref b43), .val (.ref bx45), .unset, .unset, .unset, .unset, .unset, .unset] [(.int (0 : Int32))])) (fun _ k => XS.iconst X45.here hx rfl (hb hby at_87) k) ?_
      refine Go.by (T' := T45) (f' := (mkF m 90 #[.val (.int k1), .val (.int i1), .val (.int k2), .val (.int i2), .val (.int mode), .val (.ref kd1), .val (.ref kd2), .val (.int (i1 &&& (2147483647 : Int32))), .val (.int (i1 &&& (2147483647 : Int32))), .val (.ref b41), .val (.ref b43), .val (.ref bx45), .val (.int (0 : Int32)), .unset, .unset, .unset, .unset, .unset] [])) (fun _ k => XS.istore X45.here hx rfl (hb hby at_88) rfl (l' := #[.val (.int k1), .val (.int i1), .val (.int k2), .val (.int i2), .val (.int mode), .val (.ref kd1), .val (.ref kd2), .val (.int (i1 &&& (2147483647 : Int32))), .val (.int (i1 &&& (2147483647 : Int32))), .val (.ref b41), .val (.ref b43), .val (.ref bx45), .val (.int (0 : Int32)), .unset, .unset, .unset, .unset, .unset]) rfl k) ?_
      refine Go.by (T' := T45) (f' := (mkF m 92 #[.val (.int k1), .val (.int i1), .val (.int k2), .val (.int i2), .val (.int mode), .val (.ref kd1), .val (.ref kd2), .val (.int (i1 &&& (2147483647 : Int32))), .val (.int (i1 &&& (2147483647 : Int32))), .val (.ref b41), .val (.ref b43), .val (.ref bx45), .val (.int (0 : Int32)), .unset, .unset, .unset, .unset, .unset] [(.ref b41)])) (fun _ k => XS.aload X45.here hx rfl (hb hby at_90) rfl rfl k) ?_
      refine Go.by (T' := T45) (f' := (mkF m 94 #[.val (.int k1), .val (.int i1), .val (.int k2), .val (.int i2), .val (.int mode), .val (.ref kd1), .val (.ref kd2), .val (.int (i1 &&& (2147483647 : Int32))), .val (.int (i1 &&& (2147483647 : Int32))), .val (.ref b41), .val (.ref b43), .val (.ref bx45), .val (.int (0 : Int32)), .unset, .unset, .unset, .unset, .unset] [(.ref b43), (.ref b41)])) (fun _ k => XS.aload X45.here hx rfl (hb hby at_92) rfl rfl k) ?_
      obtain ⟨cq58, kq58, q58a, q58b, q58c⟩ := isOf hZ rfl E_b41
      obtain ⟨v58, _, ⟨T58, L58, k58, n58⟩, -, X58, ⟨Lc58, hQ58, l58, y58, z58⟩, st58⟩ := X45.virtualBack hx (y := (⟨"com/example/honest_replica/honestreplica/model/Entity", "equals", "(Ljava/lang/Object;)Z"⟩ : MethodName)) (z := (⟨"com/example/honest_replica/honestreplica/model/Entity", "equals", "(Ljava/lang/Object;)Z"⟩ : MethodName)) hown (mvT hZ (hw _ (List.mem_of_getElem? (i := 29) rfl))) (mvT hZ (hw _ (List.mem_of_getElem? (i := 30) rfl))) (notFace_of_selects (args := #[]) (mvT hZ (hw _ (List.mem_of_getElem? (i := 32) rfl)))) (mvT hZ (hw _ (List.mem_of_getElem? (i := 32) rfl))) (mvT hZ (hw _ (List.mem_of_getElem? (i := 31) rfl))) (by decide) (backOf (W := 0) (rm_q l Z a0 hw [] b41 b43 kd1 kd2 (i1 &&& (2147483647 : Int32)) (i1 &&& (2147483647 : Int32)) T45.heap n0 O E_b41 E_b43 Gk42 Gi42 Gk44 Gi44) hZ (hw _ (List.mem_of_getElem? (i := 33) rfl)) (hw _ (List.mem_of_getElem? (i := 10) rfl)) (by decide) (by decide)) q58a q58c (g := (mkF m 94 #[.val (.int k1), .val (.int i1), .val (.int k2), .val (.int i2), .val (.int mode), .val (.ref kd1), .val (.ref kd2), .val (.int (i1 &&& (2147483647 : Int32))), .val (.int (i1 &&& (2147483647 : Int32))), .val (.ref b41), .val (.ref b43), .val (.ref bx45), .val (.int (0 : Int32)), .unset, .unset, .unset, .unset, .unset] [(.ref b43), (.ref b41)])) rfl (by rw [hml]; rfl) (Steps.refl _) (argsL := [(.ref b43)]) (rest := []) (lenOf pd_rm1_3 rfl) rfl (by show 2 * 0 + _ ≤ _; exact Nat.le_of_eq rfl) (hb hby at_94) (fun _ _ => ⟨rfl, rfl, (by decide : 3 + 0 ≤ _), (by decide : 5 + 0 ≤ _)⟩)
      dsimp only [Pt.U, Pt.locs, Pt.cells, Pt.slots] at X58 l58 y58 z58 st58 hQ58
      subst l58 y58 z58
      obtain ⟨hv58, Nq58, e58⟩ := hQ58
      have hz58 : eqv kd1 (i1 &&& (2147483647 : Int32)) kd2 (i1 &&& (2147483647 : Int32)) = 0 := by simp [eqv, ha73_46]
      rw [hz58] at hv58
      subst hv58
      replace N := Fr.app N Nq58
      refine Go.by (T' := T58) (f' := (mkF m 97 #[.val (.int k1), .val (.int i1), .val (.int k2), .val (.int i2), .val (.int mode), .val (.ref kd1), .val (.ref kd2), .val (.int (i1 &&& (2147483647 : Int32))), .val (.int (i1 &&& (2147483647 : Int32))), .val (.ref b41), .val (.ref b43), .val (.ref bx45), .val (.int (0 : Int32)), .unset, .unset, .unset, .unset, .unset] [(.int (0 : Int32))])) (fun _ k => st58.trans k) ?_
      refine Go.by (T' := T58) (f' := (mkF m 99 #[.val (.int k1), .val (.int i1), .val (.int k2), .val (.int i2), .val (.int mode), .val (.ref kd1), .val (.ref kd2), .val (.int (i1 &&& (2147483647 : Int32))), .val (.int (i1 &&& (2147483647 : Int32))), .val (.ref b41), .val (.ref b43), .val (.ref bx45), .val (.int (0 : Int32)), .val (.int (0 : Int32)), .unset, .unset, .unset, .unset] [])) (fun _ k => XS.istore X58.here hx rfl (hb hby at_97) rfl (l' := #[.val (.int k1), .val (.int i1), .val (.int k2), .val (.int i2), .val (.int mode), .val (.ref kd1), .val (.ref kd2), .val (.int (i1 &&& (2147483647 : Int32))), .val (.int (i1 &&& (2147483647 : Int32))), .val (.ref b41), .val (.ref b43), .val (.ref bx45), .val (.int (0 : Int32)), .val (.int (0 : Int32)), .unset, .unset, .unset, .unset]) rfl k) ?_
      refine Go.by (T' := T58) (f' := (mkF m 101 #[.val (.int k1), .val (.int i1), .val (.int k2), .val (.int i2), .val (.int mode), .val (.ref kd1), .val (.ref kd2), .val (.int (i1 &&& (2147483647 : Int32))), .val (.int (i1 &&& (2147483647 : Int32))), .val (.ref b41), .val (.ref b43), .val (.ref bx45), .val (.int (0 : Int32)), .val (.int (0 : Int32)), .unset, .unset, .unset, .unset] [(.ref b43)])) (fun _ k => XS.aload X58.here hx rfl (hb hby at_99) rfl rfl k) ?_
      refine Go.by (T' := T58) (f' := (mkF m 103 #[.val (.int k1), .val (.int i1), .val (.int k2), .val (.int i2), .val (.int mode), .val (.ref kd1), .val (.ref kd2), .val (.int (i1 &&& (2147483647 : Int32))), .val (.int (i1 &&& (2147483647 : Int32))), .val (.ref b41), .val (.ref b43), .val (.ref bx45), .val (.int (0 : Int32)), .val (.int (0 : Int32)), .unset, .unset, .unset, .unset] [(.ref b41), (.ref b43)])) (fun _ k => XS.aload X58.here hx rfl (hb hby at_101) rfl rfl k) ?_
      obtain ⟨cq59, kq59, q59a, q59b, q59c⟩ := isOf hZ e58 E_b43
      obtain ⟨v59, _, ⟨T59, L59, k59, n59⟩, -, X59, ⟨Lc59, hQ59, l59, y59, z59⟩, st59⟩ := X58.virtualBack hx (y := (⟨"com/example/honest_replica/honestreplica/model/Entity", "equals", "(Ljava/lang/Object;)Z"⟩ : MethodName)) (z := (⟨"com/example/honest_replica/honestreplica/model/Entity", "equals", "(Ljava/lang/Object;)Z"⟩ : MethodName)) hown (mvT hZ (hw _ (List.mem_of_getElem? (i := 29) rfl))) (mvT hZ (hw _ (List.mem_of_getElem? (i := 30) rfl))) (notFace_of_selects (args := #[]) (mvT hZ (hw _ (List.mem_of_getElem? (i := 32) rfl)))) (mvT hZ (hw _ (List.mem_of_getElem? (i := 32) rfl))) (mvT hZ (hw _ (List.mem_of_getElem? (i := 31) rfl))) (by decide) (backOf (W := 0) (rm_q l Z a0 hw [] b43 b41 kd2 kd1 (i1 &&& (2147483647 : Int32)) (i1 &&& (2147483647 : Int32)) T45.heap n0 O E_b43 E_b41 Gk44 Gi44 Gk42 Gi42) hZ (hw _ (List.mem_of_getElem? (i := 33) rfl)) (hw _ (List.mem_of_getElem? (i := 10) rfl)) (by decide) (by decide)) q59a q59c (g := (mkF m 103 #[.val (.int k1), .val (.int i1), .val (.int k2), .val (.int i2), .val (.int mode), .val (.ref kd1), .val (.ref kd2), .val (.int (i1 &&& (2147483647 : Int32))), .val (.int (i1 &&& (2147483647 : Int32))), .val (.ref b41), .val (.ref b43), .val (.ref bx45), .val (.int (0 : Int32)), .val (.int (0 : Int32)), .unset, .unset, .unset, .unset] [(.ref b41), (.ref b43)])) rfl (by rw [hml]; rfl) (Steps.refl _) (argsL := [(.ref b41)]) (rest := []) (lenOf pd_rm1_3 rfl) rfl (by show 2 * 0 + _ ≤ _; exact Nat.le_of_eq rfl) (hb hby at_103) (fun _ _ => ⟨rfl, e58, (by decide : 3 + 0 ≤ _), (by decide : 5 + 0 ≤ _)⟩)
      dsimp only [Pt.U, Pt.locs, Pt.cells, Pt.slots] at X59 l59 y59 z59 st59 hQ59
      subst l59 y59 z59
      obtain ⟨hv59, Nq59, e59⟩ := hQ59
      have hz59 : eqv kd2 (i1 &&& (2147483647 : Int32)) kd1 (i1 &&& (2147483647 : Int32)) = 0 := by simp [eqv, (show ¬ kd2 = kd1 from fun q => ha73_46 q.symm)]
      rw [hz59] at hv59
      subst hv59
      replace N := Fr.app N Nq59
      refine Go.by (T' := T59) (f' := (mkF m 106 #[.val (.int k1), .val (.int i1), .val (.int k2), .val (.int i2), .val (.int mode), .val (.ref kd1), .val (.ref kd2), .val (.int (i1 &&& (2147483647 : Int32))), .val (.int (i1 &&& (2147483647 : Int32))), .val (.ref b41), .val (.ref b43), .val (.ref bx45), .val (.int (0 : Int32)), .val (.int (0 : Int32)), .unset, .unset, .unset, .unset] [(.int (0 : Int32))])) (fun _ k => st59.trans k) ?_
      refine Go.by (T' := T59) (f' := (mkF m 108 #[.val (.int k1), .val (.int i1), .val (.int k2), .val (.int i2), .val (.int mode), .val (.ref kd1), .val (.ref kd2), .val (.int (i1 &&& (2147483647 : Int32))), .val (.int (i1 &&& (2147483647 : Int32))), .val (.ref b41), .val (.ref b43), .val (.ref bx45), .val (.int (0 : Int32)), .val (.int (0 : Int32)), .val (.int (0 : Int32)), .unset, .unset, .unset] [])) (fun _ k => XS.istore X59.here hx rfl (hb hby at_106) rfl (l' := #[.val (.int k1), .val (.int i1), .val (.int k2), .val (.int i2), .val (.int mode), .val (.ref kd1), .val (.ref kd2), .val (.int (i1 &&& (2147483647 : Int32))), .val (.int (i1 &&& (2147483647 : Int32))), .val (.ref b41), .val (.ref b43), .val (.ref bx45), .val (.int (0 : Int32)), .val (.int (0 : Int32)), .val (.int (0 : Int32)), .unset, .unset, .unset]) rfl k) ?_
      refine Go.by (T' := T59) (f' := (mkF m 110 #[.val (.int k1), .val (.int i1), .val (.int k2), .val (.int i2), .val (.int mode), .val (.ref kd1), .val (.ref kd2), .val (.int (i1 &&& (2147483647 : Int32))), .val (.int (i1 &&& (2147483647 : Int32))), .val (.ref b41), .val (.ref b43), .val (.ref bx45), .val (.int (0 : Int32)), .val (.int (0 : Int32)), .val (.int (0 : Int32)), .unset, .unset, .unset] [(.ref b41)])) (fun _ k => XS.aload X59.here hx rfl (hb hby at_108) rfl rfl k) ?_
      refine Go.by (T' := T59) (f' := (mkF m 112 #[.val (.int k1), .val (.int i1), .val (.int k2), .val (.int i2), .val (.int mode), .val (.ref kd1), .val (.ref kd2), .val (.int (i1 &&& (2147483647 : Int32))), .val (.int (i1 &&& (2147483647 : Int32))), .val (.ref b41), .val (.ref b43), .val (.ref bx45), .val (.int (0 : Int32)), .val (.int (0 : Int32)), .val (.int (0 : Int32)), .unset, .unset, .unset] [(.ref b41), (.ref b41)])) (fun _ k => XS.aload X59.here hx rfl (hb hby at_110) rfl rfl k) ?_
      obtain ⟨cq60, kq60, q60a, q60b, q60c⟩ := isOf hZ e59 E_b41
      obtain ⟨v60, _, ⟨T60, L60, k60, n60⟩, -, X60, ⟨Lc60, hQ60, l60, y60, z60⟩, st60⟩ := X59.virtualBack hx (y := (⟨"com/example/honest_replica/honestreplica/model/Entity", "equals", "(Ljava/lang/Object;)Z"⟩ : MethodName)) (z := (⟨"com/example/honest_replica/honestreplica/model/Entity", "equals", "(Ljava/lang/Object;)Z"⟩ : MethodName)) hown (mvT hZ (hw _ (List.mem_of_getElem? (i := 29) rfl))) (mvT hZ (hw _ (List.mem_of_getElem? (i := 30) rfl))) (notFace_of_selects (args := #[]) (mvT hZ (hw _ (List.mem_of_getElem? (i := 32) rfl)))) (mvT hZ (hw _ (List.mem_of_getElem? (i := 32) rfl))) (mvT hZ (hw _ (List.mem_of_getElem? (i := 31) rfl))) (by decide) (backOf (W := 0) (rm_q l Z a0 hw [] b41 b41 kd1 kd1 (i1 &&& (2147483647 : Int32)) (i1 &&& (2147483647 : Int32)) T45.heap n0 O E_b41 E_b41 Gk42 Gi42 Gk42 Gi42) hZ (hw _ (List.mem_of_getElem? (i := 33) rfl)) (hw _ (List.mem_of_getElem? (i := 10) rfl)) (by decide) (by decide)) q60a q60c (g := (mkF m 112 #[.val (.int k1), .val (.int i1), .val (.int k2), .val (.int i2), .val (.int mode), .val (.ref kd1), .val (.ref kd2), .val (.int (i1 &&& (2147483647 : Int32))), .val (.int (i1 &&& (2147483647 : Int32))), .val (.ref b41), .val (.ref b43), .val (.ref bx45), .val (.int (0 : Int32)), .val (.int (0 : Int32)), .val (.int (0 : Int32)), .unset, .unset, .unset] [(.ref b41), (.ref b41)])) rfl (by rw [hml]; rfl) (Steps.refl _) (argsL := [(.ref b41)]) (rest := []) (lenOf pd_rm1_3 rfl) rfl (by show 2 * 0 + _ ≤ _; exact Nat.le_of_eq rfl) (hb hby at_112) (fun _ _ => ⟨rfl, e59, (by decide : 3 + 0 ≤ _), (by decide : 5 + 0 ≤ _)⟩)
      dsimp only [Pt.U, Pt.locs, Pt.cells, Pt.slots] at X60 l60 y60 z60 st60 hQ60
      subst l60 y60 z60
      obtain ⟨hv60, Nq60, e60⟩ := hQ60
      have hz60 : eqv kd1 (i1 &&& (2147483647 : Int32)) kd1 (i1 &&& (2147483647 : Int32)) = 1 := by simp [eqv]
      rw [hz60] at hv60
      subst hv60
      replace N := Fr.app N Nq60
      refine Go.by (T' := T60) (f' := (mkF m 115 #[.val (.int k1), .val (.int i1), .val (.int k2), .val (.int i2), .val (.int mode), .val (.ref kd1), .val (.ref kd2), .val (.int (i1 &&& (2147483647 : Int32))), .val (.int (i1 &&& (2147483647 : Int32))), .val (.ref b41), .val (.ref b43), .val (.ref bx45), .val (.int (0 : Int32)), .val (.int (0 : Int32)), .val (.int (0 : Int32)), .unset, .unset, .unset] [(.int (1 : Int32))])) (fun _ k => st60.trans k) ?_
      refine Go.by (T' := T60) (f' := (mkF m 117 #[.val (.int k1), .val (.int i1), .val (.int k2), .val (.int i2), .val (.int mode), .val (.ref kd1), .val (.ref kd2), .val (.int (i1 &&& (2147483647 : Int32))), .val (.int (i1 &&& (2147483647 : Int32))), .val (.ref b41), .val (.ref b43), .val (.ref bx45), .val (.int (0 : Int32)), .val (.int (0 : Int32)), .val (.int (0 : Int32)), .val (.int (1 : Int32)), .unset, .unset] [])) (fun _ k => XS.istore X60.here hx rfl (hb hby at_115) rfl (l' := #[.val (.int k1), .val (.int i1), .val (.int k2), .val (.int i2), .val (.int mode), .val (.ref kd1), .val (.ref kd2), .val (.int (i1 &&& (2147483647 : Int32))), .val (.int (i1 &&& (2147483647 : Int32))), .val (.ref b41), .val (.ref b43), .val (.ref bx45), .val (.int (0 : Int32)), .val (.int (0 : Int32)), .val (.int (0 : Int32)), .val (.int (1 : Int32)), .unset, .unset]) rfl k) ?_
      refine Go.by (T' := T60) (f' := (mkF m 119 #[.val (.int k1), .val (.int i1), .val (.int k2), .val (.int i2), .val (.int mode), .val (.ref kd1), .val (.ref kd2), .val (.int (i1 &&& (2147483647 : Int32))), .val (.int (i1 &&& (2147483647 : Int32))), .val (.ref b41), .val (.ref b43), .val (.ref bx45), .val (.int (0 : Int32)), .val (.int (0 : Int32)), .val (.int (0 : Int32)), .val (.int (1 : Int32)), .unset, .unset] [(.ref b41)])) (fun _ k => XS.aload X60.here hx rfl (hb hby at_117) rfl rfl k) ?_
      refine Go.by (T' := T60) (f' := (mkF m 120 #[.val (.int k1), .val (.int i1), .val (.int k2), .val (.int i2), .val (.int mode), .val (.ref kd1), .val (.ref kd2), .val (.int (i1 &&& (2147483647 : Int32))), .val (.int (i1 &&& (2147483647 : Int32))), .val (.ref b41), .val (.ref b43), .val (.ref bx45), .val (.int (0 : Int32)), .val (.int (0 : Int32)), .val (.int (0 : Int32)), .val (.int (1 : Int32)), .unset, .unset] [.null, (.ref b41)])) (fun _ k => XS.aconstNull X60.here hx rfl (hb hby at_119) k) ?_
      obtain ⟨cq61, kq61, q61a, q61b, q61c⟩ := isOf hZ e60 E_b41
      obtain ⟨v61, _, ⟨T61, L61, k61, n61⟩, -, X61, ⟨Lc61, hQ61, l61, y61, z61⟩, st61⟩ := X60.virtualBack hx (y := (⟨"com/example/honest_replica/honestreplica/model/Entity", "equals", "(Ljava/lang/Object;)Z"⟩ : MethodName)) (z := (⟨"com/example/honest_replica/honestreplica/model/Entity", "equals", "(Ljava/lang/Object;)Z"⟩ : MethodName)) hown (mvT hZ (hw _ (List.mem_of_getElem? (i := 29) rfl))) (mvT hZ (hw _ (List.mem_of_getElem? (i := 30) rfl))) (notFace_of_selects (args := #[]) (mvT hZ (hw _ (List.mem_of_getElem? (i := 32) rfl)))) (mvT hZ (hw _ (List.mem_of_getElem? (i := 32) rfl))) (mvT hZ (hw _ (List.mem_of_getElem? (i := 31) rfl))) (by decide) (backOf (W := 0) (rm_qn l Z a0 hw [] b41 T45.heap n0 O) hZ (hw _ (List.mem_of_getElem? (i := 33) rfl)) (hw _ (List.mem_of_getElem? (i := 10) rfl)) (by decide) (by decide)) q61a q61c (g := (mkF m 120 #[.val (.int k1), .val (.int i1), .val (.int k2), .val (.int i2), .val (.int mode), .val (.ref kd1), .val (.ref kd2), .val (.int (i1 &&& (2147483647 : Int32))), .val (.int (i1 &&& (2147483647 : Int32))), .val (.ref b41), .val (.ref b43), .val (.ref bx45), .val (.int (0 : Int32)), .val (.int (0 : Int32)), .val (.int (0 : Int32)), .val (.int (1 : Int32)), .unset, .unset] [.null, (.ref b41)])) rfl (by rw [hml]; rfl) (Steps.refl _) (argsL := [.null]) (rest := []) (lenOf pd_rm1_3 rfl) rfl (by show 2 * 0 + _ ≤ _; exact Nat.le_of_eq rfl) (hb hby at_120) (fun _ _ => ⟨rfl, e60, (by decide : 3 + 0 ≤ _), (by decide : 5 + 0 ≤ _)⟩)
      dsimp only [Pt.U, Pt.locs, Pt.cells, Pt.slots] at X61 l61 y61 z61 st61 hQ61
      subst l61 y61 z61
      obtain ⟨rfl, Nq61, e61⟩ := hQ61
      replace N := Fr.app N Nq61
      refine Go.by (T' := T61) (f' := (mkF m 123 #[.val (.int k1), .val (.int i1), .val (.int k2), .val (.int i2), .val (.int mode), .val (.ref kd1), .val (.ref kd2), .val (.int (i1 &&& (2147483647 : Int32))), .val (.int (i1 &&& (2147483647 : Int32))), .val (.ref b41), .val (.ref b43), .val (.ref bx45), .val (.int (0 : Int32)), .val (.int (0 : Int32)), .val (.int (0 : Int32)), .val (.int (1 : Int32)), .unset, .unset] [(.int (0 : Int32))])) (fun _ k => st61.trans k) ?_
      refine Go.by (T' := T61) (f' := (mkF m 125 #[.val (.int k1), .val (.int i1), .val (.int k2), .val (.int i2), .val (.int mode), .val (.ref kd1), .val (.ref kd2), .val (.int (i1 &&& (2147483647 : Int32))), .val (.int (i1 &&& (2147483647 : Int32))), .val (.ref b41), .val (.ref b43), .val (.ref bx45), .val (.int (0 : Int32)), .val (.int (0 : Int32)), .val (.int (0 : Int32)), .val (.int (1 : Int32)), .val (.int (0 : Int32)), .unset] [])) (fun _ k => XS.istore X61.here hx rfl (hb hby at_123) rfl (l' := #[.val (.int k1), .val (.int i1), .val (.int k2), .val (.int i2), .val (.int mode), .val (.ref kd1), .val (.ref kd2), .val (.int (i1 &&& (2147483647 : Int32))), .val (.int (i1 &&& (2147483647 : Int32))), .val (.ref b41), .val (.ref b43), .val (.ref bx45), .val (.int (0 : Int32)), .val (.int (0 : Int32)), .val (.int (0 : Int32)), .val (.int (1 : Int32)), .val (.int (0 : Int32)), .unset]) rfl k) ?_
      refine Go.by (T' := T61) (f' := (mkF m 127 #[.val (.int k1), .val (.int i1), .val (.int k2), .val (.int i2), .val (.int mode), .val (.ref kd1), .val (.ref kd2), .val (.int (i1 &&& (2147483647 : Int32))), .val (.int (i1 &&& (2147483647 : Int32))), .val (.ref b41), .val (.ref b43), .val (.ref bx45), .val (.int (0 : Int32)), .val (.int (0 : Int32)), .val (.int (0 : Int32)), .val (.int (1 : Int32)), .val (.int (0 : Int32)), .unset] [(.ref b41)])) (fun _ k => XS.aload X61.here hx rfl (hb hby at_125) rfl rfl k) ?_
      refine Go.by (T' := T61) (f' := (mkF m 129 #[.val (.int k1), .val (.int i1), .val (.int k2), .val (.int i2), .val (.int mode), .val (.ref kd1), .val (.ref kd2), .val (.int (i1 &&& (2147483647 : Int32))), .val (.int (i1 &&& (2147483647 : Int32))), .val (.ref b41), .val (.ref b43), .val (.ref bx45), .val (.int (0 : Int32)), .val (.int (0 : Int32)), .val (.int (0 : Int32)), .val (.int (1 : Int32)), .val (.int (0 : Int32)), .unset] [(.ref bx45), (.ref b41)])) (fun _ k => XS.aload X61.here hx rfl (hb hby at_127) rfl rfl k) ?_
      obtain ⟨cq62, kq62, q62a, q62b, q62c⟩ := isOf hZ e61 E_b41
      obtain ⟨v62, _, ⟨T62, L62, k62, n62⟩, -, X62, ⟨Lc62, hQ62, l62, y62, z62⟩, st62⟩ := X61.virtualBack hx (y := (⟨"com/example/honest_replica/honestreplica/model/Entity", "equals", "(Ljava/lang/Object;)Z"⟩ : MethodName)) (z := (⟨"com/example/honest_replica/honestreplica/model/Entity", "equals", "(Ljava/lang/Object;)Z"⟩ : MethodName)) hown (mvT hZ (hw _ (List.mem_of_getElem? (i := 29) rfl))) (mvT hZ (hw _ (List.mem_of_getElem? (i := 30) rfl))) (notFace_of_selects (args := #[]) (mvT hZ (hw _ (List.mem_of_getElem? (i := 32) rfl)))) (mvT hZ (hw _ (List.mem_of_getElem? (i := 32) rfl))) (mvT hZ (hw _ (List.mem_of_getElem? (i := 31) rfl))) (by decide) (backOf (W := 0) (rm_qi l Z a0 hw [] b41 bx45 T45.heap n0 O E_bx45) hZ (hw _ (List.mem_of_getElem? (i := 33) rfl)) (hw _ (List.mem_of_getElem? (i := 10) rfl)) (by decide) (by decide)) q62a q62c (g := (mkF m 129 #[.val (.int k1), .val (.int i1), .val (.int k2), .val (.int i2), .val (.int mode), .val (.ref kd1), .val (.ref kd2), .val (.int (i1 &&& (2147483647 : Int32))), .val (.int (i1 &&& (2147483647 : Int32))), .val (.ref b41), .val (.ref b43), .val (.ref bx45), .val (.int (0 : Int32)), .val (.int (0 : Int32)), .val (.int (0 : Int32)), .val (.int (1 : Int32)), .val (.int (0 : Int32)), .unset] [(.ref bx45), (.ref b41)])) rfl (by rw [hml]; rfl) (Steps.refl _) (argsL := [(.ref bx45)]) (rest := []) (lenOf pd_rm1_3 rfl) rfl (by show 2 * 0 + _ ≤ _; exact Nat.le_of_eq rfl) (hb hby at_129) (fun _ _ => ⟨rfl, e61, (by decide : 3 + 0 ≤ _), (by decide : 5 + 0 ≤ _)⟩)
      dsimp only [Pt.U, Pt.locs, Pt.cells, Pt.slots] at X62 l62 y62 z62 st62 hQ62
      subst l62 y62 z62
      obtain ⟨rfl, Nq62, e62⟩ := hQ62
      replace N := Fr.app N Nq62
      refine Go.by (T' := T62) (f' := (mkF m 132 #[.val (.int k1), .val (.int i1), .val (.int k2), .val (.int i2), .val (.int mode), .val (.ref kd1), .val (.ref kd2), .val (.int (i1 &&& (2147483647 : Int32))), .val (.int (i1 &&& (2147483647 : Int32))), .val (.ref b41), .val (.ref b43), .val (.ref bx45), .val (.int (0 : Int32)), .val (.int (0 : Int32)), .val (.int (0 : Int32)), .val (.int (1 : Int32)), .val (.int (0 : Int32)), .unset] [(.int (0 : Int32))])) (fun _ k => st62.trans k) ?_
      refine Go.by (T' := T62) (f' := (mkF m 134 #[.val (.int k1), .val (.int i1), .val (.int k2), .val (.int i2), .val (.int mode), .val (.ref kd1), .val (.ref kd2), .val (.int (i1 &&& (2147483647 : Int32))), .val (.int (i1 &&& (2147483647 : Int32))), .val (.ref b41), .val (.ref b43), .val (.ref bx45), .val (.int (0 : Int32)), .val (.int (0 : Int32)), .val (.int (0 : Int32)), .val (.int (1 : Int32)), .val (.int (0 : Int32)), .val (.int (0 : Int32))] [])) (fun _ k => XS.istore X62.here hx rfl (hb hby at_132) rfl (l' := #[.val (.int k1), .val (.int i1), .val (.int k2), .val (.int i2), .val (.int mode), .val (.ref kd1), .val (.ref kd2), .val (.int (i1 &&& (2147483647 : Int32))), .val (.int (i1 &&& (2147483647 : Int32))), .val (.ref b41), .val (.ref b43), .val (.ref bx45), .val (.int (0 : Int32)), .val (.int (0 : Int32)), .val (.int (0 : Int32)), .val (.int (1 : Int32)), .val (.int (0 : Int32)), .val (.int (0 : Int32))]) rfl k) ?_
      refine Go.by (T' := T62) (f' := (mkF m 136 #[.val (.int k1), .val (.int i1), .val (.int k2), .val (.int i2), .val (.int mode), .val (.ref kd1), .val (.ref kd2), .val (.int (i1 &&& (2147483647 : Int32))), .val (.int (i1 &&& (2147483647 : Int32))), .val (.ref b41), .val (.ref b43), .val (.ref bx45), .val (.int (0 : Int32)), .val (.int (0 : Int32)), .val (.int (0 : Int32)), .val (.int (1 : Int32)), .val (.int (0 : Int32)), .val (.int (0 : Int32))] [(.int (0 : Int32))])) (fun _ k => XS.iload X62.here hx rfl (hb hby at_134) rfl k) ?_
      refine Go.by (T' := T62) (f' := (mkF m 138 #[.val (.int k1), .val (.int i1), .val (.int k2), .val (.int i2), .val (.int mode), .val (.ref kd1), .val (.ref kd2), .val (.int (i1 &&& (2147483647 : Int32))), .val (.int (i1 &&& (2147483647 : Int32))), .val (.ref b41), .val (.ref b43), .val (.ref bx45), .val (.int (0 : Int32)), .val (.int (0 : Int32)), .val (.int (0 : Int32)), .val (.int (1 : Int32)), .val (.int (0 : Int32)), .val (.int (0 : Int32))] [(.int (0 : Int32)), (.int (0 : Int32))])) (fun _ k => XS.iload X62.here hx rfl (hb hby at_136) rfl k) ?_
      refine Go.by (T' := T62) (f' := (mkF m 141 #[.val (.int k1), .val (.int i1), .val (.int k2), .val (.int i2), .val (.int mode), .val (.ref kd1), .val (.ref kd2), .val (.int (i1 &&& (2147483647 : Int32))), .val (.int (i1 &&& (2147483647 : Int32))), .val (.ref b41), .val (.ref b43), .val (.ref bx45), .val (.int (0 : Int32)), .val (.int (0 : Int32)), .val (.int (0 : Int32)), .val (.int (1 : Int32)), .val (.int (0 : Int32)), .val (.int (0 : Int32))] [])) (fun _ k => XS.icmpNo X62.here hx rfl (hb hby at_138) rfl (teq (by decide : (0 : Int32) = (0 : Int32))).2 k) ?_
      refine Go.by (T' := T62) (f' := (mkF m 143 #[.val (.int k1), .val (.int i1), .val (.int k2), .val (.int i2), .val (.int mode), .val (.ref kd1), .val (.ref kd2), .val (.int (i1 &&& (2147483647 : Int32))), .val (.int (i1 &&& (2147483647 : Int32))), .val (.ref b41), .val (.ref b43), .val (.ref bx45), .val (.int (0 : Int32)), .val (.int (0 : Int32)), .val (.int (0 : Int32)), .val (.int (1 : Int32)), .val (.int (0 : Int32)), .val (.int (0 : Int32))] [(.int (0 : Int32))])) (fun _ k => XS.iload X62.here hx rfl (hb hby at_141) rfl k) ?_
      refine Go.by (T' := T62) (f' := (mkF m 145 #[.val (.int k1), .val (.int i1), .val (.int k2), .val (.int i2), .val (.int mode), .val (.ref kd1), .val (.ref kd2), .val (.int (i1 &&& (2147483647 : Int32))), .val (.int (i1 &&& (2147483647 : Int32))), .val (.ref b41), .val (.ref b43), .val (.ref bx45), .val (.int (0 : Int32)), .val (.int (0 : Int32)), .val (.int (0 : Int32)), .val (.int (1 : Int32)), .val (.int (0 : Int32)), .val (.int (0 : Int32))] [(.int (0 : Int32)), (.int (0 : Int32))])) (fun _ k => XS.iload X62.here hx rfl (hb hby at_143) rfl k) ?_
      refine Go.by (T' := T62) (f' := (mkF m 148 #[.val (.int k1), .val (.int i1), .val (.int k2), .val (.int i2), .val (.int mode), .val (.ref kd1), .val (.ref kd2), .val (.int (i1 &&& (2147483647 : Int32))), .val (.int (i1 &&& (2147483647 : Int32))), .val (.ref b41), .val (.ref b43), .val (.ref bx45), .val (.int (0 : Int32)), .val (.int (0 : Int32)), .val (.int (0 : Int32)), .val (.int (1 : Int32)), .val (.int (0 : Int32)), .val (.int (0 : Int32))] [])) (fun _ k => XS.icmpNo X62.here hx rfl (hb hby at_145) rfl (teq (by decide : (0 : Int32) = (0 : Int32))).2 k) ?_
      refine Go.by (T' := T62) (f' := (mkF m 150 #[.val (.int k1), .val (.int i1), .val (.int k2), .val (.int i2), .val (.int mode), .val (.ref kd1), .val (.ref kd2), .val (.int (i1 &&& (2147483647 : Int32))), .val (.int (i1 &&& (2147483647 : Int32))), .val (.ref b41), .val (.ref b43), .val (.ref bx45), .val (.int (0 : Int32)), .val (.int (0 : Int32)), .val (.int (0 : Int32)), .val (.int (1 : Int32)), .val (.int (0 : Int32)), .val (.int (0 : Int32))] [(.int (1 : Int32))])) (fun _ k => XS.iload X62.here hx rfl (hb hby at_148) rfl k) ?_
      refine Go.by (T' := T62) (f' := (mkF m 153 #[.val (.int k1), .val (.int i1), .val (.int k2), .val (.int i2), .val (.int mode), .val (.ref kd1), .val (.ref kd2), .val (.int (i1 &&& (2147483647 : Int32))), .val (.int (i1 &&& (2147483647 : Int32))), .val (.ref b41), .val (.ref b43), .val (.ref bx45), .val (.int (0 : Int32)), .val (.int (0 : Int32)), .val (.int (0 : Int32)), .val (.int (1 : Int32)), .val (.int (0 : Int32)), .val (.int (0 : Int32))] [])) (fun _ k => XS.ifNo X62.here hx rfl (hb hby at_150) rfl ((if0 _ _).trans (feq (by decide : ¬ ((1 : Int32) = (0 : Int32)))).1) k) ?_
      refine Go.by (T' := T62) (f' := (mkF m 155 #[.val (.int k1), .val (.int i1), .val (.int k2), .val (.int i2), .val (.int mode), .val (.ref kd1), .val (.ref kd2), .val (.int (i1 &&& (2147483647 : Int32))), .val (.int (i1 &&& (2147483647 : Int32))), .val (.ref b41), .val (.ref b43), .val (.ref bx45), .val (.int (0 : Int32)), .val (.int (0 : Int32)), .val (.int (0 : Int32)), .val (.int (1 : Int32)), .val (.int (0 : Int32)), .val (.int (0 : Int32))] [(.int (0 : Int32))])) (fun _ k => XS.iload X62.here hx rfl (hb hby at_153) rfl k) ?_
      refine Go.by (T' := T62) (f' := (mkF m 158 #[.val (.int k1), .val (.int i1), .val (.int k2), .val (.int i2), .val (.int mode), .val (.ref kd1), .val (.ref kd2), .val (.int (i1 &&& (2147483647 : Int32))), .val (.int (i1 &&& (2147483647 : Int32))), .val (.ref b41), .val (.ref b43), .val (.ref bx45), .val (.int (0 : Int32)), .val (.int (0 : Int32)), .val (.int (0 : Int32)), .val (.int (1 : Int32)), .val (.int (0 : Int32)), .val (.int (0 : Int32))] [])) (fun _ k => XS.ifNo X62.here hx rfl (hb hby at_155) rfl ((if0 _ _).trans (teq (by decide : (0 : Int32) = (0 : Int32))).2) k) ?_
      refine Go.by (T' := T62) (f' := (mkF m 160 #[.val (.int k1), .val (.int i1), .val (.int k2), .val (.int i2), .val (.int mode), .val (.ref kd1), .val (.ref kd2), .val (.int (i1 &&& (2147483647 : Int32))), .val (.int (i1 &&& (2147483647 : Int32))), .val (.ref b41), .val (.ref b43), .val (.ref bx45), .val (.int (0 : Int32)), .val (.int (0 : Int32)), .val (.int (0 : Int32)), .val (.int (1 : Int32)), .val (.int (0 : Int32)), .val (.int (0 : Int32))] [(.int (0 : Int32))])) (fun _ k => XS.iload X62.here hx rfl (hb hby at_158) rfl k) ?_
      refine Go.by (T' := T62) (f' := (mkF m 163 #[.val (.int k1), .val (.int i1), .val (.int k2), .val (.int i2), .val (.int mode), .val (.ref kd1), .val (.ref kd2), .val (.int (i1 &&& (2147483647 : Int32))), .val (.int (i1 &&& (2147483647 : Int32))), .val (.ref b41), .val (.ref b43), .val (.ref bx45), .val (.int (0 : Int32)), .val (.int (0 : Int32)), .val (.int (0 : Int32)), .val (.int (1 : Int32)), .val (.int (0 : Int32)), .val (.int (0 : Int32))] [])) (fun _ k => XS.ifNo X62.here hx rfl (hb hby at_160) rfl ((if0 _ _).trans (teq (by decide : (0 : Int32) = (0 : Int32))).2) k) ?_
      refine Go.by (T' := T62) (f' := (mkF m 164 #[.val (.int k1), .val (.int i1), .val (.int k2), .val (.int i2), .val (.int mode), .val (.ref kd1), .val (.ref kd2), .val (.int (i1 &&& (2147483647 : Int32))), .val (.int (i1 &&& (2147483647 : Int32))), .val (.ref b41), .val (.ref b43), .val (.ref bx45), .val (.int (0 : Int32)), .val (.int (0 : Int32)), .val (.int (0 : Int32)), .val (.int (1 : Int32)), .val (.int (0 : Int32)), .val (.int (0 : Int32))] [(.int (1 : Int32))])) (fun _ k => XS.iconst X62.here hx rfl (hb hby at_163) k) ?_
      refine Go.by (T' := T62) (f' := (mkF m 168 #[.val (.int k1), .val (.int i1), .val (.int k2), .val (.int i2), .val (.int mode), .val (.ref kd1), .val (.ref kd2), .val (.int (i1 &&& (2147483647 : Int32))), .val (.int (i1 &&& (2147483647 : Int32))), .val (.ref b41), .val (.ref b43), .val (.ref bx45), .val (.int (0 : Int32)), .val (.int (0 : Int32)), .val (.int (0 : Int32)), .val (.int (1 : Int32)), .val (.int (0 : Int32)), .val (.int (0 : Int32))] [(.int (1 : Int32))])) (fun _ k => XS.goto X62.here hx rfl (pc0 := 164) (pc' := 168) rfl (hb hby at_164) (by decide) (by decide) k) ?_
      obtain ⟨fs, hr, hrun, hended, hW, hsame⟩ := X62.leave (v := some (.int (1 : Int32))) (fun h => by rw [Bd.returns] at h; cases h)
      refine ⟨_, _, retN X62 hx (t := .boolean) Bd.returns (by simp) (hb hby at_168) hr, hrun, hended, _, _, rfl, ?_, ⟨_, rfl⟩, hW, hsame.mono (by decide) (by decide)⟩
      show Q1 n0 (some (.int (1 : Int32))) T62.heap _
      rw [e62]
      exact ⟨rfl, N⟩

set_option maxRecDepth 65536 in
set_option maxHeartbeats 40000000 in
theorem comes_1 {Post : Tables → Env → Array Value → State → Outcome → State → Prop} (hpost : ∀ tb e args s v u, (limb_1_1.after args s (.returned v) u = true ∧ limb_1_2.after args s (.returned v) u = true ∧ True) → FrameEnd s (.returned v) u (Jvm.fieldLocs frame_1_writes args s ++ Jvm.arrayLocs frame_1_arrays args s ++ Jvm.staticLocs frame_1_statics s) 16 128 → Post tb e args s (.returned v) u) :
    ArmFor flags0 classFile x code maxLocals ret World_1 tables_1 room_1 Calls_1 rest_1 Pre_1 Post := by
  intro l hfl _ _ p e ha hc hk s m args below hf hA hF happ hP
  obtain ⟨hcalls, hrest, hpre⟩ := hP
  obtain ⟨-, -, -, hnamed, -, -, -, hat⟩ := (Spec.applies_iff hf).mp happ
  obtain ⟨hg, hn⟩ := and_e (Cond.before_iff.mp (show (Jvm.Cond.and given_1 narrow_1).before args s = true from hpre))
  obtain ⟨hcount, hg⟩ := and_e hg
  obtain ⟨w0, w1, w2, w3, w4, rfl⟩ : ∃ w0 w1 w2 w3 w4 : Value, args = #[w0, w1, w2, w3, w4] := by
    have hs : args.size = 5 := by simpa [Cond.value, given_1] using hcount
    obtain ⟨L⟩ := args
    match L, hs with
    | [w0, w1, w2, w3, w4], _ => exact ⟨w0, w1, w2, w3, w4, rfl⟩
  have hw := fun d (hd : d ∈ tables_1) => atoms_spec (ws := Jvm.Cond.code x code maxLocals ret :: tables_1) hat d (List.mem_cons_of_mem _ hd)
  have hfit : Fit s := fun {y c} hc i hi => by
    obtain ⟨ha, rfl⟩ := Array.getElem?_eq_some_iff.mp hc
    have q := List.all_eq_true.mp ((Array.all_eq_true_iff_forall_mem.mp hF) _ (Array.getElem_mem ha)) i (List.mem_range.mpr hi)
    simpa [Array.getElem?_eq_getElem hi] using q
  obtain ⟨hg0, hg⟩ := and_e hg
  obtain ⟨i0, ei0⟩ := is_v hg0
  obtain rfl : w0 = (.int i0) := Option.some.inj ei0
  obtain ⟨hg1, hg⟩ := and_e hg
  obtain ⟨i1, ei1⟩ := is_v hg1
  obtain rfl : w1 = (.int i1) := Option.some.inj ei1
  obtain ⟨hg2, hg⟩ := and_e hg
  obtain ⟨i2, ei2⟩ := is_v hg2
  obtain rfl : w2 = (.int i2) := Option.some.inj ei2
  obtain ⟨hg3, hg⟩ := and_e hg
  obtain ⟨i3, ei3⟩ := is_v hg3
  obtain rfl : w3 = (.int i3) := Option.some.inj ei3
  have hg4 := hg
  obtain ⟨i4, ei4⟩ := is_v hg4
  obtain rfl : w4 = (.int i4) := Option.some.inj ei4
  obtain ⟨hn0, hn⟩ := and_e hn
  obtain ⟨hn1, hn⟩ := and_e hn
  obtain ⟨hn2, hn⟩ := and_e hn
  have hn3 := hn
  obtain ⟨wU, e_wU⟩ := exa_v hn0
  obtain ⟨wR, e_wR⟩ := exa_v hn1
  have hs : ∀ d ∈ jdkStatics_1, d.before #[.int i0, .int i1, .int i2, .int i3, .int i4] s = true := (atoms_of jdkStatics_1 (own := restOwn_1) (rest_1_c_eq ▸ hrest)).1
  obtain ⟨xh, yh, ehx, ehy, -, kinh⟩ := cmp_v (Or.inl (Cond.before_iff.mp (hs _ (List.mem_of_getElem? (i := 3) rfl))))
  obtain rfl : yh = .int 127 := (Option.some.inj ((Term.int_eval 127).symm.trans ehy)).symm
  obtain ⟨zh, rfl⟩ := kinh
  have ezh : zh = 127 := by have q := Cond.before_iff.mp (hs _ (List.mem_of_getElem? (i := 3) rfl)); simpa [Cond.value, ehx, ehy] using q
  subst ezh
  have S_high : Sta s s.heap "java/lang/Integer$IntegerCache" "high" "I" (.int 127) := Sta.start ehx (Or.inl (hs _ (List.mem_of_getElem? (i := 1) rfl)))
  obtain ⟨wc, ec⟩ := arr_v (Cond.before_iff.mp (hs _ (List.mem_of_getElem? (i := 4) rfl)))
  have S_cache : Sta s s.heap "java/lang/Integer$IntegerCache" "cache" "[Ljava/lang/Integer;" (.ref wc) := Sta.start ec (Or.inr ⟨(hw _ (List.mem_of_getElem? (i := 27) rfl)), (hs _ (List.mem_of_getElem? (i := 2) rfl))⟩)
  obtain ⟨cl, A_c⟩ := Arr.start ec (Cond.before_iff.mp (hs _ (List.mem_of_getElem? (i := 4) rfl)))
  obtain ⟨hsz, hsize⟩ := IntBox.length_fwd (hs _ (List.mem_of_getElem? (i := 6) rfl)) ec A_c.1 A_c.2.1 A_c.2.2
  have h256 : cl.slots.size = 256 := by have q := len_toInt hsz; rw [hsize] at q; have q2 : (256 : Int32).toInt = 256 := rfl; omega
  have H_c := own_cache ec A_c h256 (hs _ (List.mem_of_getElem? (i := 7) rfl))
  have hS : Sf s wU wR wc cl := ⟨Sta.start e_wU (Or.inr ⟨(hw _ (List.mem_of_getElem? (i := 5) rfl)), (hw _ (List.mem_of_getElem? (i := 6) rfl))⟩), Exa.start e_wU hn0, Sta.start e_wR (Or.inr ⟨(hw _ (List.mem_of_getElem? (i := 5) rfl)), (hw _ (List.mem_of_getElem? (i := 40) rfl))⟩), Exa.start e_wR hn1, Fld.ne (ord_fld hn3 e_wU) (ord_fld hn2 e_wR) (by decide), S_high, S_cache, A_c, H_c, trivial⟩
  obtain ⟨n, o, h1, h2, h3, _, L, rfl, ⟨rfl, N⟩, hq⟩ := rm1 l s _ hw tables_1 i0 i1 i2 i3 i4 wU wR wc cl hS s.heap s.heap.size (Old.start s) p e ha hc hk s m _ below hf ((Spec.applies_iff_loose hf).mp happ).1 ⟨rfl, State.Warmed39.refl s, rfl⟩ trivial
  refine ⟨n, _, h1, h2, h3, hpost _ _ _ _ _ _ ⟨Cond.after_iff.mpr rfl, Cond.after_iff.mpr (eq_i res_at (Term.int_eval (1)) rfl), trivial⟩ ⟨hq.1, hq.2.1, (hq.2.2.sift fun y hy => Or.inr (N y hy)).mono (by decide) (by decide)⟩⟩
theorem main_1_1 : Claimed_1_1 := comes_1 fun _ _ _ _ _ _ h hF => ⟨h.1, hF⟩
theorem main_1_2 : Claimed_1_2 := comes_1 fun _ _ _ _ _ _ h hF => ⟨h.2.1, hF⟩
end Jvm.Pilot.@@N@@
namespace Jvm.Pilot.@@N@@
open Jvm Jvm.ClassFile Sem Op Lib Jvm.Free Jvm.Stand Jvm.Pilot.@@N@@.Jvm.D
/-! MADE BY PROGRAM (witnessworld.py) out of the Statement's table words and the real class files: 18 classes; the members and pool entries that the words name. The judged class is class 1, her method 2. -/
namespace start1
open Jvm.ClassFile
def u (s : String) : CpInfo := .utf8 (stringToUtf16 s)
/-- a pool by its gaps: so many unusable entries, then the entry; so many at the end -/
def gap : Nat → List CpInfo → List CpInfo
  | 0, r => r
  | n + 1, r => .unusable :: gap n r
def poolList (es : List (Nat × CpInfo)) (last : Nat) : List CpInfo := es.foldr (fun e r => gap e.1 (e.2 :: r)) (gap last [])
def pool (es : List (Nat × CpInfo)) (last : Nat) : Array CpInfo := ⟨poolList es last⟩
def fileOf (pool : Array CpInfo) (this : Nat) (attrs : Array Attribute := #[]) (ms : Array MethodInfo := #[]) (fl : Nat := 33) (sup : Nat := 0) (ifs : Array Nat := #[]) (fds : Array FieldInfo := #[]) : ClassFile where
  minorVersion := 0
  majorVersion := 65
  constantPool := pool
  accessFlags := fl
  thisClass := this
  superClass := sup
  interfaces := ifs
  fields := fds
  methods := ms
  attributes := attrs
def plain (name : String) (sup : Option ClassId) : Class where
  name := name
  kind := .ordinary
  loader := none
  accessFlags := 33
  super := sup
  interfaces := #[]
  cf := none
  fields := #[]
  methods := #[]
  instanceTypes := #[]
  staticTypes := #[]
  resolved := #[]
  callSites := []
  init := .initialized
  statics := none
  mirror := none

def pool0 : Array CpInfo := pool [(5, u "<init>"), (0, u "()V"), (1, .class_ 10), (1, u "java/lang/Object")] 113

def k0c0 : Code := { maxStack := 0, maxLocals := 1, code := object_method_1_code, exceptionTable := #[], attributes := #[] }
def k0m0 : Method := { name := "<init>", desc := "()V", sig := { parameters := [], returnType := none }, accessFlags := 1, code := some k0c0 }
/-- java/lang/Object -/
def k0 : Class := { plain "java/lang/Object" none with
  accessFlags := 33
  interfaces := #[]
  cf := some (fileOf pool0 8 #[] #[{ accessFlags := 1, nameIndex := 5, descriptorIndex := 6, attributes := #[] }] 33 0 #[] #[])
  fields := #[]
  methods := #[k0m0]
  instanceTypes := #[]
  staticTypes := #[]
  resolved := Array.replicate 124 none
  statics := none }

def pool1 : Array CpInfo := pool [(2, .class_ 4), (1, u "java/lang/Object"), (0, u "<init>"), (0, u "()V"), (0, .fieldref 8 9), (0, .class_ 10), (0, .nameAndType 11 12), (0, u "com/example/honest_replica/honestreplica/model/Credential$Kind"), (0, u "USER"), (0, u "Lcom/example/honest_replica/honestreplica/model/Credential$Kind;"), (0, .fieldref 8 14), (0, .nameAndType 15 12), (0, u "REPLICA"), (0, .methodref 17 18), (0, .class_ 19), (0, .nameAndType 20 21), (0, u "com/example/honest_replica/honestreplica/model/EntityEqualsPinLaw"), (0, u "kindOf"), (0, u "(I)Lcom/example/honest_replica/honestreplica/model/Credential$Kind;"), (0, .integer 2147483647), (0, .class_ 24), (0, u "com/example/honest_replica/honestreplica/model/Entity"), (0, .methodref 23 26), (0, .nameAndType 5 27), (0, u "(Lcom/example/honest_replica/honestreplica/model/Credential$Kind;I)V"), (0, .methodref 29 30), (0, .class_ 31), (0, .nameAndType 32 33), (0, u "java/lang/Integer"), (0, u "valueOf"), (0, u "(I)Ljava/lang/Integer;"), (0, .methodref 23 35), (0, .nameAndType 36 37), (0, u "equals"), (0, u "(Ljava/lang/Object;)Z"), (3, u "law"), (0, u "(IIIII)Z")] 6

def k1m0 : Method := { name := "<init>", desc := "()V", sig := { parameters := [], returnType := none }, accessFlags := 2, code := none }
def k1c1 : Code := { maxStack := 2, maxLocals := 1, code := method_2_code, exceptionTable := #[], attributes := #[] }
def k1m1 : Method := { name := "kindOf", desc := "(I)Lcom/example/honest_replica/honestreplica/model/Credential$Kind;", sig := { parameters := [.int], returnType := some (.object "com/example/honest_replica/honestreplica/model/Credential$Kind") }, accessFlags := 10, code := some k1c1 }
def k1c2 : Code := { maxStack := 4, maxLocals := 18, code := code, exceptionTable := #[], attributes := #[] }
def k1m2 : Method := { name := "law", desc := "(IIIII)Z", sig := { parameters := [.int, .int, .int, .int, .int], returnType := some .boolean }, accessFlags := 9, code := some k1c2 }
/-- com/example/honest_replica/honestreplica/model/EntityEqualsPinLaw -/
def k1 : Class := { plain "com/example/honest_replica/honestreplica/model/EntityEqualsPinLaw" (some 0) with
  accessFlags := 49
  interfaces := #[]
  cf := some (fileOf pool1 17 #[] #[{ accessFlags := 2, nameIndex := 5, descriptorIndex := 6, attributes := #[] }, { accessFlags := 10, nameIndex := 20, descriptorIndex := 21, attributes := #[] }, { accessFlags := 9, nameIndex := 41, descriptorIndex := 42, attributes := #[] }] 49 2 #[] #[])
  fields := #[]
  methods := #[k1m0, k1m1, k1m2]
  instanceTypes := #[]
  staticTypes := #[]
  resolved := Array.replicate 49 none
  statics := none }

def pool2 : Array CpInfo := pool [(1, .class_ 2), (0, u "java/lang/constant/Constable"), (0, .class_ 4), (0, u "java/lang/Object")] 6

/-- java/lang/constant/Constable -/
def k2 : Class := { plain "java/lang/constant/Constable" (some 0) with
  accessFlags := 1537
  interfaces := #[]
  cf := some (fileOf pool2 1 #[] #[] 1537 3 #[] #[])
  fields := #[]
  methods := #[]
  instanceTypes := #[]
  staticTypes := #[]
  resolved := Array.replicate 11 none
  statics := none }

def pool3 : Array CpInfo := pool [(1, .class_ 2), (0, u "java/lang/Comparable"), (0, .class_ 4), (0, u "java/lang/Object")] 7

/-- java/lang/Comparable -/
def k3 : Class := { plain "java/lang/Comparable" (some 0) with
  accessFlags := 1537
  interfaces := #[]
  cf := some (fileOf pool3 1 #[] #[] 1537 3 #[] #[])
  fields := #[]
  methods := #[]
  instanceTypes := #[]
  staticTypes := #[]
  resolved := Array.replicate 12 none
  statics := none }

def pool4 : Array CpInfo := pool [(1, .class_ 2), (0, u "java/io/Serializable"), (0, .class_ 4), (0, u "java/lang/Object")] 2

/-- java/io/Serializable -/
def k4 : Class := { plain "java/io/Serializable" (some 0) with
  accessFlags := 1537
  interfaces := #[]
  cf := some (fileOf pool4 1 #[] #[] 1537 3 #[] #[])
  fields := #[]
  methods := #[]
  instanceTypes := #[]
  staticTypes := #[]
  resolved := Array.replicate 7 none
  statics := none }

def pool5 : Array CpInfo := pool [(2, .class_ 4), (1, u "java/lang/Enum"), (0, u "name"), (0, u "Ljava/lang/String;"), (2, u "ordinal"), (0, u "I"), (1, .class_ 14), (1, u "java/lang/Object"), (4, u "hash"), (86, .class_ 108), (1, u "java/lang/Enum$EnumDesc"), (2, .class_ 112), (0, u "java/lang/constant/Constable"), (0, .class_ 114), (0, u "java/lang/Comparable"), (0, .class_ 116), (0, u "java/io/Serializable")] 87

/-- java/lang/Enum -/
def k5 : Class := { plain "java/lang/Enum" (some 0) with
  accessFlags := 1057
  interfaces := #[2, 3, 4]
  cf := some (fileOf pool5 2 #[.nestMembers #[106]] #[] 1057 12 #[111, 113, 115] #[{ accessFlags := 18, nameIndex := 5, descriptorIndex := 6, attributes := #[] }, { accessFlags := 18, nameIndex := 9, descriptorIndex := 10, attributes := #[] }, { accessFlags := 2, nameIndex := 19, descriptorIndex := 10, attributes := #[] }])
  fields := #[{ name := "name", type := (.object "java/lang/String"), accessFlags := 18, slot := 0, constantValue := 0 }, { name := "ordinal", type := .int, accessFlags := 18, slot := 1, constantValue := 0 }, { name := "hash", type := .int, accessFlags := 2, slot := 2, constantValue := 0 }]
  methods := #[]
  instanceTypes := #[(.object "java/lang/String"), .int, .int]
  staticTypes := #[]
  resolved := Array.replicate 204 none
  statics := none }

def pool6 : Array CpInfo := pool [(1, .class_ 2), (0, u "com/example/honest_replica/honestreplica/model/Credential$Kind"), (2, u "USER"), (0, u "Lcom/example/honest_replica/honestreplica/model/Credential$Kind;"), (2, u "REPLICA"), (2, u "ADMIN"), (2, u "OBJECT"), (2, u "$VALUES"), (0, u "[Lcom/example/honest_replica/honestreplica/model/Credential$Kind;"), (6, .class_ 28), (1, u "java/lang/Enum"), (8, u "name"), (0, u "Ljava/lang/String;"), (52, .class_ 92), (0, u "com/example/honest_replica/honestreplica/model/Credential")] 16

/-- com/example/honest_replica/honestreplica/model/Credential$Kind -/
def k6 : Class := { plain "com/example/honest_replica/honestreplica/model/Credential$Kind" (some 5) with
  accessFlags := 16433
  interfaces := #[]
  cf := some (fileOf pool6 1 #[.nestHost 91] #[] 16433 26 #[] #[{ accessFlags := 16409, nameIndex := 5, descriptorIndex := 6, attributes := #[] }, { accessFlags := 16409, nameIndex := 9, descriptorIndex := 6, attributes := #[] }, { accessFlags := 16409, nameIndex := 12, descriptorIndex := 6, attributes := #[] }, { accessFlags := 16409, nameIndex := 15, descriptorIndex := 6, attributes := #[] }, { accessFlags := 18, nameIndex := 37, descriptorIndex := 38, attributes := #[] }, { accessFlags := 4122, nameIndex := 18, descriptorIndex := 19, attributes := #[] }])
  fields := #[{ name := "USER", type := (.object "com/example/honest_replica/honestreplica/model/Credential$Kind"), accessFlags := 16409, slot := 0, constantValue := 0 }, { name := "REPLICA", type := (.object "com/example/honest_replica/honestreplica/model/Credential$Kind"), accessFlags := 16409, slot := 1, constantValue := 0 }, { name := "ADMIN", type := (.object "com/example/honest_replica/honestreplica/model/Credential$Kind"), accessFlags := 16409, slot := 2, constantValue := 0 }, { name := "OBJECT", type := (.object "com/example/honest_replica/honestreplica/model/Credential$Kind"), accessFlags := 16409, slot := 3, constantValue := 0 }, { name := "name", type := (.object "java/lang/String"), accessFlags := 18, slot := 3, constantValue := 0 }, { name := "$VALUES", type := (.array (.object "com/example/honest_replica/honestreplica/model/Credential$Kind")), accessFlags := 4122, slot := 4, constantValue := 0 }]
  methods := #[]
  instanceTypes := #[(.object "java/lang/String"), .int, .int, (.object "java/lang/String")]
  staticTypes := #[(.object "com/example/honest_replica/honestreplica/model/Credential$Kind"), (.object "com/example/honest_replica/honestreplica/model/Credential$Kind"), (.object "com/example/honest_replica/honestreplica/model/Credential$Kind"), (.object "com/example/honest_replica/honestreplica/model/Credential$Kind"), (.array (.object "com/example/honest_replica/honestreplica/model/Credential$Kind"))]
  resolved := Array.replicate 109 none
  statics := some 0 }

def pool7 : Array CpInfo := pool [(1, .methodref 2 3), (0, .class_ 4), (0, .nameAndType 5 6), (0, u "java/lang/Object"), (0, u "<init>"), (0, u "()V"), (0, .fieldref 8 9), (0, .class_ 10), (0, .nameAndType 11 12), (0, u "com/example/honest_replica/honestreplica/model/Credential$Kind"), (0, u "USER"), (0, u "Lcom/example/honest_replica/honestreplica/model/Credential$Kind;"), (0, .fieldref 8 14), (0, .nameAndType 15 12), (0, u "REPLICA"), (16, .fieldref 33 34), (0, .class_ 35), (0, .nameAndType 36 12), (0, u "com/example/honest_replica/honestreplica/model/Entity"), (0, u "kind"), (0, .fieldref 33 38), (0, .nameAndType 39 40), (0, u "id"), (0, u "I"), (15, u "(Lcom/example/honest_replica/honestreplica/model/Credential$Kind;I)V"), (8, u "equals"), (0, u "(Ljava/lang/Object;)Z")] 25

def k7c0 : Code := { maxStack := 3, maxLocals := 3, code := prog_34_method_1_code, exceptionTable := #[], attributes := #[] }
def k7m0 : Method := { name := "<init>", desc := "(Lcom/example/honest_replica/honestreplica/model/Credential$Kind;I)V", sig := { parameters := [(.object "com/example/honest_replica/honestreplica/model/Credential$Kind"), .int], returnType := none }, accessFlags := 1, code := some k7c0 }
def k7c1 : Code := { maxStack := 2, maxLocals := 3, code := prog_34_method_5_code, exceptionTable := #[], attributes := #[] }
def k7m1 : Method := { name := "equals", desc := "(Ljava/lang/Object;)Z", sig := { parameters := [(.object "java/lang/Object")], returnType := some .boolean }, accessFlags := 1, code := some k7c1 }
/-- com/example/honest_replica/honestreplica/model/Entity -/
def k7 : Class := { plain "com/example/honest_replica/honestreplica/model/Entity" (some 0) with
  accessFlags := 33
  interfaces := #[]
  cf := some (fileOf pool7 33 #[] #[{ accessFlags := 1, nameIndex := 5, descriptorIndex := 56, attributes := #[] }, { accessFlags := 1, nameIndex := 65, descriptorIndex := 66, attributes := #[] }] 33 2 #[] #[{ accessFlags := 18, nameIndex := 36, descriptorIndex := 12, attributes := #[] }, { accessFlags := 18, nameIndex := 39, descriptorIndex := 40, attributes := #[] }])
  fields := #[{ name := "kind", type := (.object "com/example/honest_replica/honestreplica/model/Credential$Kind"), accessFlags := 18, slot := 0, constantValue := 0 }, { name := "id", type := .int, accessFlags := 18, slot := 1, constantValue := 0 }]
  methods := #[k7m0, k7m1]
  instanceTypes := #[(.object "com/example/honest_replica/honestreplica/model/Credential$Kind"), .int]
  staticTypes := #[]
  resolved := Array.replicate 92 none
  statics := none }

def pool8 : Array CpInfo := pool [(1, .methodref 2 3), (0, .class_ 4), (0, .nameAndType 5 6), (0, u "java/lang/Object"), (0, u "<init>"), (0, u "()V"), (1, .class_ 10), (1, u "java/lang/Number"), (2, .class_ 14), (0, u "java/io/Serializable"), (0, u "serialVersionUID"), (0, u "J")] 20

def k8c0 : Code := { maxStack := 1, maxLocals := 1, code := jdk_18_method_1_code, exceptionTable := #[], attributes := #[] }
def k8m0 : Method := { name := "<init>", desc := "()V", sig := { parameters := [], returnType := none }, accessFlags := 1, code := some k8c0 }
/-- java/lang/Number -/
def k8 : Class := { plain "java/lang/Number" (some 0) with
  accessFlags := 1057
  interfaces := #[4]
  cf := some (fileOf pool8 8 #[] #[{ accessFlags := 1, nameIndex := 5, descriptorIndex := 6, attributes := #[] }] 1057 2 #[13] #[{ accessFlags := 26, nameIndex := 15, descriptorIndex := 16, attributes := #[] }])
  fields := #[{ name := "serialVersionUID", type := .long, accessFlags := 26, slot := 0, constantValue := 0 }]
  methods := #[k8m0]
  instanceTypes := #[]
  staticTypes := #[.long]
  resolved := Array.replicate 37 none
  statics := none }

def pool9 : Array CpInfo := pool [(1, .class_ 2), (0, u "java/lang/constant/ConstantDesc"), (0, .class_ 4), (0, u "java/lang/Object")] 32

/-- java/lang/constant/ConstantDesc -/
def k9 : Class := { plain "java/lang/constant/ConstantDesc" (some 0) with
  accessFlags := 1537
  interfaces := #[]
  cf := some (fileOf pool9 1 #[] #[] 1537 3 #[] #[])
  fields := #[]
  methods := #[]
  instanceTypes := #[]
  staticTypes := #[]
  resolved := Array.replicate 37 none
  statics := none }

def pool10 : Array CpInfo := pool [(1, .class_ 2), (0, u "java/lang/Integer"), (16, u "digits"), (0, u "[C"), (46, u "<init>"), (17, u "DigitOnes"), (0, u "[B"), (2, u "DigitTens"), (10, .nameAndType 67 101), (0, u "()V"), (85, u "valueOf"), (0, u "(I)Ljava/lang/Integer;"), (0, .class_ 190), (0, u "java/lang/Integer$IntegerCache"), (0, .fieldref 189 192), (0, .nameAndType 193 194), (0, u "high"), (0, u "I"), (0, .fieldref 189 196), (0, .nameAndType 197 198), (0, u "cache"), (0, u "[Ljava/lang/Integer;"), (0, .methodref 1 200), (0, .nameAndType 67 201), (0, u "(I)V"), (0, .methodref 203 100), (0, .class_ 204), (0, u "java/lang/Number"), (0, .fieldref 1 206), (0, .nameAndType 207 194), (0, u "value"), (94, u "TYPE"), (0, u "Ljava/lang/Class;"), (0, .class_ 305), (0, u "java/lang/Comparable"), (0, .class_ 307), (0, u "java/lang/constant/Constable"), (0, .class_ 309), (0, u "java/lang/constant/ConstantDesc"), (0, u "MIN_VALUE"), (1, u "MAX_VALUE"), (3, u "SIZE"), (1, u "BYTES"), (1, u "serialVersionUID"), (0, u "J")] 131

def k10c0 : Code := { maxStack := 3, maxLocals := 1, code := jdk_33_method_22_code, exceptionTable := #[], attributes := #[] }
def k10m0 : Method := { name := "valueOf", desc := "(I)Ljava/lang/Integer;", sig := { parameters := [.int], returnType := some (.object "java/lang/Integer") }, accessFlags := 9, code := some k10c0 }
def k10c1 : Code := { maxStack := 2, maxLocals := 2, code := jdk_33_method_23_code, exceptionTable := #[], attributes := #[] }
def k10m1 : Method := { name := "<init>", desc := "(I)V", sig := { parameters := [.int], returnType := none }, accessFlags := 1, code := some k10c1 }
/-- java/lang/Integer -/
def k10 : Class := { plain "java/lang/Integer" (some 8) with
  accessFlags := 49
  interfaces := #[3, 2, 9]
  cf := some (fileOf pool10 1 #[.nestMembers #[189]] #[{ accessFlags := 9, nameIndex := 187, descriptorIndex := 188, attributes := #[] }, { accessFlags := 1, nameIndex := 67, descriptorIndex := 201, attributes := #[] }] 49 203 #[304, 306, 308] #[{ accessFlags := 25, nameIndex := 310, descriptorIndex := 194, attributes := #[] }, { accessFlags := 25, nameIndex := 312, descriptorIndex := 194, attributes := #[] }, { accessFlags := 25, nameIndex := 302, descriptorIndex := 303, attributes := #[] }, { accessFlags := 24, nameIndex := 19, descriptorIndex := 20, attributes := #[] }, { accessFlags := 24, nameIndex := 89, descriptorIndex := 86, attributes := #[] }, { accessFlags := 24, nameIndex := 85, descriptorIndex := 86, attributes := #[] }, { accessFlags := 18, nameIndex := 207, descriptorIndex := 194, attributes := #[] }, { accessFlags := 25, nameIndex := 316, descriptorIndex := 194, attributes := #[] }, { accessFlags := 25, nameIndex := 318, descriptorIndex := 194, attributes := #[] }, { accessFlags := 26, nameIndex := 320, descriptorIndex := 321, attributes := #[] }])
  fields := #[{ name := "MIN_VALUE", type := .int, accessFlags := 25, slot := 0, constantValue := 0 }, { name := "MAX_VALUE", type := .int, accessFlags := 25, slot := 1, constantValue := 0 }, { name := "TYPE", type := (.object "java/lang/Class"), accessFlags := 25, slot := 2, constantValue := 0 }, { name := "digits", type := (.array .char), accessFlags := 24, slot := 3, constantValue := 0 }, { name := "DigitTens", type := (.array .byte), accessFlags := 24, slot := 4, constantValue := 0 }, { name := "DigitOnes", type := (.array .byte), accessFlags := 24, slot := 5, constantValue := 0 }, { name := "value", type := .int, accessFlags := 18, slot := 0, constantValue := 0 }, { name := "SIZE", type := .int, accessFlags := 25, slot := 6, constantValue := 0 }, { name := "BYTES", type := .int, accessFlags := 25, slot := 7, constantValue := 0 }, { name := "serialVersionUID", type := .long, accessFlags := 26, slot := 8, constantValue := 0 }]
  methods := #[k10m0, k10m1]
  instanceTypes := #[.int]
  staticTypes := #[.int, .int, (.object "java/lang/Class"), (.array .char), (.array .byte), (.array .byte), .int, .int, .long]
  resolved := Array.replicate 453 none
  statics := none }

def pool11 : Array CpInfo := pool [(2, .class_ 4), (1, u "java/lang/Object"), (0, u "<init>"), (0, u "()V"), (0, .class_ 8), (0, u "java/lang/Integer"), (7, .class_ 18), (1, u "java/lang/Integer$IntegerCache"), (0, u "$assertionsDisabled"), (0, u "Z"), (26, u "high"), (0, u "I"), (8, u "archivedCache"), (0, u "[Ljava/lang/Integer;"), (12, u "cache"), (0, u "low")] 27

def k11m0 : Method := { name := "<init>", desc := "()V", sig := { parameters := [], returnType := none }, accessFlags := 2, code := none }
/-- java/lang/Integer$IntegerCache -/
def k11 : Class := { plain "java/lang/Integer$IntegerCache" (some 0) with
  accessFlags := 48
  interfaces := #[]
  cf := some (fileOf pool11 16 #[.nestHost 7] #[{ accessFlags := 2, nameIndex := 5, descriptorIndex := 6, attributes := #[] }] 48 2 #[] #[{ accessFlags := 24, nameIndex := 72, descriptorIndex := 48, attributes := #[] }, { accessFlags := 24, nameIndex := 47, descriptorIndex := 48, attributes := #[] }, { accessFlags := 24, nameIndex := 71, descriptorIndex := 58, attributes := #[] }, { accessFlags := 8, nameIndex := 57, descriptorIndex := 58, attributes := #[] }, { accessFlags := 4120, nameIndex := 19, descriptorIndex := 20, attributes := #[] }])
  fields := #[{ name := "low", type := .int, accessFlags := 24, slot := 0, constantValue := 0 }, { name := "high", type := .int, accessFlags := 24, slot := 1, constantValue := 0 }, { name := "cache", type := (.array (.object "java/lang/Integer")), accessFlags := 24, slot := 2, constantValue := 0 }, { name := "archivedCache", type := (.array (.object "java/lang/Integer")), accessFlags := 8, slot := 3, constantValue := 0 }, { name := "$assertionsDisabled", type := .boolean, accessFlags := 4120, slot := 4, constantValue := 0 }]
  methods := #[k11m0]
  instanceTypes := #[]
  staticTypes := #[.int, .int, (.array (.object "java/lang/Integer")), (.array (.object "java/lang/Integer")), .boolean]
  resolved := Array.replicate 100 none
  statics := some 1 }

def pool12 : Array CpInfo := pool [(1, u "java/lang/Cloneable"), (0, .class_ 1), (0, u "java/lang/Object"), (0, .class_ 3)] 3

/-- java/lang/Cloneable -/
def k12 : Class := { plain "java/lang/Cloneable" (some 0) with
  accessFlags := 1537
  interfaces := #[]
  cf := some (fileOf pool12 2 #[] #[] 1537 4 #[] #[])
  fields := #[]
  methods := #[]
  instanceTypes := #[]
  staticTypes := #[]
  resolved := Array.replicate 8 none
  statics := none }

/-- the primitive byte -/
def k13 : Class := { plain "byte" none with kind := .primitive 'B', accessFlags := 0x411 }
/-- [B -/
def k14 : Class := { plain "[B" (some 0) with kind := .array 13 .byte, interfaces := #[12, 4], accessFlags := 1041 }

/-- the primitive int -/
def k15 : Class := { plain "int" none with kind := .primitive 'I', accessFlags := 0x411 }
/-- [I -/
def k16 : Class := { plain "[I" (some 0) with kind := .array 15 .int, interfaces := #[12, 4], accessFlags := 1041 }

/-- [Ljava/lang/Integer; -/
def k17 : Class := { plain "[Ljava/lang/Integer;" (some 0) with kind := .array 10 (.object "java/lang/Integer"), interfaces := #[12, 4], accessFlags := 1041 }

def heap : Heap := #[{ cls := 6, slots := #[.ref 259, .ref 260, .null, .null, .null], vm := .statics 6 },
  { cls := 11, slots := #[.int 0, .int 127, .ref 2, .null, .int 0], vm := .statics 11 },
  { cls := 17, slots := #[.ref 3, .ref 4, .ref 5, .ref 6, .ref 7, .ref 8, .ref 9, .ref 10, .ref 11, .ref 12, .ref 13, .ref 14, .ref 15, .ref 16, .ref 17, .ref 18, .ref 19, .ref 20, .ref 21, .ref 22, .ref 23, .ref 24, .ref 25, .ref 26, .ref 27, .ref 28, .ref 29, .ref 30, .ref 31, .ref 32, .ref 33, .ref 34, .ref 35, .ref 36, .ref 37, .ref 38, .ref 39, .ref 40, .ref 41, .ref 42, .ref 43, .ref 44, .ref 45, .ref 46, .ref 47, .ref 48, .ref 49, .ref 50, .ref 51, .ref 52, .ref 53, .ref 54, .ref 55, .ref 56, .ref 57, .ref 58, .ref 59, .ref 60, .ref 61, .ref 62, .ref 63, .ref 64, .ref 65, .ref 66, .ref 67, .ref 68, .ref 69, .ref 70, .ref 71, .ref 72, .ref 73, .ref 74, .ref 75, .ref 76, .ref 77, .ref 78, .ref 79, .ref 80, .ref 81, .ref 82, .ref 83, .ref 84, .ref 85, .ref 86, .ref 87, .ref 88, .ref 89, .ref 90, .ref 91, .ref 92, .ref 93, .ref 94, .ref 95, .ref 96, .ref 97, .ref 98, .ref 99, .ref 100, .ref 101, .ref 102, .ref 103, .ref 104, .ref 105, .ref 106, .ref 107, .ref 108, .ref 109, .ref 110, .ref 111, .ref 112, .ref 113, .ref 114, .ref 115, .ref 116, .ref 117, .ref 118, .ref 119, .ref 120, .ref 121, .ref 122, .ref 123, .ref 124, .ref 125, .ref 126, .ref 127, .ref 128, .ref 129, .ref 130, .ref 131, .ref 132, .ref 133, .ref 134, .ref 135, .ref 136, .ref 137, .ref 138, .ref 139, .ref 140, .ref 141, .ref 142, .ref 143, .ref 144, .ref 145, .ref 146, .ref 147, .ref 148, .ref 149, .ref 150, .ref 151, .ref 152, .ref 153, .ref 154, .ref 155, .ref 156, .ref 157, .ref 158, .ref 159, .ref 160, .ref 161, .ref 162, .ref 163, .ref 164, .ref 165, .ref 166, .ref 167, .ref 168, .ref 169, .ref 170, .ref 171, .ref 172, .ref 173, .ref 174, .ref 175, .ref 176, .ref 177, .ref 178, .ref 179, .ref 180, .ref 181, .ref 182, .ref 183, .ref 184, .ref 185, .ref 186, .ref 187, .ref 188, .ref 189, .ref 190, .ref 191, .ref 192, .ref 193, .ref 194, .ref 195, .ref 196, .ref 197, .ref 198, .ref 199, .ref 200, .ref 201, .ref 202, .ref 203, .ref 204, .ref 205, .ref 206, .ref 207, .ref 208, .ref 209, .ref 210, .ref 211, .ref 212, .ref 213, .ref 214, .ref 215, .ref 216, .ref 217, .ref 218, .ref 219, .ref 220, .ref 221, .ref 222, .ref 223, .ref 224, .ref 225, .ref 226, .ref 227, .ref 228, .ref 229, .ref 230, .ref 231, .ref 232, .ref 233, .ref 234, .ref 235, .ref 236, .ref 237, .ref 238, .ref 239, .ref 240, .ref 241, .ref 242, .ref 243, .ref 244, .ref 245, .ref 246, .ref 247, .ref 248, .ref 249, .ref 250, .ref 251, .ref 252, .ref 253, .ref 254, .ref 255, .ref 256, .ref 257, .ref 258], vm := .none },
  { cls := 10, slots := #[.int (-128)], vm := .none },
  { cls := 10, slots := #[.int (-127)], vm := .none },
  { cls := 10, slots := #[.int (-126)], vm := .none },
  { cls := 10, slots := #[.int (-125)], vm := .none },
  { cls := 10, slots := #[.int (-124)], vm := .none },
  { cls := 10, slots := #[.int (-123)], vm := .none },
  { cls := 10, slots := #[.int (-122)], vm := .none },
  { cls := 10, slots := #[.int (-121)], vm := .none },
  { cls := 10, slots := #[.int (-120)], vm := .none },
  { cls := 10, slots := #[.int (-119)], vm := .none },
  { cls := 10, slots := #[.int (-118)], vm := .none },
  { cls := 10, slots := #[.int (-117)], vm := .none },
  { cls := 10, slots := #[.int (-116)], vm := .none },
  { cls := 10, slots := #[.int (-115)], vm := .none },
  { cls := 10, slots := #[.int (-114)], vm := .none },
  { cls := 10, slots := #[.int (-113)], vm := .none },
  { cls := 10, slots := #[.int (-112)], vm := .none },
  { cls := 10, slots := #[.int (-111)], vm := .none },
  { cls := 10, slots := #[.int (-110)], vm := .none },
  { cls := 10, slots := #[.int (-109)], vm := .none },
  { cls := 10, slots := #[.int (-108)], vm := .none },
  { cls := 10, slots := #[.int (-107)], vm := .none },
  { cls := 10, slots := #[.int (-106)], vm := .none },
  { cls := 10, slots := #[.int (-105)], vm := .none },
  { cls := 10, slots := #[.int (-104)], vm := .none },
  { cls := 10, slots := #[.int (-103)], vm := .none },
  { cls := 10, slots := #[.int (-102)], vm := .none },
  { cls := 10, slots := #[.int (-101)], vm := .none },
  { cls := 10, slots := #[.int (-100)], vm := .none },
  { cls := 10, slots := #[.int (-99)], vm := .none },
  { cls := 10, slots := #[.int (-98)], vm := .none },
  { cls := 10, slots := #[.int (-97)], vm := .none },
  { cls := 10, slots := #[.int (-96)], vm := .none },
  { cls := 10, slots := #[.int (-95)], vm := .none },
  { cls := 10, slots := #[.int (-94)], vm := .none },
  { cls := 10, slots := #[.int (-93)], vm := .none },
  { cls := 10, slots := #[.int (-92)], vm := .none },
  { cls := 10, slots := #[.int (-91)], vm := .none },
  { cls := 10, slots := #[.int (-90)], vm := .none },
  { cls := 10, slots := #[.int (-89)], vm := .none },
  { cls := 10, slots := #[.int (-88)], vm := .none },
  { cls := 10, slots := #[.int (-87)], vm := .none },
  { cls := 10, slots := #[.int (-86)], vm := .none },
  { cls := 10, slots := #[.int (-85)], vm := .none },
  { cls := 10, slots := #[.int (-84)], vm := .none },
  { cls := 10, slots := #[.int (-83)], vm := .none },
  { cls := 10, slots := #[.int (-82)], vm := .none },
  { cls := 10, slots := #[.int (-81)], vm := .none },
  { cls := 10, slots := #[.int (-80)], vm := .none },
  { cls := 10, slots := #[.int (-79)], vm := .none },
  { cls := 10, slots := #[.int (-78)], vm := .none },
  { cls := 10, slots := #[.int (-77)], vm := .none },
  { cls := 10, slots := #[.int (-76)], vm := .none },
  { cls := 10, slots := #[.int (-75)], vm := .none },
  { cls := 10, slots := #[.int (-74)], vm := .none },
  { cls := 10, slots := #[.int (-73)], vm := .none },
  { cls := 10, slots := #[.int (-72)], vm := .none },
  { cls := 10, slots := #[.int (-71)], vm := .none },
  { cls := 10, slots := #[.int (-70)], vm := .none },
  { cls := 10, slots := #[.int (-69)], vm := .none },
  { cls := 10, slots := #[.int (-68)], vm := .none },
  { cls := 10, slots := #[.int (-67)], vm := .none },
  { cls := 10, slots := #[.int (-66)], vm := .none },
  { cls := 10, slots := #[.int (-65)], vm := .none },
  { cls := 10, slots := #[.int (-64)], vm := .none },
  { cls := 10, slots := #[.int (-63)], vm := .none },
  { cls := 10, slots := #[.int (-62)], vm := .none },
  { cls := 10, slots := #[.int (-61)], vm := .none },
  { cls := 10, slots := #[.int (-60)], vm := .none },
  { cls := 10, slots := #[.int (-59)], vm := .none },
  { cls := 10, slots := #[.int (-58)], vm := .none },
  { cls := 10, slots := #[.int (-57)], vm := .none },
  { cls := 10, slots := #[.int (-56)], vm := .none },
  { cls := 10, slots := #[.int (-55)], vm := .none },
  { cls := 10, slots := #[.int (-54)], vm := .none },
  { cls := 10, slots := #[.int (-53)], vm := .none },
  { cls := 10, slots := #[.int (-52)], vm := .none },
  { cls := 10, slots := #[.int (-51)], vm := .none },
  { cls := 10, slots := #[.int (-50)], vm := .none },
  { cls := 10, slots := #[.int (-49)], vm := .none },
  { cls := 10, slots := #[.int (-48)], vm := .none },
  { cls := 10, slots := #[.int (-47)], vm := .none },
  { cls := 10, slots := #[.int (-46)], vm := .none },
  { cls := 10, slots := #[.int (-45)], vm := .none },
  { cls := 10, slots := #[.int (-44)], vm := .none },
  { cls := 10, slots := #[.int (-43)], vm := .none },
  { cls := 10, slots := #[.int (-42)], vm := .none },
  { cls := 10, slots := #[.int (-41)], vm := .none },
  { cls := 10, slots := #[.int (-40)], vm := .none },
  { cls := 10, slots := #[.int (-39)], vm := .none },
  { cls := 10, slots := #[.int (-38)], vm := .none },
  { cls := 10, slots := #[.int (-37)], vm := .none },
  { cls := 10, slots := #[.int (-36)], vm := .none },
  { cls := 10, slots := #[.int (-35)], vm := .none },
  { cls := 10, slots := #[.int (-34)], vm := .none },
  { cls := 10, slots := #[.int (-33)], vm := .none },
  { cls := 10, slots := #[.int (-32)], vm := .none },
  { cls := 10, slots := #[.int (-31)], vm := .none },
  { cls := 10, slots := #[.int (-30)], vm := .none },
  { cls := 10, slots := #[.int (-29)], vm := .none },
  { cls := 10, slots := #[.int (-28)], vm := .none },
  { cls := 10, slots := #[.int (-27)], vm := .none },
  { cls := 10, slots := #[.int (-26)], vm := .none },
  { cls := 10, slots := #[.int (-25)], vm := .none },
  { cls := 10, slots := #[.int (-24)], vm := .none },
  { cls := 10, slots := #[.int (-23)], vm := .none },
  { cls := 10, slots := #[.int (-22)], vm := .none },
  { cls := 10, slots := #[.int (-21)], vm := .none },
  { cls := 10, slots := #[.int (-20)], vm := .none },
  { cls := 10, slots := #[.int (-19)], vm := .none },
  { cls := 10, slots := #[.int (-18)], vm := .none },
  { cls := 10, slots := #[.int (-17)], vm := .none },
  { cls := 10, slots := #[.int (-16)], vm := .none },
  { cls := 10, slots := #[.int (-15)], vm := .none },
  { cls := 10, slots := #[.int (-14)], vm := .none },
  { cls := 10, slots := #[.int (-13)], vm := .none },
  { cls := 10, slots := #[.int (-12)], vm := .none },
  { cls := 10, slots := #[.int (-11)], vm := .none },
  { cls := 10, slots := #[.int (-10)], vm := .none },
  { cls := 10, slots := #[.int (-9)], vm := .none },
  { cls := 10, slots := #[.int (-8)], vm := .none },
  { cls := 10, slots := #[.int (-7)], vm := .none },
  { cls := 10, slots := #[.int (-6)], vm := .none },
  { cls := 10, slots := #[.int (-5)], vm := .none },
  { cls := 10, slots := #[.int (-4)], vm := .none },
  { cls := 10, slots := #[.int (-3)], vm := .none },
  { cls := 10, slots := #[.int (-2)], vm := .none },
  { cls := 10, slots := #[.int (-1)], vm := .none },
  { cls := 10, slots := #[.int (0)], vm := .none },
  { cls := 10, slots := #[.int (1)], vm := .none },
  { cls := 10, slots := #[.int (2)], vm := .none },
  { cls := 10, slots := #[.int (3)], vm := .none },
  { cls := 10, slots := #[.int (4)], vm := .none },
  { cls := 10, slots := #[.int (5)], vm := .none },
  { cls := 10, slots := #[.int (6)], vm := .none },
  { cls := 10, slots := #[.int (7)], vm := .none },
  { cls := 10, slots := #[.int (8)], vm := .none },
  { cls := 10, slots := #[.int (9)], vm := .none },
  { cls := 10, slots := #[.int (10)], vm := .none },
  { cls := 10, slots := #[.int (11)], vm := .none },
  { cls := 10, slots := #[.int (12)], vm := .none },
  { cls := 10, slots := #[.int (13)], vm := .none },
  { cls := 10, slots := #[.int (14)], vm := .none },
  { cls := 10, slots := #[.int (15)], vm := .none },
  { cls := 10, slots := #[.int (16)], vm := .none },
  { cls := 10, slots := #[.int (17)], vm := .none },
  { cls := 10, slots := #[.int (18)], vm := .none },
  { cls := 10, slots := #[.int (19)], vm := .none },
  { cls := 10, slots := #[.int (20)], vm := .none },
  { cls := 10, slots := #[.int (21)], vm := .none },
  { cls := 10, slots := #[.int (22)], vm := .none },
  { cls := 10, slots := #[.int (23)], vm := .none },
  { cls := 10, slots := #[.int (24)], vm := .none },
  { cls := 10, slots := #[.int (25)], vm := .none },
  { cls := 10, slots := #[.int (26)], vm := .none },
  { cls := 10, slots := #[.int (27)], vm := .none },
  { cls := 10, slots := #[.int (28)], vm := .none },
  { cls := 10, slots := #[.int (29)], vm := .none },
  { cls := 10, slots := #[.int (30)], vm := .none },
  { cls := 10, slots := #[.int (31)], vm := .none },
  { cls := 10, slots := #[.int (32)], vm := .none },
  { cls := 10, slots := #[.int (33)], vm := .none },
  { cls := 10, slots := #[.int (34)], vm := .none },
  { cls := 10, slots := #[.int (35)], vm := .none },
  { cls := 10, slots := #[.int (36)], vm := .none },
  { cls := 10, slots := #[.int (37)], vm := .none },
  { cls := 10, slots := #[.int (38)], vm := .none },
  { cls := 10, slots := #[.int (39)], vm := .none },
  { cls := 10, slots := #[.int (40)], vm := .none },
  { cls := 10, slots := #[.int (41)], vm := .none },
  { cls := 10, slots := #[.int (42)], vm := .none },
  { cls := 10, slots := #[.int (43)], vm := .none },
  { cls := 10, slots := #[.int (44)], vm := .none },
  { cls := 10, slots := #[.int (45)], vm := .none },
  { cls := 10, slots := #[.int (46)], vm := .none },
  { cls := 10, slots := #[.int (47)], vm := .none },
  { cls := 10, slots := #[.int (48)], vm := .none },
  { cls := 10, slots := #[.int (49)], vm := .none },
  { cls := 10, slots := #[.int (50)], vm := .none },
  { cls := 10, slots := #[.int (51)], vm := .none },
  { cls := 10, slots := #[.int (52)], vm := .none },
  { cls := 10, slots := #[.int (53)], vm := .none },
  { cls := 10, slots := #[.int (54)], vm := .none },
  { cls := 10, slots := #[.int (55)], vm := .none },
  { cls := 10, slots := #[.int (56)], vm := .none },
  { cls := 10, slots := #[.int (57)], vm := .none },
  { cls := 10, slots := #[.int (58)], vm := .none },
  { cls := 10, slots := #[.int (59)], vm := .none },
  { cls := 10, slots := #[.int (60)], vm := .none },
  { cls := 10, slots := #[.int (61)], vm := .none },
  { cls := 10, slots := #[.int (62)], vm := .none },
  { cls := 10, slots := #[.int (63)], vm := .none },
  { cls := 10, slots := #[.int (64)], vm := .none },
  { cls := 10, slots := #[.int (65)], vm := .none },
  { cls := 10, slots := #[.int (66)], vm := .none },
  { cls := 10, slots := #[.int (67)], vm := .none },
  { cls := 10, slots := #[.int (68)], vm := .none },
  { cls := 10, slots := #[.int (69)], vm := .none },
  { cls := 10, slots := #[.int (70)], vm := .none },
  { cls := 10, slots := #[.int (71)], vm := .none },
  { cls := 10, slots := #[.int (72)], vm := .none },
  { cls := 10, slots := #[.int (73)], vm := .none },
  { cls := 10, slots := #[.int (74)], vm := .none },
  { cls := 10, slots := #[.int (75)], vm := .none },
  { cls := 10, slots := #[.int (76)], vm := .none },
  { cls := 10, slots := #[.int (77)], vm := .none },
  { cls := 10, slots := #[.int (78)], vm := .none },
  { cls := 10, slots := #[.int (79)], vm := .none },
  { cls := 10, slots := #[.int (80)], vm := .none },
  { cls := 10, slots := #[.int (81)], vm := .none },
  { cls := 10, slots := #[.int (82)], vm := .none },
  { cls := 10, slots := #[.int (83)], vm := .none },
  { cls := 10, slots := #[.int (84)], vm := .none },
  { cls := 10, slots := #[.int (85)], vm := .none },
  { cls := 10, slots := #[.int (86)], vm := .none },
  { cls := 10, slots := #[.int (87)], vm := .none },
  { cls := 10, slots := #[.int (88)], vm := .none },
  { cls := 10, slots := #[.int (89)], vm := .none },
  { cls := 10, slots := #[.int (90)], vm := .none },
  { cls := 10, slots := #[.int (91)], vm := .none },
  { cls := 10, slots := #[.int (92)], vm := .none },
  { cls := 10, slots := #[.int (93)], vm := .none },
  { cls := 10, slots := #[.int (94)], vm := .none },
  { cls := 10, slots := #[.int (95)], vm := .none },
  { cls := 10, slots := #[.int (96)], vm := .none },
  { cls := 10, slots := #[.int (97)], vm := .none },
  { cls := 10, slots := #[.int (98)], vm := .none },
  { cls := 10, slots := #[.int (99)], vm := .none },
  { cls := 10, slots := #[.int (100)], vm := .none },
  { cls := 10, slots := #[.int (101)], vm := .none },
  { cls := 10, slots := #[.int (102)], vm := .none },
  { cls := 10, slots := #[.int (103)], vm := .none },
  { cls := 10, slots := #[.int (104)], vm := .none },
  { cls := 10, slots := #[.int (105)], vm := .none },
  { cls := 10, slots := #[.int (106)], vm := .none },
  { cls := 10, slots := #[.int (107)], vm := .none },
  { cls := 10, slots := #[.int (108)], vm := .none },
  { cls := 10, slots := #[.int (109)], vm := .none },
  { cls := 10, slots := #[.int (110)], vm := .none },
  { cls := 10, slots := #[.int (111)], vm := .none },
  { cls := 10, slots := #[.int (112)], vm := .none },
  { cls := 10, slots := #[.int (113)], vm := .none },
  { cls := 10, slots := #[.int (114)], vm := .none },
  { cls := 10, slots := #[.int (115)], vm := .none },
  { cls := 10, slots := #[.int (116)], vm := .none },
  { cls := 10, slots := #[.int (117)], vm := .none },
  { cls := 10, slots := #[.int (118)], vm := .none },
  { cls := 10, slots := #[.int (119)], vm := .none },
  { cls := 10, slots := #[.int (120)], vm := .none },
  { cls := 10, slots := #[.int (121)], vm := .none },
  { cls := 10, slots := #[.int (122)], vm := .none },
  { cls := 10, slots := #[.int (123)], vm := .none },
  { cls := 10, slots := #[.int (124)], vm := .none },
  { cls := 10, slots := #[.int (125)], vm := .none },
  { cls := 10, slots := #[.int (126)], vm := .none },
  { cls := 10, slots := #[.int (127)], vm := .none },
  { cls := 6, slots := #[.null, .int 0, .int 0, .null], vm := .none },
  { cls := 6, slots := #[.null, .int 1, .int 0, .null], vm := .none }]
def classes : Array Class := #[k0, k1, k2, k3, k4, k5, k6, k7, k8, k9, k10, k11, k12, k13, k14, k15, k16, k17]
def interned : List (Array UInt16 × Addr) := []
def slotsUsed : Nat := 530
def theMethod : MethodId := ⟨1, 2⟩
def args0 : Array Value := #[.int 5, .int 6, .int 7, .int 8, .int 0]
def aboutOver (below : List Frame) : State where
  vm := { classes := classes, interned := interned.toArray }
  heap := heap
  slotsUsed := slotsUsed
  threads := #[{ frames := .invoking theMethod args0 :: below }]
def below0 : List Frame := [.native { method := ⟨0, 0⟩, args := #[] }]
def about1 : State := aboutOver below0
def p0 : Program := .bare "" "" ""
def e0 : Env := launch0.env 0 0 0
theorem w_frames : about1.frames = Frame.invoking theMethod args0 :: below0 := rfl
set_option maxRecDepth 65536 in
theorem w_args : argsFit about1.vm theMethod args0 = true := by decide +kernel
set_option maxRecDepth 65536 in
theorem w_heap : heapFits about1 = true := by decide +kernel
set_option maxRecDepth 65536 in
theorem w_runnable : about1.curStatus? = some .runnable := by decide +kernel
set_option maxRecDepth 65536 in
theorem w_alone : about1.alone = true := by decide +kernel
set_option maxRecDepth 65536 in
theorem w_named : about1.methodNamed? x = some theMethod := by decide +kernel
set_option maxRecDepth 65536 in
theorem w_hears : about1.hears theMethod below0 = true := by decide +kernel
set_option maxRecDepth 65536 in
theorem w_ripe : about1.ripe theMethod args0 below0 = true := by decide +kernel
theorem w_running : about1.status = .running := rfl
set_option maxRecDepth 65536 in
theorem w_room : about1.hasRoom e0.platform room_1 = true :=
  launch0.hasRoom_least _ room_1 (by decide +kernel) (by decide +kernel) (by decide +kernel) (by decide +kernel) (by decide +kernel) (by decide +kernel)
theorem allAtoms_all (ts : List Jvm.Cond) (a : Array Jvm.Value) (st : Jvm.State) : (allAtoms ts).before a st = ts.all (fun c => c.before a st) := by
  induction ts with
  | nil => rfl
  | cons c t ih =>
    show (Jvm.Cond.and c (allAtoms t)).before a st = _
    rw [Jvm.Cond.before_and, ih, List.all_cons]
def words1 : List Jvm.Cond := Jvm.Cond.code x code maxLocals ret :: tables_1
/-- a 'code' word, met by the world's own term for the bytes: nothing is compared byte by byte -/
theorem code_word {y : MethodName} {bytes : ByteArray} {mx : Nat} {rt : Option FieldType} {a : Array Value} {s : State} {m : MethodId} {meth : Method} {c : Code} (h1 : s.methodNamed? y = some m) (h2 : s.vm.method? m = some meth) (h3 : meth.code = some c) (h4 : c.code = bytes)
    (h5 : (c.maxLocals == mx && c.exceptionTable.isEmpty && decide (c.maxStack ≤ mostOperands) && decide (meth.sig.returnType = rt) && !meth.locks && decide (parseMethodDescriptor y.desc = some meth.sig)) = true) : (Jvm.Cond.code y bytes mx rt).before a s = true := by
  simp only [Bool.and_eq_true, beq_iff_eq, Bool.not_eq_true', decide_eq_true_eq] at h5
  obtain ⟨⟨⟨⟨⟨g1, g2⟩, g3⟩, g4⟩, g5⟩, g6⟩ := h5
  simp [Cond.before, Cond.holds, Cond.value, h1, h2, h3, h4, g1, g2, g3, g4, g5, g6]
def isCode : Jvm.Cond → Bool
  | .code _ _ _ _ => true
  | _ => false
theorem all_split {L : List Jvm.Cond} {P : Jvm.Cond → Bool} (h1 : L.all (fun c => isCode c || P c) = true) (h2 : ∀ c ∈ L.filter isCode, P c = true) : L.all P = true := by
  refine List.all_eq_true.mpr fun c hc => ?_
  have h := List.all_eq_true.mp h1 c hc
  rcases Bool.eq_false_or_eq_true (isCode c) with hi | hi
  · exact h2 c (List.mem_filter.mpr ⟨hc, hi⟩)
  · simpa [hi] using h
set_option maxRecDepth 65536 in
theorem w_c0 : (Jvm.Cond.code x code maxLocals ret).before args0 about1 = true := code_word (m := ⟨1, 2⟩) (meth := k1m2) (c := k1c2) (by decide +kernel) rfl rfl rfl (by decide +kernel)
set_option maxRecDepth 65536 in
theorem w_c1 : (Jvm.Cond.code ({ cls := "com/example/honest_replica/honestreplica/model/EntityEqualsPinLaw", name := "kindOf", desc := "(I)Lcom/example/honest_replica/honestreplica/model/Credential$Kind;" } : Jvm.MethodName) method_2_code (1 : Nat) (Option.some (Jvm.ClassFile.FieldType.object "com/example/honest_replica/honestreplica/model/Credential$Kind"))).before args0 about1 = true := code_word (m := ⟨1, 1⟩) (meth := k1m1) (c := k1c1) (by decide +kernel) rfl rfl rfl (by decide +kernel)
set_option maxRecDepth 65536 in
theorem w_c2 : (Jvm.Cond.code ({ cls := "com/example/honest_replica/honestreplica/model/Entity", name := "<init>", desc := "(Lcom/example/honest_replica/honestreplica/model/Credential$Kind;I)V" } : Jvm.MethodName) prog_34_method_1_code (3 : Nat) (Option.none : Option Jvm.ClassFile.FieldType)).before args0 about1 = true := code_word (m := ⟨7, 0⟩) (meth := k7m0) (c := k7c0) (by decide +kernel) rfl rfl rfl (by decide +kernel)
set_option maxRecDepth 65536 in
theorem w_c3 : (Jvm.Cond.code ({ cls := "java/lang/Object", name := "<init>", desc := "()V" } : Jvm.MethodName) object_method_1_code (1 : Nat) (Option.none : Option Jvm.ClassFile.FieldType)).before args0 about1 = true := code_word (m := ⟨0, 0⟩) (meth := k0m0) (c := k0c0) (by decide +kernel) rfl rfl rfl (by decide +kernel)
set_option maxRecDepth 65536 in
theorem w_c4 : (Jvm.Cond.code ({ cls := "java/lang/Integer", name := "valueOf", desc := "(I)Ljava/lang/Integer;" } : Jvm.MethodName) jdk_33_method_22_code (1 : Nat) (Option.some (Jvm.ClassFile.FieldType.object "java/lang/Integer"))).before args0 about1 = true := code_word (m := ⟨10, 0⟩) (meth := k10m0) (c := k10c0) (by decide +kernel) rfl rfl rfl (by decide +kernel)
set_option maxRecDepth 65536 in
theorem w_c5 : (Jvm.Cond.code ({ cls := "com/example/honest_replica/honestreplica/model/Entity", name := "equals", desc := "(Ljava/lang/Object;)Z" } : Jvm.MethodName) prog_34_method_5_code (3 : Nat) (Option.some Jvm.ClassFile.FieldType.boolean)).before args0 about1 = true := code_word (m := ⟨7, 1⟩) (meth := k7m1) (c := k7c1) (by decide +kernel) rfl rfl rfl (by decide +kernel)
set_option maxRecDepth 65536 in
theorem w_c6 : (Jvm.Cond.code ({ cls := "java/lang/Integer", name := "<init>", desc := "(I)V" } : Jvm.MethodName) jdk_33_method_23_code (2 : Nat) (Option.none : Option Jvm.ClassFile.FieldType)).before args0 about1 = true := code_word (m := ⟨10, 1⟩) (meth := k10m1) (c := k10c1) (by decide +kernel) rfl rfl rfl (by decide +kernel)
set_option maxRecDepth 65536 in
theorem w_c7 : (Jvm.Cond.code ({ cls := "java/lang/Number", name := "<init>", desc := "()V" } : Jvm.MethodName) jdk_18_method_1_code (1 : Nat) (Option.none : Option Jvm.ClassFile.FieldType)).before args0 about1 = true := code_word (m := ⟨8, 0⟩) (meth := k8m0) (c := k8c0) (by decide +kernel) rfl rfl rfl (by decide +kernel)
def codes1 : List Jvm.Cond := [Jvm.Cond.code x code maxLocals ret, Jvm.Cond.code ({ cls := "com/example/honest_replica/honestreplica/model/EntityEqualsPinLaw", name := "kindOf", desc := "(I)Lcom/example/honest_replica/honestreplica/model/Credential$Kind;" } : Jvm.MethodName) method_2_code (1 : Nat) (Option.some (Jvm.ClassFile.FieldType.object "com/example/honest_replica/honestreplica/model/Credential$Kind")), Jvm.Cond.code ({ cls := "com/example/honest_replica/honestreplica/model/Entity", name := "<init>", desc := "(Lcom/example/honest_replica/honestreplica/model/Credential$Kind;I)V" } : Jvm.MethodName) prog_34_method_1_code (3 : Nat) (Option.none : Option Jvm.ClassFile.FieldType), Jvm.Cond.code ({ cls := "java/lang/Object", name := "<init>", desc := "()V" } : Jvm.MethodName) object_method_1_code (1 : Nat) (Option.none : Option Jvm.ClassFile.FieldType), Jvm.Cond.code ({ cls := "java/lang/Integer", name := "valueOf", desc := "(I)Ljava/lang/Integer;" } : Jvm.MethodName) jdk_33_method_22_code (1 : Nat) (Option.some (Jvm.ClassFile.FieldType.object "java/lang/Integer")), Jvm.Cond.code ({ cls := "com/example/honest_replica/honestreplica/model/Entity", name := "equals", desc := "(Ljava/lang/Object;)Z" } : Jvm.MethodName) prog_34_method_5_code (3 : Nat) (Option.some Jvm.ClassFile.FieldType.boolean), Jvm.Cond.code ({ cls := "java/lang/Integer", name := "<init>", desc := "(I)V" } : Jvm.MethodName) jdk_33_method_23_code (2 : Nat) (Option.none : Option Jvm.ClassFile.FieldType), Jvm.Cond.code ({ cls := "java/lang/Number", name := "<init>", desc := "()V" } : Jvm.MethodName) jdk_18_method_1_code (1 : Nat) (Option.none : Option Jvm.ClassFile.FieldType)]
set_option maxRecDepth 65536 in
theorem codes_eq : words1.filter isCode = codes1 := rfl
theorem w_codes : ∀ c ∈ words1.filter isCode, c.before args0 about1 = true := by
  rw [codes_eq]
  intro c hc
  simp only [codes1, List.mem_cons, List.not_mem_nil, or_false] at hc
  rcases hc with rfl | rfl | rfl | rfl | rfl | rfl | rfl | rfl
  · exact w_c0
  · exact w_c1
  · exact w_c2
  · exact w_c3
  · exact w_c4
  · exact w_c5
  · exact w_c6
  · exact w_c7
set_option maxRecDepth 65536 in
theorem w_t1 : (words1.take 24).all (fun c => isCode c || c.before args0 about1) = true := by decide +kernel
set_option maxRecDepth 65536 in
theorem w_t2 : ((words1.drop 24).take 24).all (fun c => isCode c || c.before args0 about1) = true := by decide +kernel
set_option maxRecDepth 65536 in
theorem w_t3 : ((words1.drop 24).drop 24).all (fun c => isCode c || c.before args0 about1) = true := by decide +kernel
theorem w_tables : (allAtoms (Jvm.Cond.code x code maxLocals ret :: tables_1)).before args0 about1 = true := by
  rw [allAtoms_all]
  show words1.all (fun c => c.before args0 about1) = true
  refine all_split ?_ w_codes
  rw [← List.take_append_drop 24 words1, List.all_append, w_t1, ← List.take_append_drop 24 (words1.drop 24), List.all_append, w_t2, w_t3]
  rfl
set_option maxRecDepth 65536 in
theorem w_rest : rest_1_c.before args0 about1 = true := by decide +kernel
set_option maxRecDepth 65536 in
theorem w_case : (Jvm.Cond.and given_1 narrow_1).before args0 about1 = true := by decide +kernel
theorem w_applies : (headSpec (Jvm.Cond.code x code maxLocals ret :: tables_1) room_1).applies x e0.platform about1 = true :=
  (Spec.applies_iff w_frames).mpr ⟨w_running, w_runnable, w_alone, w_named, w_hears, w_ripe, w_room, w_tables⟩
theorem atStart : AtStart classFile x code maxLocals ret World_1 tables_1 room_1 Calls_1 rest_1 Pre_1 launch0 p0 e0 about1 theMethod args0 below0 :=
  ⟨lists_1, trivial, launch0.admits_env _ _ _, launch0.least_env, fairChoices_fair.cas, fairChoices_fair.clock, w_frames, w_args, w_heap, w_applies, trivial, w_rest, w_case⟩
end start1
theorem witness_1 : WitnessClaimed_1 := ⟨start1.p0, start1.e0, start1.about1, start1.theMethod, start1.args0, start1.below0, start1.atStart⟩
end Jvm.Pilot.@@N@@
