import JvmDerived
import JvmDerived.Pilot.@@N@@Statement
import JvmDerived.Pilot.@@N@@Code
set_option linter.unusedVariables false
set_option linter.unusedSimpArgs false

namespace Jvm.Pilot.@@N@@
open Jvm Jvm.ClassFile Sem Op Lib Jvm.Free Jvm.Stand Jvm.LawKit Jvm.RoadKit Bundle Jvm.Pilot.@@N@@.Jvm.D
/-- from this state and frame the body comes to its end, with what G says -/
def Go (p : Program) (e : Env) (below : List Frame) (G : Outcome → State → Prop) (T : State) (f : JFrame) : Prop :=
  ∃ s₂ o, Steps p.tables e below (T.setTop f) s₂ ∧ s₂.status = .running ∧ Ended s₂ below o ∧ G o s₂
theorem Go.by {p : Program} {e : Env} {below : List Frame} {G : Outcome → State → Prop} {T T' : State} {f f' : JFrame} (k : ∀ t, Steps p.tables e below (T'.setTop f') t → Steps p.tables e below (T.setTop f) t) (g : Go p e below G T' f') : Go p e below G T f := by
  obtain ⟨s₂, o, h1, h2⟩ := g; exact ⟨s₂, o, k _ h1, h2⟩
theorem Old.le {Z : State} {n0 : Nat} {h : Heap} (O : Old Z n0 h) : n0 ≤ h.size := O.1 ▸ O.2.1

theorem ord_fld {args : Array Value} {s : State} {t : Term} {C n d : String} {k : Int32} {a : Addr} (h : (Cond.eq (Term.field t C n d) (Term.int k)).value args s none s [] = some true) (ht : t.eval args s none [] s = some (.ref a)) : Fld s s.heap a C n d (.int k) := by
  obtain ⟨x, y, hx, hy, -, kin⟩ := cmp_v (Or.inl h)
  obtain rfl : y = .int k := (Option.some.inj ((Term.int_eval k).symm.trans hy)).symm
  obtain ⟨z, rfl⟩ := kin
  have e : z = k := by simpa [Cond.value, hx, hy] using h
  subst e
  exact Fld.start (by rw [← fld_at ht]; exact hx)

def Sf (Z : State) (wL : Addr) (wI : Addr) (wD : Addr) (wS : Addr) (wB : Addr) : Prop := Sta Z Z.heap "com/example/nuthatch/nuthatch/core/DataRange$Datatype" "LITERAL" "Lcom/example/nuthatch/nuthatch/core/DataRange$Datatype;" (.ref wL) ∧ Exa Z Z.heap wL "com/example/nuthatch/nuthatch/core/DataRange$Datatype" ∧ Sta Z Z.heap "com/example/nuthatch/nuthatch/core/DataRange$Datatype" "INTEGER" "Lcom/example/nuthatch/nuthatch/core/DataRange$Datatype;" (.ref wI) ∧ Exa Z Z.heap wI "com/example/nuthatch/nuthatch/core/DataRange$Datatype" ∧ Sta Z Z.heap "com/example/nuthatch/nuthatch/core/DataRange$Datatype" "DECIMAL" "Lcom/example/nuthatch/nuthatch/core/DataRange$Datatype;" (.ref wD) ∧ Exa Z Z.heap wD "com/example/nuthatch/nuthatch/core/DataRange$Datatype" ∧ Sta Z Z.heap "com/example/nuthatch/nuthatch/core/DataRange$Datatype" "STRING" "Lcom/example/nuthatch/nuthatch/core/DataRange$Datatype;" (.ref wS) ∧ Exa Z Z.heap wS "com/example/nuthatch/nuthatch/core/DataRange$Datatype" ∧ Sta Z Z.heap "com/example/nuthatch/nuthatch/core/DataRange$Datatype" "BOOLEAN" "Lcom/example/nuthatch/nuthatch/core/DataRange$Datatype;" (.ref wB) ∧ Exa Z Z.heap wB "com/example/nuthatch/nuthatch/core/DataRange$Datatype" ∧ wL ≠ wI ∧ wL ≠ wD ∧ wL ≠ wS ∧ wL ≠ wB ∧ wI ≠ wD ∧ wI ≠ wS ∧ wI ≠ wB ∧ wD ≠ wS ∧ wD ≠ wB ∧ wS ≠ wB ∧ True
def Qi (z : Int32) (h0 : Heap) (n0 : Nat) (v : Option Value) (h : Heap) (L : List Loc) : Prop := v = some (.int z) ∧ Fr n0 L ∧ h = h0
theorem d_iwL_0 : decode prog_78_method_6_code 0 = .ok (.aload_n 0, 1) := by decide +kernel
theorem d_iwL_1 : decode prog_78_method_6_code 1 = .ok (.getstatic 7, 3) := by decide +kernel
theorem d_iwL_4 : decode prog_78_method_6_code 4 = .ok (.if_acmp .eq 10, 3) := by decide +kernel
theorem d_iwL_7 : decode prog_78_method_6_code 7 = .ok (.aload_n 0, 1) := by decide +kernel
theorem d_iwL_8 : decode prog_78_method_6_code 8 = .ok (.getstatic 10, 3) := by decide +kernel
theorem d_iwL_11 : decode prog_78_method_6_code 11 = .ok (.if_acmp .ne 7, 3) := by decide +kernel
theorem d_iwL_18 : decode prog_78_method_6_code 18 = .ok (.iconst 0, 1) := by decide +kernel
theorem d_iwL_19 : decode prog_78_method_6_code 19 = .ok (.ireturn, 1) := by decide +kernel
theorem pn_iwL : plainFor (⟨"com/example/nuthatch/nuthatch/core/DataRange$Datatype", "isNumeric", "()Z"⟩ : MethodName) = true := plainFor_of_name (by first | (simp [plainName, overriddenIn]; done) | decide +kernel)
theorem ef_iwL (m : MethodId) (x0 : Addr) : entryFrame m #[(.ref x0)] 1 = mkF m 0 #[.val (.ref x0)] [] := by first | (simp [entryFrame, mkF, argsToLocals, Value.category]; done) | rfl
set_option maxRecDepth 65536 in
set_option maxHeartbeats 40000000 in
theorem rm_iwL (l : Launch) (Z : State) (a0 : Array Value) (hw : ∀ d ∈ tables_1, d.before a0 Z = true) (ws : List Jvm.Cond) (wL : Addr) (wI : Addr) (wD : Addr) (wS : Addr) (wB : Addr) (hS : Sf Z wL wI wD wS wB) (h0 : Heap) (n0 : Nat) (O : Old Z n0 h0)  :
    MetFree l (⟨"com/example/nuthatch/nuthatch/core/DataRange$Datatype", "isNumeric", "()Z"⟩ : MethodName) (head1 (Jvm.Cond.code (⟨"com/example/nuthatch/nuthatch/core/DataRange$Datatype", "isNumeric", "()Z"⟩ : MethodName) prog_78_method_6_code 1 (some .boolean) :: ws) ({ frames := 0, cells := 0, slots := 0, locals := 0 } : Room)) (fun as_ U => as_ = #[(.ref wL)] ∧ Z.Warmed39 U.vm ∧ U.heap = h0) (fun _ _ _ _ _ => True) (fun _ U o U' => ∃ v L, o = .returned v ∧ Qi 0 h0 n0 v U'.heap L ∧ FrameEnd U o U' L ({ frames := 0, cells := 0, slots := 0, locals := 0 } : Room).cells ({ frames := 0, cells := 0, slots := 0, locals := 0 } : Room).slots) := by
  refine MetFree.of_bodySF pn_iwL hisR ?_
  intro p e s m args below meth c s₁ Bd hml0 hP hK
  obtain ⟨rfl, hZ, hh⟩ := hP
  have hx := Bd.exec
  have hby := Bd.bytes
  have hml : c.maxLocals = 1 := hml0
  have hown : s.vm.findClass "com/example/nuthatch/nuthatch/core/DataRange$Datatype" = some m.cls := findClass_of_methodNamed Bd.named
  have hnm := (name_of_methodNamed Bd.named Bd.method).1
  have X0 : Stand p l e ({ frames := 0, cells := 0, slots := 0, locals := 0 } : Room) s m #[(.ref wL)] below meth c s₁ [] 0 0 := Stand.of_body Bd
  have e0 : s₁.heap = h0 := by rw [← hh, Bd.state]; rfl
  have N := Fr.nil n0
  have K : Keep h0 h0 [] := Keep.refl _ _
  refine Go.by (T' := s₁) (f' := (mkF m 0 #[.val (.ref wL)] [])) (fun _ k => castTop (ef_iwL m wL) k) ?_
  have E_wL := hS.2.1.ext O.2
  have E_wI := hS.2.2.2.1.ext O.2
  have E_wD := hS.2.2.2.2.2.1.ext O.2
  have E_wS := hS.2.2.2.2.2.2.2.1.ext O.2
  have E_wB := hS.2.2.2.2.2.2.2.2.2.1.ext O.2
  refine Go.by (T' := s₁) (f' := (mkF m 1 #[.val (.ref wL)] [(.ref wL)])) (fun _ k => XS.aloadN X0.here hx rfl (hb hby d_iwL_0) rfl rfl k) ?_
  obtain ⟨T1, X1, e1, st1⟩ := getS2 X0 hx hZ hown (host := "") (Or.inl (hw _ (List.mem_of_getElem? (i := 9) rfl))) Via.refl e0 (Sta.ext O.2 hS.2.2.1) (g := (mkF m 1 #[.val (.ref wL)] [(.ref wL)])) rfl (hb hby d_iwL_1)
  refine Go.by (T' := T1) (f' := (mkF m 4 #[.val (.ref wL)] [(.ref wI), (.ref wL)])) (st1) ?_
  refine Go.by (T' := T1) (f' := (mkF m 7 #[.val (.ref wL)] [])) (fun _ k => Jvm.RoadKit.acmp (g := (mkF m 4 #[.val (.ref wL)] [(.ref wI), (.ref wL)])) X1 hx rfl rfl rfl (pc0 := 4) (pc' := 7) (same := false) rfl (hb hby d_iwL_4) rfl (decide_eq_false fun q => hS.2.2.2.2.2.2.2.2.2.2.1 (Value.ref.inj q)) (by decide) (by decide) k) ?_
  refine Go.by (T' := T1) (f' := (mkF m 8 #[.val (.ref wL)] [(.ref wL)])) (fun _ k => XS.aloadN X1.here hx rfl (hb hby d_iwL_7) rfl rfl k) ?_
  obtain ⟨T2, X2, e2, st2⟩ := getS2 X1 hx hZ hown (host := "") (Or.inl (hw _ (List.mem_of_getElem? (i := 11) rfl))) Via.refl e1 (Sta.ext O.2 hS.2.2.2.2.1) (g := (mkF m 8 #[.val (.ref wL)] [(.ref wL)])) rfl (hb hby d_iwL_8)
  refine Go.by (T' := T2) (f' := (mkF m 11 #[.val (.ref wL)] [(.ref wD), (.ref wL)])) (st2) ?_
  refine Go.by (T' := T2) (f' := (mkF m 18 #[.val (.ref wL)] [])) (fun _ k => Jvm.RoadKit.acmp (g := (mkF m 11 #[.val (.ref wL)] [(.ref wD), (.ref wL)])) X2 hx rfl rfl rfl (pc0 := 11) (pc' := 18) (same := false) rfl (hb hby d_iwL_11) rfl (decide_eq_false fun q => hS.2.2.2.2.2.2.2.2.2.2.2.1 (Value.ref.inj q)) (by decide) (by decide) k) ?_
  refine Go.by (T' := T2) (f' := (mkF m 19 #[.val (.ref wL)] [(.int (0 : Int32))])) (fun _ k => XS.iconst X2.here hx rfl (hb hby d_iwL_18) k) ?_
  obtain ⟨fs, hr, hrun, hended, hW, hsame⟩ := X2.leave (v := some (.int (0 : Int32))) (fun h => by rw [Bd.returns] at h; cases h)
  refine ⟨_, _, retN X2 hx (t := .boolean) Bd.returns (by simp) (hb hby d_iwL_19) hr, hrun, hended, _, _, rfl, ?_, ⟨_, rfl⟩, hW, hsame.mono (by decide) (by decide)⟩
  show Qi 0 h0 n0 (some (.int (0 : Int32))) T2.heap _
  rw [e2]
  exact ⟨rfl, N, rfl⟩

theorem d_iwI_0 : decode prog_78_method_6_code 0 = .ok (.aload_n 0, 1) := by decide +kernel
theorem d_iwI_1 : decode prog_78_method_6_code 1 = .ok (.getstatic 7, 3) := by decide +kernel
theorem d_iwI_4 : decode prog_78_method_6_code 4 = .ok (.if_acmp .eq 10, 3) := by decide +kernel
theorem d_iwI_14 : decode prog_78_method_6_code 14 = .ok (.iconst 1, 1) := by decide +kernel
theorem d_iwI_15 : decode prog_78_method_6_code 15 = .ok (.goto 4, 3) := by decide +kernel
theorem d_iwI_19 : decode prog_78_method_6_code 19 = .ok (.ireturn, 1) := by decide +kernel
theorem pn_iwI : plainFor (⟨"com/example/nuthatch/nuthatch/core/DataRange$Datatype", "isNumeric", "()Z"⟩ : MethodName) = true := plainFor_of_name (by first | (simp [plainName, overriddenIn]; done) | decide +kernel)
theorem ef_iwI (m : MethodId) (x0 : Addr) : entryFrame m #[(.ref x0)] 1 = mkF m 0 #[.val (.ref x0)] [] := by first | (simp [entryFrame, mkF, argsToLocals, Value.category]; done) | rfl
set_option maxRecDepth 65536 in
set_option maxHeartbeats 40000000 in
theorem rm_iwI (l : Launch) (Z : State) (a0 : Array Value) (hw : ∀ d ∈ tables_1, d.before a0 Z = true) (ws : List Jvm.Cond) (wL : Addr) (wI : Addr) (wD : Addr) (wS : Addr) (wB : Addr) (hS : Sf Z wL wI wD wS wB) (h0 : Heap) (n0 : Nat) (O : Old Z n0 h0)  :
    MetFree l (⟨"com/example/nuthatch/nuthatch/core/DataRange$Datatype", "isNumeric", "()Z"⟩ : MethodName) (head1 (Jvm.Cond.code (⟨"com/example/nuthatch/nuthatch/core/DataRange$Datatype", "isNumeric", "()Z"⟩ : MethodName) prog_78_method_6_code 1 (some .boolean) :: ws) ({ frames := 0, cells := 0, slots := 0, locals := 0 } : Room)) (fun as_ U => as_ = #[(.ref wI)] ∧ Z.Warmed39 U.vm ∧ U.heap = h0) (fun _ _ _ _ _ => True) (fun _ U o U' => ∃ v L, o = .returned v ∧ Qi 1 h0 n0 v U'.heap L ∧ FrameEnd U o U' L ({ frames := 0, cells := 0, slots := 0, locals := 0 } : Room).cells ({ frames := 0, cells := 0, slots := 0, locals := 0 } : Room).slots) := by
  refine MetFree.of_bodySF pn_iwI hisR ?_
  intro p e s m args below meth c s₁ Bd hml0 hP hK
  obtain ⟨rfl, hZ, hh⟩ := hP
  have hx := Bd.exec
  have hby := Bd.bytes
  have hml : c.maxLocals = 1 := hml0
  have hown : s.vm.findClass "com/example/nuthatch/nuthatch/core/DataRange$Datatype" = some m.cls := findClass_of_methodNamed Bd.named
  have hnm := (name_of_methodNamed Bd.named Bd.method).1
  have X0 : Stand p l e ({ frames := 0, cells := 0, slots := 0, locals := 0 } : Room) s m #[(.ref wI)] below meth c s₁ [] 0 0 := Stand.of_body Bd
  have e0 : s₁.heap = h0 := by rw [← hh, Bd.state]; rfl
  have N := Fr.nil n0
  have K : Keep h0 h0 [] := Keep.refl _ _
  refine Go.by (T' := s₁) (f' := (mkF m 0 #[.val (.ref wI)] [])) (fun _ k => castTop (ef_iwI m wI) k) ?_
  have E_wL := hS.2.1.ext O.2
  have E_wI := hS.2.2.2.1.ext O.2
  have E_wD := hS.2.2.2.2.2.1.ext O.2
  have E_wS := hS.2.2.2.2.2.2.2.1.ext O.2
  have E_wB := hS.2.2.2.2.2.2.2.2.2.1.ext O.2
  refine Go.by (T' := s₁) (f' := (mkF m 1 #[.val (.ref wI)] [(.ref wI)])) (fun _ k => XS.aloadN X0.here hx rfl (hb hby d_iwI_0) rfl rfl k) ?_
  obtain ⟨T1, X1, e1, st1⟩ := getS2 X0 hx hZ hown (host := "") (Or.inl (hw _ (List.mem_of_getElem? (i := 9) rfl))) Via.refl e0 (Sta.ext O.2 hS.2.2.1) (g := (mkF m 1 #[.val (.ref wI)] [(.ref wI)])) rfl (hb hby d_iwI_1)
  refine Go.by (T' := T1) (f' := (mkF m 4 #[.val (.ref wI)] [(.ref wI), (.ref wI)])) (st1) ?_
  refine Go.by (T' := T1) (f' := (mkF m 14 #[.val (.ref wI)] [])) (fun _ k => Jvm.RoadKit.acmp (g := (mkF m 4 #[.val (.ref wI)] [(.ref wI), (.ref wI)])) X1 hx rfl rfl rfl (pc0 := 4) (pc' := 14) (same := true) rfl (hb hby d_iwI_4) rfl (decide_eq_true rfl) (by decide) (by decide) k) ?_
  refine Go.by (T' := T1) (f' := (mkF m 15 #[.val (.ref wI)] [(.int (1 : Int32))])) (fun _ k => XS.iconst X1.here hx rfl (hb hby d_iwI_14) k) ?_
  refine Go.by (T' := T1) (f' := (mkF m 19 #[.val (.ref wI)] [(.int (1 : Int32))])) (fun _ k => XS.goto X1.here hx rfl (pc0 := 15) (pc' := 19) rfl (hb hby d_iwI_15) (by decide) (by decide) k) ?_
  obtain ⟨fs, hr, hrun, hended, hW, hsame⟩ := X1.leave (v := some (.int (1 : Int32))) (fun h => by rw [Bd.returns] at h; cases h)
  refine ⟨_, _, retN X1 hx (t := .boolean) Bd.returns (by simp) (hb hby d_iwI_19) hr, hrun, hended, _, _, rfl, ?_, ⟨_, rfl⟩, hW, hsame.mono (by decide) (by decide)⟩
  show Qi 1 h0 n0 (some (.int (1 : Int32))) T1.heap _
  rw [e1]
  exact ⟨rfl, N, rfl⟩

theorem d_iwD_0 : decode prog_78_method_6_code 0 = .ok (.aload_n 0, 1) := by decide +kernel
theorem d_iwD_1 : decode prog_78_method_6_code 1 = .ok (.getstatic 7, 3) := by decide +kernel
theorem d_iwD_4 : decode prog_78_method_6_code 4 = .ok (.if_acmp .eq 10, 3) := by decide +kernel
theorem d_iwD_7 : decode prog_78_method_6_code 7 = .ok (.aload_n 0, 1) := by decide +kernel
theorem d_iwD_8 : decode prog_78_method_6_code 8 = .ok (.getstatic 10, 3) := by decide +kernel
theorem d_iwD_11 : decode prog_78_method_6_code 11 = .ok (.if_acmp .ne 7, 3) := by decide +kernel
theorem d_iwD_14 : decode prog_78_method_6_code 14 = .ok (.iconst 1, 1) := by decide +kernel
theorem d_iwD_15 : decode prog_78_method_6_code 15 = .ok (.goto 4, 3) := by decide +kernel
theorem d_iwD_19 : decode prog_78_method_6_code 19 = .ok (.ireturn, 1) := by decide +kernel
theorem pn_iwD : plainFor (⟨"com/example/nuthatch/nuthatch/core/DataRange$Datatype", "isNumeric", "()Z"⟩ : MethodName) = true := plainFor_of_name (by first | (simp [plainName, overriddenIn]; done) | decide +kernel)
theorem ef_iwD (m : MethodId) (x0 : Addr) : entryFrame m #[(.ref x0)] 1 = mkF m 0 #[.val (.ref x0)] [] := by first | (simp [entryFrame, mkF, argsToLocals, Value.category]; done) | rfl
set_option maxRecDepth 65536 in
set_option maxHeartbeats 40000000 in
theorem rm_iwD (l : Launch) (Z : State) (a0 : Array Value) (hw : ∀ d ∈ tables_1, d.before a0 Z = true) (ws : List Jvm.Cond) (wL : Addr) (wI : Addr) (wD : Addr) (wS : Addr) (wB : Addr) (hS : Sf Z wL wI wD wS wB) (h0 : Heap) (n0 : Nat) (O : Old Z n0 h0)  :
    MetFree l (⟨"com/example/nuthatch/nuthatch/core/DataRange$Datatype", "isNumeric", "()Z"⟩ : MethodName) (head1 (Jvm.Cond.code (⟨"com/example/nuthatch/nuthatch/core/DataRange$Datatype", "isNumeric", "()Z"⟩ : MethodName) prog_78_method_6_code 1 (some .boolean) :: ws) ({ frames := 0, cells := 0, slots := 0, locals := 0 } : Room)) (fun as_ U => as_ = #[(.ref wD)] ∧ Z.Warmed39 U.vm ∧ U.heap = h0) (fun _ _ _ _ _ => True) (fun _ U o U' => ∃ v L, o = .returned v ∧ Qi 1 h0 n0 v U'.heap L ∧ FrameEnd U o U' L ({ frames := 0, cells := 0, slots := 0, locals := 0 } : Room).cells ({ frames := 0, cells := 0, slots := 0, locals := 0 } : Room).slots) := by
  refine MetFree.of_bodySF pn_iwD hisR ?_
  intro p e s m args below meth c s₁ Bd hml0 hP hK
  obtain ⟨rfl, hZ, hh⟩ := hP
  have hx := Bd.exec
  have hby := Bd.bytes
  have hml : c.maxLocals = 1 := hml0
  have hown : s.vm.findClass "com/example/nuthatch/nuthatch/core/DataRange$Datatype" = some m.cls := findClass_of_methodNamed Bd.named
  have hnm := (name_of_methodNamed Bd.named Bd.method).1
  have X0 : Stand p l e ({ frames := 0, cells := 0, slots := 0, locals := 0 } : Room) s m #[(.ref wD)] below meth c s₁ [] 0 0 := Stand.of_body Bd
  have e0 : s₁.heap = h0 := by rw [← hh, Bd.state]; rfl
  have N := Fr.nil n0
  have K : Keep h0 h0 [] := Keep.refl _ _
  refine Go.by (T' := s₁) (f' := (mkF m 0 #[.val (.ref wD)] [])) (fun _ k => castTop (ef_iwD m wD) k) ?_
  have E_wL := hS.2.1.ext O.2
  have E_wI := hS.2.2.2.1.ext O.2
  have E_wD := hS.2.2.2.2.2.1.ext O.2
  have E_wS := hS.2.2.2.2.2.2.2.1.ext O.2
  have E_wB := hS.2.2.2.2.2.2.2.2.2.1.ext O.2
  refine Go.by (T' := s₁) (f' := (mkF m 1 #[.val (.ref wD)] [(.ref wD)])) (fun _ k => XS.aloadN X0.here hx rfl (hb hby d_iwD_0) rfl rfl k) ?_
  obtain ⟨T1, X1, e1, st1⟩ := getS2 X0 hx hZ hown (host := "") (Or.inl (hw _ (List.mem_of_getElem? (i := 9) rfl))) Via.refl e0 (Sta.ext O.2 hS.2.2.1) (g := (mkF m 1 #[.val (.ref wD)] [(.ref wD)])) rfl (hb hby d_iwD_1)
  refine Go.by (T' := T1) (f' := (mkF m 4 #[.val (.ref wD)] [(.ref wI), (.ref wD)])) (st1) ?_
  refine Go.by (T' := T1) (f' := (mkF m 7 #[.val (.ref wD)] [])) (fun _ k => Jvm.RoadKit.acmp (g := (mkF m 4 #[.val (.ref wD)] [(.ref wI), (.ref wD)])) X1 hx rfl rfl rfl (pc0 := 4) (pc' := 7) (same := false) rfl (hb hby d_iwD_4) rfl (decide_eq_false fun q => (Ne.symm hS.2.2.2.2.2.2.2.2.2.2.2.2.2.2.1) (Value.ref.inj q)) (by decide) (by decide) k) ?_
  refine Go.by (T' := T1) (f' := (mkF m 8 #[.val (.ref wD)] [(.ref wD)])) (fun _ k => XS.aloadN X1.here hx rfl (hb hby d_iwD_7) rfl rfl k) ?_
  obtain ⟨T2, X2, e2, st2⟩ := getS2 X1 hx hZ hown (host := "") (Or.inl (hw _ (List.mem_of_getElem? (i := 11) rfl))) Via.refl e1 (Sta.ext O.2 hS.2.2.2.2.1) (g := (mkF m 8 #[.val (.ref wD)] [(.ref wD)])) rfl (hb hby d_iwD_8)
  refine Go.by (T' := T2) (f' := (mkF m 11 #[.val (.ref wD)] [(.ref wD), (.ref wD)])) (st2) ?_
  refine Go.by (T' := T2) (f' := (mkF m 14 #[.val (.ref wD)] [])) (fun _ k => Jvm.RoadKit.acmp (g := (mkF m 11 #[.val (.ref wD)] [(.ref wD), (.ref wD)])) X2 hx rfl rfl rfl (pc0 := 11) (pc' := 14) (same := true) rfl (hb hby d_iwD_11) rfl (decide_eq_true rfl) (by decide) (by decide) k) ?_
  refine Go.by (T' := T2) (f' := (mkF m 15 #[.val (.ref wD)] [(.int (1 : Int32))])) (fun _ k => XS.iconst X2.here hx rfl (hb hby d_iwD_14) k) ?_
  refine Go.by (T' := T2) (f' := (mkF m 19 #[.val (.ref wD)] [(.int (1 : Int32))])) (fun _ k => XS.goto X2.here hx rfl (pc0 := 15) (pc' := 19) rfl (hb hby d_iwD_15) (by decide) (by decide) k) ?_
  obtain ⟨fs, hr, hrun, hended, hW, hsame⟩ := X2.leave (v := some (.int (1 : Int32))) (fun h => by rw [Bd.returns] at h; cases h)
  refine ⟨_, _, retN X2 hx (t := .boolean) Bd.returns (by simp) (hb hby d_iwD_19) hr, hrun, hended, _, _, rfl, ?_, ⟨_, rfl⟩, hW, hsame.mono (by decide) (by decide)⟩
  show Qi 1 h0 n0 (some (.int (1 : Int32))) T2.heap _
  rw [e2]
  exact ⟨rfl, N, rfl⟩

theorem d_iwS_0 : decode prog_78_method_6_code 0 = .ok (.aload_n 0, 1) := by decide +kernel
theorem d_iwS_1 : decode prog_78_method_6_code 1 = .ok (.getstatic 7, 3) := by decide +kernel
theorem d_iwS_4 : decode prog_78_method_6_code 4 = .ok (.if_acmp .eq 10, 3) := by decide +kernel
theorem d_iwS_7 : decode prog_78_method_6_code 7 = .ok (.aload_n 0, 1) := by decide +kernel
theorem d_iwS_8 : decode prog_78_method_6_code 8 = .ok (.getstatic 10, 3) := by decide +kernel
theorem d_iwS_11 : decode prog_78_method_6_code 11 = .ok (.if_acmp .ne 7, 3) := by decide +kernel
theorem d_iwS_18 : decode prog_78_method_6_code 18 = .ok (.iconst 0, 1) := by decide +kernel
theorem d_iwS_19 : decode prog_78_method_6_code 19 = .ok (.ireturn, 1) := by decide +kernel
theorem pn_iwS : plainFor (⟨"com/example/nuthatch/nuthatch/core/DataRange$Datatype", "isNumeric", "()Z"⟩ : MethodName) = true := plainFor_of_name (by first | (simp [plainName, overriddenIn]; done) | decide +kernel)
theorem ef_iwS (m : MethodId) (x0 : Addr) : entryFrame m #[(.ref x0)] 1 = mkF m 0 #[.val (.ref x0)] [] := by first | (simp [entryFrame, mkF, argsToLocals, Value.category]; done) | rfl
set_option maxRecDepth 65536 in
set_option maxHeartbeats 40000000 in
theorem rm_iwS (l : Launch) (Z : State) (a0 : Array Value) (hw : ∀ d ∈ tables_1, d.before a0 Z = true) (ws : List Jvm.Cond) (wL : Addr) (wI : Addr) (wD : Addr) (wS : Addr) (wB : Addr) (hS : Sf Z wL wI wD wS wB) (h0 : Heap) (n0 : Nat) (O : Old Z n0 h0)  :
    MetFree l (⟨"com/example/nuthatch/nuthatch/core/DataRange$Datatype", "isNumeric", "()Z"⟩ : MethodName) (head1 (Jvm.Cond.code (⟨"com/example/nuthatch/nuthatch/core/DataRange$Datatype", "isNumeric", "()Z"⟩ : MethodName) prog_78_method_6_code 1 (some .boolean) :: ws) ({ frames := 0, cells := 0, slots := 0, locals := 0 } : Room)) (fun as_ U => as_ = #[(.ref wS)] ∧ Z.Warmed39 U.vm ∧ U.heap = h0) (fun _ _ _ _ _ => True) (fun _ U o U' => ∃ v L, o = .returned v ∧ Qi 0 h0 n0 v U'.heap L ∧ FrameEnd U o U' L ({ frames := 0, cells := 0, slots := 0, locals := 0 } : Room).cells ({ frames := 0, cells := 0, slots := 0, locals := 0 } : Room).slots) := by
  refine MetFree.of_bodySF pn_iwS hisR ?_
  intro p e s m args below meth c s₁ Bd hml0 hP hK
  obtain ⟨rfl, hZ, hh⟩ := hP
  have hx := Bd.exec
  have hby := Bd.bytes
  have hml : c.maxLocals = 1 := hml0
  have hown : s.vm.findClass "com/example/nuthatch/nuthatch/core/DataRange$Datatype" = some m.cls := findClass_of_methodNamed Bd.named
  have hnm := (name_of_methodNamed Bd.named Bd.method).1
  have X0 : Stand p l e ({ frames := 0, cells := 0, slots := 0, locals := 0 } : Room) s m #[(.ref wS)] below meth c s₁ [] 0 0 := Stand.of_body Bd
  have e0 : s₁.heap = h0 := by rw [← hh, Bd.state]; rfl
  have N := Fr.nil n0
  have K : Keep h0 h0 [] := Keep.refl _ _
  refine Go.by (T' := s₁) (f' := (mkF m 0 #[.val (.ref wS)] [])) (fun _ k => castTop (ef_iwS m wS) k) ?_
  have E_wL := hS.2.1.ext O.2
  have E_wI := hS.2.2.2.1.ext O.2
  have E_wD := hS.2.2.2.2.2.1.ext O.2
  have E_wS := hS.2.2.2.2.2.2.2.1.ext O.2
  have E_wB := hS.2.2.2.2.2.2.2.2.2.1.ext O.2
  refine Go.by (T' := s₁) (f' := (mkF m 1 #[.val (.ref wS)] [(.ref wS)])) (fun _ k => XS.aloadN X0.here hx rfl (hb hby d_iwS_0) rfl rfl k) ?_
  obtain ⟨T1, X1, e1, st1⟩ := getS2 X0 hx hZ hown (host := "") (Or.inl (hw _ (List.mem_of_getElem? (i := 9) rfl))) Via.refl e0 (Sta.ext O.2 hS.2.2.1) (g := (mkF m 1 #[.val (.ref wS)] [(.ref wS)])) rfl (hb hby d_iwS_1)
  refine Go.by (T' := T1) (f' := (mkF m 4 #[.val (.ref wS)] [(.ref wI), (.ref wS)])) (st1) ?_
  refine Go.by (T' := T1) (f' := (mkF m 7 #[.val (.ref wS)] [])) (fun _ k => Jvm.RoadKit.acmp (g := (mkF m 4 #[.val (.ref wS)] [(.ref wI), (.ref wS)])) X1 hx rfl rfl rfl (pc0 := 4) (pc' := 7) (same := false) rfl (hb hby d_iwS_4) rfl (decide_eq_false fun q => (Ne.symm hS.2.2.2.2.2.2.2.2.2.2.2.2.2.2.2.1) (Value.ref.inj q)) (by decide) (by decide) k) ?_
  refine Go.by (T' := T1) (f' := (mkF m 8 #[.val (.ref wS)] [(.ref wS)])) (fun _ k => XS.aloadN X1.here hx rfl (hb hby d_iwS_7) rfl rfl k) ?_
  obtain ⟨T2, X2, e2, st2⟩ := getS2 X1 hx hZ hown (host := "") (Or.inl (hw _ (List.mem_of_getElem? (i := 11) rfl))) Via.refl e1 (Sta.ext O.2 hS.2.2.2.2.1) (g := (mkF m 8 #[.val (.ref wS)] [(.ref wS)])) rfl (hb hby d_iwS_8)
  refine Go.by (T' := T2) (f' := (mkF m 11 #[.val (.ref wS)] [(.ref wD), (.ref wS)])) (st2) ?_
  refine Go.by (T' := T2) (f' := (mkF m 18 #[.val (.ref wS)] [])) (fun _ k => Jvm.RoadKit.acmp (g := (mkF m 11 #[.val (.ref wS)] [(.ref wD), (.ref wS)])) X2 hx rfl rfl rfl (pc0 := 11) (pc' := 18) (same := false) rfl (hb hby d_iwS_11) rfl (decide_eq_false fun q => (Ne.symm hS.2.2.2.2.2.2.2.2.2.2.2.2.2.2.2.2.2.1) (Value.ref.inj q)) (by decide) (by decide) k) ?_
  refine Go.by (T' := T2) (f' := (mkF m 19 #[.val (.ref wS)] [(.int (0 : Int32))])) (fun _ k => XS.iconst X2.here hx rfl (hb hby d_iwS_18) k) ?_
  obtain ⟨fs, hr, hrun, hended, hW, hsame⟩ := X2.leave (v := some (.int (0 : Int32))) (fun h => by rw [Bd.returns] at h; cases h)
  refine ⟨_, _, retN X2 hx (t := .boolean) Bd.returns (by simp) (hb hby d_iwS_19) hr, hrun, hended, _, _, rfl, ?_, ⟨_, rfl⟩, hW, hsame.mono (by decide) (by decide)⟩
  show Qi 0 h0 n0 (some (.int (0 : Int32))) T2.heap _
  rw [e2]
  exact ⟨rfl, N, rfl⟩

theorem d_iwB_0 : decode prog_78_method_6_code 0 = .ok (.aload_n 0, 1) := by decide +kernel
theorem d_iwB_1 : decode prog_78_method_6_code 1 = .ok (.getstatic 7, 3) := by decide +kernel
theorem d_iwB_4 : decode prog_78_method_6_code 4 = .ok (.if_acmp .eq 10, 3) := by decide +kernel
theorem d_iwB_7 : decode prog_78_method_6_code 7 = .ok (.aload_n 0, 1) := by decide +kernel
theorem d_iwB_8 : decode prog_78_method_6_code 8 = .ok (.getstatic 10, 3) := by decide +kernel
theorem d_iwB_11 : decode prog_78_method_6_code 11 = .ok (.if_acmp .ne 7, 3) := by decide +kernel
theorem d_iwB_18 : decode prog_78_method_6_code 18 = .ok (.iconst 0, 1) := by decide +kernel
theorem d_iwB_19 : decode prog_78_method_6_code 19 = .ok (.ireturn, 1) := by decide +kernel
theorem pn_iwB : plainFor (⟨"com/example/nuthatch/nuthatch/core/DataRange$Datatype", "isNumeric", "()Z"⟩ : MethodName) = true := plainFor_of_name (by first | (simp [plainName, overriddenIn]; done) | decide +kernel)
theorem ef_iwB (m : MethodId) (x0 : Addr) : entryFrame m #[(.ref x0)] 1 = mkF m 0 #[.val (.ref x0)] [] := by first | (simp [entryFrame, mkF, argsToLocals, Value.category]; done) | rfl
set_option maxRecDepth 65536 in
set_option maxHeartbeats 40000000 in
theorem rm_iwB (l : Launch) (Z : State) (a0 : Array Value) (hw : ∀ d ∈ tables_1, d.before a0 Z = true) (ws : List Jvm.Cond) (wL : Addr) (wI : Addr) (wD : Addr) (wS : Addr) (wB : Addr) (hS : Sf Z wL wI wD wS wB) (h0 : Heap) (n0 : Nat) (O : Old Z n0 h0)  :
    MetFree l (⟨"com/example/nuthatch/nuthatch/core/DataRange$Datatype", "isNumeric", "()Z"⟩ : MethodName) (head1 (Jvm.Cond.code (⟨"com/example/nuthatch/nuthatch/core/DataRange$Datatype", "isNumeric", "()Z"⟩ : MethodName) prog_78_method_6_code 1 (some .boolean) :: ws) ({ frames := 0, cells := 0, slots := 0, locals := 0 } : Room)) (fun as_ U => as_ = #[(.ref wB)] ∧ Z.Warmed39 U.vm ∧ U.heap = h0) (fun _ _ _ _ _ => True) (fun _ U o U' => ∃ v L, o = .returned v ∧ Qi 0 h0 n0 v U'.heap L ∧ FrameEnd U o U' L ({ frames := 0, cells := 0, slots := 0, locals := 0 } : Room).cells ({ frames := 0, cells := 0, slots := 0, locals := 0 } : Room).slots) := by
  refine MetFree.of_bodySF pn_iwB hisR ?_
  intro p e s m args below meth c s₁ Bd hml0 hP hK
  obtain ⟨rfl, hZ, hh⟩ := hP
  have hx := Bd.exec
  have hby := Bd.bytes
  have hml : c.maxLocals = 1 := hml0
  have hown : s.vm.findClass "com/example/nuthatch/nuthatch/core/DataRange$Datatype" = some m.cls := findClass_of_methodNamed Bd.named
  have hnm := (name_of_methodNamed Bd.named Bd.method).1
  have X0 : Stand p l e ({ frames := 0, cells := 0, slots := 0, locals := 0 } : Room) s m #[(.ref wB)] below meth c s₁ [] 0 0 := Stand.of_body Bd
  have e0 : s₁.heap = h0 := by rw [← hh, Bd.state]; rfl
  have N := Fr.nil n0
  have K : Keep h0 h0 [] := Keep.refl _ _
  refine Go.by (T' := s₁) (f' := (mkF m 0 #[.val (.ref wB)] [])) (fun _ k => castTop (ef_iwB m wB) k) ?_
  have E_wL := hS.2.1.ext O.2
  have E_wI := hS.2.2.2.1.ext O.2
  have E_wD := hS.2.2.2.2.2.1.ext O.2
  have E_wS := hS.2.2.2.2.2.2.2.1.ext O.2
  have E_wB := hS.2.2.2.2.2.2.2.2.2.1.ext O.2
  refine Go.by (T' := s₁) (f' := (mkF m 1 #[.val (.ref wB)] [(.ref wB)])) (fun _ k => XS.aloadN X0.here hx rfl (hb hby d_iwB_0) rfl rfl k) ?_
  obtain ⟨T1, X1, e1, st1⟩ := getS2 X0 hx hZ hown (host := "") (Or.inl (hw _ (List.mem_of_getElem? (i := 9) rfl))) Via.refl e0 (Sta.ext O.2 hS.2.2.1) (g := (mkF m 1 #[.val (.ref wB)] [(.ref wB)])) rfl (hb hby d_iwB_1)
  refine Go.by (T' := T1) (f' := (mkF m 4 #[.val (.ref wB)] [(.ref wI), (.ref wB)])) (st1) ?_
  refine Go.by (T' := T1) (f' := (mkF m 7 #[.val (.ref wB)] [])) (fun _ k => Jvm.RoadKit.acmp (g := (mkF m 4 #[.val (.ref wB)] [(.ref wI), (.ref wB)])) X1 hx rfl rfl rfl (pc0 := 4) (pc' := 7) (same := false) rfl (hb hby d_iwB_4) rfl (decide_eq_false fun q => (Ne.symm hS.2.2.2.2.2.2.2.2.2.2.2.2.2.2.2.2.1) (Value.ref.inj q)) (by decide) (by decide) k) ?_
  refine Go.by (T' := T1) (f' := (mkF m 8 #[.val (.ref wB)] [(.ref wB)])) (fun _ k => XS.aloadN X1.here hx rfl (hb hby d_iwB_7) rfl rfl k) ?_
  obtain ⟨T2, X2, e2, st2⟩ := getS2 X1 hx hZ hown (host := "") (Or.inl (hw _ (List.mem_of_getElem? (i := 11) rfl))) Via.refl e1 (Sta.ext O.2 hS.2.2.2.2.1) (g := (mkF m 8 #[.val (.ref wB)] [(.ref wB)])) rfl (hb hby d_iwB_8)
  refine Go.by (T' := T2) (f' := (mkF m 11 #[.val (.ref wB)] [(.ref wD), (.ref wB)])) (st2) ?_
  refine Go.by (T' := T2) (f' := (mkF m 18 #[.val (.ref wB)] [])) (fun _ k => Jvm.RoadKit.acmp (g := (mkF m 11 #[.val (.ref wB)] [(.ref wD), (.ref wB)])) X2 hx rfl rfl rfl (pc0 := 11) (pc' := 18) (same := false) rfl (hb hby d_iwB_11) rfl (decide_eq_false fun q => (Ne.symm hS.2.2.2.2.2.2.2.2.2.2.2.2.2.2.2.2.2.2.1) (Value.ref.inj q)) (by decide) (by decide) k) ?_
  refine Go.by (T' := T2) (f' := (mkF m 19 #[.val (.ref wB)] [(.int (0 : Int32))])) (fun _ k => XS.iconst X2.here hx rfl (hb hby d_iwB_18) k) ?_
  obtain ⟨fs, hr, hrun, hended, hW, hsame⟩ := X2.leave (v := some (.int (0 : Int32))) (fun h => by rw [Bd.returns] at h; cases h)
  refine ⟨_, _, retN X2 hx (t := .boolean) Bd.returns (by simp) (hb hby d_iwB_19) hr, hrun, hended, _, _, rfl, ?_, ⟨_, rfl⟩, hW, hsame.mono (by decide) (by decide)⟩
  show Qi 0 h0 n0 (some (.int (0 : Int32))) T2.heap _
  rw [e2]
  exact ⟨rfl, N, rfl⟩

def Q1 (n0 : Nat) (v : Option Value) (h : Heap) (L : List Loc) : Prop := v = some (.int 1) ∧ Fr n0 L
theorem pn_rm1 : plainFor (⟨"com/example/nuthatch/nuthatch/core/DatatypeIsNumericPinLaw", "law", "(I)Z"⟩ : MethodName) = true := plainFor_of_name (by first | (simp [plainName, overriddenIn]; done) | decide +kernel)
theorem pd_rm1_0 : parseMethodDescriptor "()Z" = some ⟨[], some .boolean⟩ := by decide +kernel
theorem ef_rm1 (m : MethodId) (x0 : Int32) : entryFrame m #[(.int x0)] maxLocals = mkF m 0 #[.val (.int x0), .unset, .unset, .unset] [] := by first | (simp [entryFrame, mkF, argsToLocals, Value.category, maxLocals]; done) | rfl
set_option maxRecDepth 65536 in
set_option maxHeartbeats 40000000 in
theorem rm1 (l : Launch) (Z : State) (a0 : Array Value) (hw : ∀ d ∈ tables_1, d.before a0 Z = true) (ws : List Jvm.Cond) (p1 : Int32) (wL : Addr) (wI : Addr) (wD : Addr) (wS : Addr) (wB : Addr) (hS : Sf Z wL wI wD wS wB) (h0 : Heap) (n0 : Nat) (O : Old Z n0 h0)  :
    MetFree l x (head1 (Jvm.Cond.code x code maxLocals ret :: ws) room_1) (fun as_ U => as_ = #[(.int p1)] ∧ Z.Warmed39 U.vm ∧ U.heap = h0) (fun _ _ _ _ _ => True) (fun _ U o U' => ∃ v L, o = .returned v ∧ Q1 n0 v U'.heap L ∧ FrameEnd U o U' L 0 0) := by
  refine MetFree.of_bodySF pn_rm1 hisR ?_
  intro p e s m args below meth c s₁ Bd hml0 hP hK
  obtain ⟨rfl, hZ, hh⟩ := hP
  have hx := Bd.exec
  have hby := Bd.bytes
  have hml : c.maxLocals = 4 := hml0
  have hown : s.vm.findClass "com/example/nuthatch/nuthatch/core/DatatypeIsNumericPinLaw" = some m.cls := findClass_of_methodNamed Bd.named
  have hnm := (name_of_methodNamed Bd.named Bd.method).1
  have X0 : Stand p l e room_1 s m #[(.int p1)] below meth c s₁ [] 0 0 := Stand.of_body Bd
  have e0 : s₁.heap = h0 := by rw [← hh, Bd.state]; rfl
  have N := Fr.nil n0
  have K : Keep h0 h0 [] := Keep.refl _ _
  refine Go.by (T' := s₁) (f' := (mkF m 0 #[.val (.int p1), .unset, .unset, .unset] [])) (fun _ k => castTop (ef_rm1 m p1) k) ?_
  have E_wL := hS.2.1.ext O.2
  have E_wI := hS.2.2.2.1.ext O.2
  have E_wD := hS.2.2.2.2.2.1.ext O.2
  have E_wS := hS.2.2.2.2.2.2.2.1.ext O.2
  have E_wB := hS.2.2.2.2.2.2.2.2.2.1.ext O.2
  refine Go.by (T' := s₁) (f' := (mkF m 1 #[.val (.int p1), .unset, .unset, .unset] [(.int p1)])) (fun _ k => XS.iloadN X0.here hx rfl (hb hby at_0) rfl k) ?_
  refine Go.by (T' := s₁) (f' := (mkF m 3 #[.val (.int p1), .unset, .unset, .unset] [(.int (2147483647 : Int32)), (.int p1)])) (X0.ldcInt hx hown (mvT hZ (hw _ (List.mem_of_getElem? (i := 0) rfl))) (g := (mkF m 1 #[.val (.int p1), .unset, .unset, .unset] [(.int p1)])) rfl (hb hby at_1)) ?_
  refine Go.by (T' := s₁) (f' := (mkF m 4 #[.val (.int p1), .unset, .unset, .unset] [(.int (p1 &&& (2147483647 : Int32)))])) (fun _ k => XS.iand X0.here hx rfl (hb hby at_3) rfl k) ?_
  refine Go.by (T' := s₁) (f' := (mkF m 5 #[.val (.int p1), .unset, .unset, .unset] [(.int (5 : Int32)), (.int (p1 &&& (2147483647 : Int32)))])) (fun _ k => XS.iconst X0.here hx rfl (hb hby at_4) k) ?_
  refine Go.by (T' := s₁) (f' := (mkF m 6 #[.val (.int p1), .unset, .unset, .unset] [(.int ((p1 &&& (2147483647 : Int32)) % (5 : Int32)))])) (fun _ k => iremM X0 hx rfl (hb hby at_5) rfl (by decide) k) ?_
  refine Go.by (T' := s₁) (f' := (mkF m 7 #[.val (.int p1), .val (.int ((p1 &&& (2147483647 : Int32)) % (5 : Int32))), .unset, .unset] [])) (fun _ k => XS.istoreN X0.here hx rfl (hb hby at_6) rfl (l' := #[.val (.int p1), .val (.int ((p1 &&& (2147483647 : Int32)) % (5 : Int32))), .unset, .unset]) rfl k) ?_
  refine Go.by (T' := s₁) (f' := (mkF m 8 #[.val (.int p1), .val (.int ((p1 &&& (2147483647 : Int32)) % (5 : Int32))), .unset, .unset] [(.int ((p1 &&& (2147483647 : Int32)) % (5 : Int32)))])) (fun _ k => XS.iloadN X0.here hx rfl (hb hby at_7) rfl k) ?_
  by_cases hc8_1 : ((p1 &&& (2147483647 : Int32)) % (5 : Int32)) = (0 : Int32)
  · skip
    refine Go.by (T' := s₁) (f' := (mkF m 11 #[.val (.int p1), .val (.int ((p1 &&& (2147483647 : Int32)) % (5 : Int32))), .unset, .unset] [])) (fun _ k => XS.ifNo X0.here hx rfl (hb hby at_8) rfl ((if0 _ _).trans (teq hc8_1).2) k) ?_
    obtain ⟨T2, X2, e2, st2⟩ := getS2 X0 hx hZ hown (host := "") (Or.inl (hw _ (List.mem_of_getElem? (i := 1) rfl))) Via.refl e0 (Sta.ext O.2 hS.1) (g := (mkF m 11 #[.val (.int p1), .val (.int ((p1 &&& (2147483647 : Int32)) % (5 : Int32))), .unset, .unset] [])) rfl (hb hby at_11)
    refine Go.by (T' := T2) (f' := (mkF m 14 #[.val (.int p1), .val (.int ((p1 &&& (2147483647 : Int32)) % (5 : Int32))), .unset, .unset] [(.ref wL)])) (st2) ?_
    refine Go.by (T' := T2) (f' := (mkF m 15 #[.val (.int p1), .val (.int ((p1 &&& (2147483647 : Int32)) % (5 : Int32))), .val (.ref wL), .unset] [])) (fun _ k => XS.astoreN X2.here hx rfl (hb hby at_14) rfl rfl (l' := #[.val (.int p1), .val (.int ((p1 &&& (2147483647 : Int32)) % (5 : Int32))), .val (.ref wL), .unset]) rfl k) ?_
    refine Go.by (T' := T2) (f' := (mkF m 16 #[.val (.int p1), .val (.int ((p1 &&& (2147483647 : Int32)) % (5 : Int32))), .val (.ref wL), .unset] [(.int (0 : Int32))])) (fun _ k => XS.iconst X2.here hx rfl (hb hby at_15) k) ?_
    refine Go.by (T' := T2) (f' := (mkF m 17 #[.val (.int p1), .val (.int ((p1 &&& (2147483647 : Int32)) % (5 : Int32))), .val (.ref wL), .val (.int (0 : Int32))] [])) (fun _ k => XS.istoreN X2.here hx rfl (hb hby at_16) rfl (l' := #[.val (.int p1), .val (.int ((p1 &&& (2147483647 : Int32)) % (5 : Int32))), .val (.ref wL), .val (.int (0 : Int32))]) rfl k) ?_
    refine Go.by (T' := T2) (f' := (mkF m 68 #[.val (.int p1), .val (.int ((p1 &&& (2147483647 : Int32)) % (5 : Int32))), .val (.ref wL), .val (.int (0 : Int32))] [])) (fun _ k => XS.goto X2.here hx rfl (pc0 := 17) (pc' := 68) rfl (hb hby at_17) (by decide) (by decide) k) ?_
    refine Go.by (T' := T2) (f' := (mkF m 69 #[.val (.int p1), .val (.int ((p1 &&& (2147483647 : Int32)) % (5 : Int32))), .val (.ref wL), .val (.int (0 : Int32))] [(.ref wL)])) (fun _ k => XS.aloadN X2.here hx rfl (hb hby at_68) rfl rfl k) ?_
    obtain ⟨cq3, kq3, q3a, q3b, q3c⟩ := isOf hZ e2 E_wL
    obtain ⟨v3, _, ⟨T3, L3, k3, n3⟩, -, X3, ⟨Lc3, hQ3, l3, y3, z3⟩, st3⟩ := X2.virtualBack hx (y := (⟨"com/example/nuthatch/nuthatch/core/DataRange$Datatype", "isNumeric", "()Z"⟩ : MethodName)) (z := (⟨"com/example/nuthatch/nuthatch/core/DataRange$Datatype", "isNumeric", "()Z"⟩ : MethodName)) hown (mvT hZ (hw _ (List.mem_of_getElem? (i := 4) rfl))) (mvT hZ (hw _ (List.mem_of_getElem? (i := 5) rfl))) (notFace_of_selects (args := #[]) (mvT hZ (hw _ (List.mem_of_getElem? (i := 7) rfl)))) (mvT hZ (hw _ (List.mem_of_getElem? (i := 7) rfl))) (mvT hZ (hw _ (List.mem_of_getElem? (i := 6) rfl))) (by decide) (backOf (W := 0) (rm_iwL l Z a0 hw [] wL wI wD wS wB hS h0 n0 O) hZ (hw _ (List.mem_of_getElem? (i := 8) rfl)) (hw _ (List.mem_of_getElem? (i := 2) rfl)) (by decide) (by decide)) q3a q3c (g := (mkF m 69 #[.val (.int p1), .val (.int ((p1 &&& (2147483647 : Int32)) % (5 : Int32))), .val (.ref wL), .val (.int (0 : Int32))] [(.ref wL)])) rfl (by rw [hml]; rfl) (Steps.refl _) (argsL := []) (rest := []) (lenOf pd_rm1_0 rfl) rfl (by show 2 * 0 + _ ≤ _; exact Nat.le_of_eq rfl) (hb hby at_69) (fun _ _ => ⟨rfl, e2, (by decide : 0 + 0 ≤ _), (by decide : 0 + 0 ≤ _)⟩)
    dsimp only [Pt.U, Pt.locs, Pt.cells, Pt.slots] at X3 l3 y3 z3 st3 hQ3
    subst l3 y3 z3
    obtain ⟨rfl, Nq3, e3⟩ := hQ3
    replace N := Fr.app N Nq3
    refine Go.by (T' := T3) (f' := (mkF m 72 #[.val (.int p1), .val (.int ((p1 &&& (2147483647 : Int32)) % (5 : Int32))), .val (.ref wL), .val (.int (0 : Int32))] [(.int (0 : Int32))])) (fun _ k => st3.trans k) ?_
    refine Go.by (T' := T3) (f' := (mkF m 73 #[.val (.int p1), .val (.int ((p1 &&& (2147483647 : Int32)) % (5 : Int32))), .val (.ref wL), .val (.int (0 : Int32))] [(.int (0 : Int32)), (.int (0 : Int32))])) (fun _ k => XS.iloadN X3.here hx rfl (hb hby at_72) rfl k) ?_
    refine Go.by (T' := T3) (f' := (mkF m 76 #[.val (.int p1), .val (.int ((p1 &&& (2147483647 : Int32)) % (5 : Int32))), .val (.ref wL), .val (.int (0 : Int32))] [])) (fun _ k => XS.icmpNo X3.here hx rfl (hb hby at_73) rfl (teq (by decide : (0 : Int32) = (0 : Int32))).2 k) ?_
    refine Go.by (T' := T3) (f' := (mkF m 77 #[.val (.int p1), .val (.int ((p1 &&& (2147483647 : Int32)) % (5 : Int32))), .val (.ref wL), .val (.int (0 : Int32))] [(.int (1 : Int32))])) (fun _ k => XS.iconst X3.here hx rfl (hb hby at_76) k) ?_
    refine Go.by (T' := T3) (f' := (mkF m 81 #[.val (.int p1), .val (.int ((p1 &&& (2147483647 : Int32)) % (5 : Int32))), .val (.ref wL), .val (.int (0 : Int32))] [(.int (1 : Int32))])) (fun _ k => XS.goto X3.here hx rfl (pc0 := 77) (pc' := 81) rfl (hb hby at_77) (by decide) (by decide) k) ?_
    obtain ⟨fs, hr, hrun, hended, hW, hsame⟩ := X3.leave (v := some (.int (1 : Int32))) (fun h => by rw [Bd.returns] at h; cases h)
    refine ⟨_, _, retN X3 hx (t := .boolean) Bd.returns (by simp) (hb hby at_81) hr, hrun, hended, _, _, rfl, ?_, ⟨_, rfl⟩, hW, hsame.mono (by decide) (by decide)⟩
    show Q1 n0 (some (.int (1 : Int32))) T3.heap _
    rw [e3]
    exact ⟨rfl, N⟩
  · skip
    refine Go.by (T' := s₁) (f' := (mkF m 20 #[.val (.int p1), .val (.int ((p1 &&& (2147483647 : Int32)) % (5 : Int32))), .unset, .unset] [])) (fun _ k => XS.ifYes X0.here hx rfl (pc0 := 8) (pc' := 20) rfl (hb hby at_8) rfl ((if0 _ _).trans (feq hc8_1).2) (by decide) (by decide) k) ?_
    refine Go.by (T' := s₁) (f' := (mkF m 21 #[.val (.int p1), .val (.int ((p1 &&& (2147483647 : Int32)) % (5 : Int32))), .unset, .unset] [(.int ((p1 &&& (2147483647 : Int32)) % (5 : Int32)))])) (fun _ k => XS.iloadN X0.here hx rfl (hb hby at_20) rfl k) ?_
    refine Go.by (T' := s₁) (f' := (mkF m 22 #[.val (.int p1), .val (.int ((p1 &&& (2147483647 : Int32)) % (5 : Int32))), .unset, .unset] [(.int (1 : Int32)), (.int ((p1 &&& (2147483647 : Int32)) % (5 : Int32)))])) (fun _ k => XS.iconst X0.here hx rfl (hb hby at_21) k) ?_
    by_cases hc22_5 : ((p1 &&& (2147483647 : Int32)) % (5 : Int32)) = (1 : Int32)
    · skip
      refine Go.by (T' := s₁) (f' := (mkF m 25 #[.val (.int p1), .val (.int ((p1 &&& (2147483647 : Int32)) % (5 : Int32))), .unset, .unset] [])) (fun _ k => XS.icmpNo X0.here hx rfl (hb hby at_22) rfl (teq hc22_5).2 k) ?_
      obtain ⟨T6, X6, e6, st6⟩ := getS2 X0 hx hZ hown (host := "") (Or.inl (hw _ (List.mem_of_getElem? (i := 15) rfl))) Via.refl e0 (Sta.ext O.2 hS.2.2.1) (g := (mkF m 25 #[.val (.int p1), .val (.int ((p1 &&& (2147483647 : Int32)) % (5 : Int32))), .unset, .unset] [])) rfl (hb hby at_25)
      refine Go.by (T' := T6) (f' := (mkF m 28 #[.val (.int p1), .val (.int ((p1 &&& (2147483647 : Int32)) % (5 : Int32))), .unset, .unset] [(.ref wI)])) (st6) ?_
      refine Go.by (T' := T6) (f' := (mkF m 29 #[.val (.int p1), .val (.int ((p1 &&& (2147483647 : Int32)) % (5 : Int32))), .val (.ref wI), .unset] [])) (fun _ k => XS.astoreN X6.here hx rfl (hb hby at_28) rfl rfl (l' := #[.val (.int p1), .val (.int ((p1 &&& (2147483647 : Int32)) % (5 : Int32))), .val (.ref wI), .unset]) rfl k) ?_
      refine Go.by (T' := T6) (f' := (mkF m 30 #[.val (.int p1), .val (.int ((p1 &&& (2147483647 : Int32)) % (5 : Int32))), .val (.ref wI), .unset] [(.int (1 : Int32))])) (fun _ k => XS.iconst X6.here hx rfl (hb hby at_29) k) ?_
      refine Go.by (T' := T6) (f' := (mkF m 31 #[.val (.int p1), .val (.int ((p1 &&& (2147483647 : Int32)) % (5 : Int32))), .val (.ref wI), .val (.int (1 : Int32))] [])) (fun _ k => XS.istoreN X6.here hx rfl (hb hby at_30) rfl (l' := #[.val (.int p1), .val (.int ((p1 &&& (2147483647 : Int32)) % (5 : Int32))), .val (.ref wI), .val (.int (1 : Int32))]) rfl k) ?_
      refine Go.by (T' := T6) (f' := (mkF m 68 #[.val (.int p1), .val (.int ((p1 &&& (2147483647 : Int32)) % (5 : Int32))), .val (.ref wI), .val (.int (1 : Int32))] [])) (fun _ k => XS.goto X6.here hx rfl (pc0 := 31) (pc' := 68) rfl (hb hby at_31) (by decide) (by decide) k) ?_
      refine Go.by (T' := T6) (f' := (mkF m 69 #[.val (.int p1), .val (.int ((p1 &&& (2147483647 : Int32)) % (5 : Int32))), .val (.ref wI), .val (.int (1 : Int32))] [(.ref wI)])) (fun _ k => XS.aloadN X6.here hx rfl (hb hby at_68) rfl rfl k) ?_
      obtain ⟨cq7, kq7, q7a, q7b, q7c⟩ := isOf hZ e6 E_wI
      obtain ⟨v7, _, ⟨T7, L7, k7, n7⟩, -, X7, ⟨Lc7, hQ7, l7, y7, z7⟩, st7⟩ := X6.virtualBack hx (y := (⟨"com/example/nuthatch/nuthatch/core/DataRange$Datatype", "isNumeric", "()Z"⟩ : MethodName)) (z := (⟨"com/example/nuthatch/nuthatch/core/DataRange$Datatype", "isNumeric", "()Z"⟩ : MethodName)) hown (mvT hZ (hw _ (List.mem_of_getElem? (i := 4) rfl))) (mvT hZ (hw _ (List.mem_of_getElem? (i := 5) rfl))) (notFace_of_selects (args := #[]) (mvT hZ (hw _ (List.mem_of_getElem? (i := 7) rfl)))) (mvT hZ (hw _ (List.mem_of_getElem? (i := 7) rfl))) (mvT hZ (hw _ (List.mem_of_getElem? (i := 6) rfl))) (by decide) (backOf (W := 0) (rm_iwI l Z a0 hw [] wL wI wD wS wB hS h0 n0 O) hZ (hw _ (List.mem_of_getElem? (i := 8) rfl)) (hw _ (List.mem_of_getElem? (i := 2) rfl)) (by decide) (by decide)) q7a q7c (g := (mkF m 69 #[.val (.int p1), .val (.int ((p1 &&& (2147483647 : Int32)) % (5 : Int32))), .val (.ref wI), .val (.int (1 : Int32))] [(.ref wI)])) rfl (by rw [hml]; rfl) (Steps.refl _) (argsL := []) (rest := []) (lenOf pd_rm1_0 rfl) rfl (by show 2 * 0 + _ ≤ _; exact Nat.le_of_eq rfl) (hb hby at_69) (fun _ _ => ⟨rfl, e6, (by decide : 0 + 0 ≤ _), (by decide : 0 + 0 ≤ _)⟩)
      dsimp only [Pt.U, Pt.locs, Pt.cells, Pt.slots] at X7 l7 y7 z7 st7 hQ7
      subst l7 y7 z7
      obtain ⟨rfl, Nq7, e7⟩ := hQ7
      replace N := Fr.app N Nq7
      refine Go.by (T' := T7) (f' := (mkF m 72 #[.val (.int p1), .val (.int ((p1 &&& (2147483647 : Int32)) % (5 : Int32))), .val (.ref wI), .val (.int (1 : Int32))] [(.int (1 : Int32))])) (fun _ k => st7.trans k) ?_
      refine Go.by (T' := T7) (f' := (mkF m 73 #[.val (.int p1), .val (.int ((p1 &&& (2147483647 : Int32)) % (5 : Int32))), .val (.ref wI), .val (.int (1 : Int32))] [(.int (1 : Int32)), (.int (1 : Int32))])) (fun _ k => XS.iloadN X7.here hx rfl (hb hby at_72) rfl k) ?_
      refine Go.by (T' := T7) (f' := (mkF m 76 #[.val (.int p1), .val (.int ((p1 &&& (2147483647 : Int32)) % (5 : Int32))), .val (.ref wI), .val (.int (1 : Int32))] [])) (fun _ k => XS.icmpNo X7.here hx rfl (hb hby at_73) rfl (teq (by decide : (1 : Int32) = (1 : Int32))).2 k) ?_
      refine Go.by (T' := T7) (f' := (mkF m 77 #[.val (.int p1), .val (.int ((p1 &&& (2147483647 : Int32)) % (5 : Int32))), .val (.ref wI), .val (.int (1 : Int32))] [(.int (1 : Int32))])) (fun _ k => XS.iconst X7.here hx rfl (hb hby at_76) k) ?_
      refine Go.by (T' := T7) (f' := (mkF m 81 #[.val (.int p1), .val (.int ((p1 &&& (2147483647 : Int32)) % (5 : Int32))), .val (.ref wI), .val (.int (1 : Int32))] [(.int (1 : Int32))])) (fun _ k => XS.goto X7.here hx rfl (pc0 := 77) (pc' := 81) rfl (hb hby at_77) (by decide) (by decide) k) ?_
      obtain ⟨fs, hr, hrun, hended, hW, hsame⟩ := X7.leave (v := some (.int (1 : Int32))) (fun h => by rw [Bd.returns] at h; cases h)
      refine ⟨_, _, retN X7 hx (t := .boolean) Bd.returns (by simp) (hb hby at_81) hr, hrun, hended, _, _, rfl, ?_, ⟨_, rfl⟩, hW, hsame.mono (by decide) (by decide)⟩
      show Q1 n0 (some (.int (1 : Int32))) T7.heap _
      rw [e7]
      exact ⟨rfl, N⟩
    · skip
      refine Go.by (T' := s₁) (f' := (mkF m 34 #[.val (.int p1), .val (.int ((p1 &&& (2147483647 : Int32)) % (5 : Int32))), .unset, .unset] [])) (fun _ k => XS.icmpYes X0.here hx rfl (pc0 := 22) (pc' := 34) rfl (hb hby at_22) rfl (feq hc22_5).2 (by decide) (by decide) k) ?_
      refine Go.by (T' := s₁) (f' := (mkF m 35 #[.val (.int p1), .val (.int ((p1 &&& (2147483647 : Int32)) % (5 : Int32))), .unset, .unset] [(.int ((p1 &&& (2147483647 : Int32)) % (5 : Int32)))])) (fun _ k => XS.iloadN X0.here hx rfl (hb hby at_34) rfl k) ?_
      refine Go.by (T' := s₁) (f' := (mkF m 36 #[.val (.int p1), .val (.int ((p1 &&& (2147483647 : Int32)) % (5 : Int32))), .unset, .unset] [(.int (2 : Int32)), (.int ((p1 &&& (2147483647 : Int32)) % (5 : Int32)))])) (fun _ k => XS.iconst X0.here hx rfl (hb hby at_35) k) ?_
      by_cases hc36_9 : ((p1 &&& (2147483647 : Int32)) % (5 : Int32)) = (2 : Int32)
      · skip
        refine Go.by (T' := s₁) (f' := (mkF m 39 #[.val (.int p1), .val (.int ((p1 &&& (2147483647 : Int32)) % (5 : Int32))), .unset, .unset] [])) (fun _ k => XS.icmpNo X0.here hx rfl (hb hby at_36) rfl (teq hc36_9).2 k) ?_
        obtain ⟨T10, X10, e10, st10⟩ := getS2 X0 hx hZ hown (host := "") (Or.inl (hw _ (List.mem_of_getElem? (i := 18) rfl))) Via.refl e0 (Sta.ext O.2 hS.2.2.2.2.1) (g := (mkF m 39 #[.val (.int p1), .val (.int ((p1 &&& (2147483647 : Int32)) % (5 : Int32))), .unset, .unset] [])) rfl (hb hby at_39)
        refine Go.by (T' := T10) (f' := (mkF m 42 #[.val (.int p1), .val (.int ((p1 &&& (2147483647 : Int32)) % (5 : Int32))), .unset, .unset] [(.ref wD)])) (st10) ?_
        refine Go.by (T' := T10) (f' := (mkF m 43 #[.val (.int p1), .val (.int ((p1 &&& (2147483647 : Int32)) % (5 : Int32))), .val (.ref wD), .unset] [])) (fun _ k => XS.astoreN X10.here hx rfl (hb hby at_42) rfl rfl (l' := #[.val (.int p1), .val (.int ((p1 &&& (2147483647 : Int32)) % (5 : Int32))), .val (.ref wD), .unset]) rfl k) ?_
        refine Go.by (T' := T10) (f' := (mkF m 44 #[.val (.int p1), .val (.int ((p1 &&& (2147483647 : Int32)) % (5 : Int32))), .val (.ref wD), .unset] [(.int (1 : Int32))])) (fun _ k => XS.iconst X10.here hx rfl (hb hby at_43) k) ?_
        refine Go.by (T' := T10) (f' := (mkF m 45 #[.val (.int p1), .val (.int ((p1 &&& (2147483647 : Int32)) % (5 : Int32))), .val (.ref wD), .val (.int (1 : Int32))] [])) (fun _ k => XS.istoreN X10.here hx rfl (hb hby at_44) rfl (l' := #[.val (.int p1), .val (.int ((p1 &&& (2147483647 : Int32)) % (5 : Int32))), .val (.ref wD), .val (.int (1 : Int32))]) rfl k) ?_
        refine Go.by (T' := T10) (f' := (mkF m 68 #[.val (.int p1), .val (.int ((p1 &&& (2147483647 : Int32)) % (5 : Int32))), .val (.ref wD), .val (.int (1 : Int32))] [])) (fun _ k => XS.goto X10.here hx rfl (pc0 := 45) (pc' := 68) rfl (hb hby at_45) (by decide) (by decide) k) ?_
        refine Go.by (T' := T10) (f' := (mkF m 69 #[.val (.int p1), .val (.int ((p1 &&& (2147483647 : Int32)) % (5 : Int32))), .val (.ref wD), .val (.int (1 : Int32))] [(.ref wD)])) (fun _ k => XS.aloadN X10.here hx rfl (hb hby at_68) rfl rfl k) ?_
        obtain ⟨cq11, kq11, q11a, q11b, q11c⟩ := isOf hZ e10 E_wD
        obtain ⟨v11, _, ⟨T11, L11, k11, n11⟩, -, X11, ⟨Lc11, hQ11, l11, y11, z11⟩, st11⟩ := X10.virtualBack hx (y := (⟨"com/example/nuthatch/nuthatch/core/DataRange$Datatype", "isNumeric", "()Z"⟩ : MethodName)) (z := (⟨"com/example/nuthatch/nuthatch/core/DataRange$Datatype", "isNumeric", "()Z"⟩ : MethodName)) hown (mvT hZ (hw _ (List.mem_of_getElem? (i := 4) rfl))) (mvT hZ (hw _ (List.mem_of_getElem? (i := 5) rfl))) (notFace_of_selects (args := #[]) (mvT hZ (hw _ (List.mem_of_getElem? (i := 7) rfl)))) (mvT hZ (hw _ (List.mem_of_getElem? (i := 7) rfl))) (mvT hZ (hw _ (List.mem_of_getElem? (i := 6) rfl))) (by decide) (backOf (W := 0) (rm_iwD l Z a0 hw [] wL wI wD wS wB hS h0 n0 O) hZ (hw _ (List.mem_of_getElem? (i := 8) rfl)) (hw _ (List.mem_of_getElem? (i := 2) rfl)) (by decide) (by decide)) q11a q11c (g := (mkF m 69 #[.val (.int p1), .val (.int ((p1 &&& (2147483647 : Int32)) % (5 : Int32))), .val (.ref wD), .val (.int (1 : Int32))] [(.ref wD)])) rfl (by rw [hml]; rfl) (Steps.refl _) (argsL := []) (rest := []) (lenOf pd_rm1_0 rfl) rfl (by show 2 * 0 + _ ≤ _; exact Nat.le_of_eq rfl) (hb hby at_69) (fun _ _ => ⟨rfl, e10, (by decide : 0 + 0 ≤ _), (by decide : 0 + 0 ≤ _)⟩)
        dsimp only [Pt.U, Pt.locs, Pt.cells, Pt.slots] at X11 l11 y11 z11 st11 hQ11
        subst l11 y11 z11
        obtain ⟨rfl, Nq11, e11⟩ := hQ11
        replace N := Fr.app N Nq11
        refine Go.by (T' := T11) (f' := (mkF m 72 #[.val (.int p1), .val (.int ((p1 &&& (2147483647 : Int32)) % (5 : Int32))), .val (.ref wD), .val (.int (1 : Int32))] [(.int (1 : Int32))])) (fun _ k => st11.trans k) ?_
        refine Go.by (T' := T11) (f' := (mkF m 73 #[.val (.int p1), .val (.int ((p1 &&& (2147483647 : Int32)) % (5 : Int32))), .val (.ref wD), .val (.int (1 : Int32))] [(.int (1 : Int32)), (.int (1 : Int32))])) (fun _ k => XS.iloadN X11.here hx rfl (hb hby at_72) rfl k) ?_
        refine Go.by (T' := T11) (f' := (mkF m 76 #[.val (.int p1), .val (.int ((p1 &&& (2147483647 : Int32)) % (5 : Int32))), .val (.ref wD), .val (.int (1 : Int32))] [])) (fun _ k => XS.icmpNo X11.here hx rfl (hb hby at_73) rfl (teq (by decide : (1 : Int32) = (1 : Int32))).2 k) ?_
        refine Go.by (T' := T11) (f' := (mkF m 77 #[.val (.int p1), .val (.int ((p1 &&& (2147483647 : Int32)) % (5 : Int32))), .val (.ref wD), .val (.int (1 : Int32))] [(.int (1 : Int32))])) (fun _ k => XS.iconst X11.here hx rfl (hb hby at_76) k) ?_
        refine Go.by (T' := T11) (f' := (mkF m 81 #[.val (.int p1), .val (.int ((p1 &&& (2147483647 : Int32)) % (5 : Int32))), .val (.ref wD), .val (.int (1 : Int32))] [(.int (1 : Int32))])) (fun _ k => XS.goto X11.here hx rfl (pc0 := 77) (pc' := 81) rfl (hb hby at_77) (by decide) (by decide) k) ?_
        obtain ⟨fs, hr, hrun, hended, hW, hsame⟩ := X11.leave (v := some (.int (1 : Int32))) (fun h => by rw [Bd.returns] at h; cases h)
        refine ⟨_, _, retN X11 hx (t := .boolean) Bd.returns (by simp) (hb hby at_81) hr, hrun, hended, _, _, rfl, ?_, ⟨_, rfl⟩, hW, hsame.mono (by decide) (by decide)⟩
        show Q1 n0 (some (.int (1 : Int32))) T11.heap _
        rw [e11]
        exact ⟨rfl, N⟩
      · skip
        refine Go.by (T' := s₁) (f' := (mkF m 48 #[.val (.int p1), .val (.int ((p1 &&& (2147483647 : Int32)) % (5 : Int32))), .unset, .unset] [])) (fun _ k => XS.icmpYes X0.here hx rfl (pc0 := 36) (pc' := 48) rfl (hb hby at_36) rfl (feq hc36_9).2 (by decide) (by decide) k) ?_
        refine Go.by (T' := s₁) (f' := (mkF m 49 #[.val (.int p1), .val (.int ((p1 &&& (2147483647 : Int32)) % (5 : Int32))), .unset, .unset] [(.int ((p1 &&& (2147483647 : Int32)) % (5 : Int32)))])) (fun _ k => XS.iloadN X0.here hx rfl (hb hby at_48) rfl k) ?_
        refine Go.by (T' := s₁) (f' := (mkF m 50 #[.val (.int p1), .val (.int ((p1 &&& (2147483647 : Int32)) % (5 : Int32))), .unset, .unset] [(.int (3 : Int32)), (.int ((p1 &&& (2147483647 : Int32)) % (5 : Int32)))])) (fun _ k => XS.iconst X0.here hx rfl (hb hby at_49) k) ?_
        by_cases hc50_13 : ((p1 &&& (2147483647 : Int32)) % (5 : Int32)) = (3 : Int32)
        · skip
          refine Go.by (T' := s₁) (f' := (mkF m 53 #[.val (.int p1), .val (.int ((p1 &&& (2147483647 : Int32)) % (5 : Int32))), .unset, .unset] [])) (fun _ k => XS.icmpNo X0.here hx rfl (hb hby at_50) rfl (teq hc50_13).2 k) ?_
          obtain ⟨T14, X14, e14, st14⟩ := getS2 X0 hx hZ hown (host := "") (Or.inl (hw _ (List.mem_of_getElem? (i := 13) rfl))) Via.refl e0 (Sta.ext O.2 hS.2.2.2.2.2.2.1) (g := (mkF m 53 #[.val (.int p1), .val (.int ((p1 &&& (2147483647 : Int32)) % (5 : Int32))), .unset, .unset] [])) rfl (hb hby at_53)
          refine Go.by (T' := T14) (f' := (mkF m 56 #[.val (.int p1), .val (.int ((p1 &&& (2147483647 : Int32)) % (5 : Int32))), .unset, .unset] [(.ref wS)])) (st14) ?_
          refine Go.by (T' := T14) (f' := (mkF m 57 #[.val (.int p1), .val (.int ((p1 &&& (2147483647 : Int32)) % (5 : Int32))), .val (.ref wS), .unset] [])) (fun _ k => XS.astoreN X14.here hx rfl (hb hby at_56) rfl rfl (l' := #[.val (.int p1), .val (.int ((p1 &&& (2147483647 : Int32)) % (5 : Int32))), .val (.ref wS), .unset]) rfl k) ?_
          refine Go.by (T' := T14) (f' := (mkF m 58 #[.val (.int p1), .val (.int ((p1 &&& (2147483647 : Int32)) % (5 : Int32))), .val (.ref wS), .unset] [(.int (0 : Int32))])) (fun _ k => XS.iconst X14.here hx rfl (hb hby at_57) k) ?_
          refine Go.by (T' := T14) (f' := (mkF m 59 #[.val (.int p1), .val (.int ((p1 &&& (2147483647 : Int32)) % (5 : Int32))), .val (.ref wS), .val (.int (0 : Int32))] [])) (fun _ k => XS.istoreN X14.here hx rfl (hb hby at_58) rfl (l' := #[.val (.int p1), .val (.int ((p1 &&& (2147483647 : Int32)) % (5 : Int32))), .val (.ref wS), .val (.int (0 : Int32))]) rfl k) ?_
          refine Go.by (T' := T14) (f' := (mkF m 68 #[.val (.int p1), .val (.int ((p1 &&& (2147483647 : Int32)) % (5 : Int32))), .val (.ref wS), .val (.int (0 : Int32))] [])) (fun _ k => XS.goto X14.here hx rfl (pc0 := 59) (pc' := 68) rfl (hb hby at_59) (by decide) (by decide) k) ?_
          refine Go.by (T' := T14) (f' := (mkF m 69 #[.val (.int p1), .val (.int ((p1 &&& (2147483647 : Int32)) % (5 : Int32))), .val (.ref wS), .val (.int (0 : Int32))] [(.ref wS)])) (fun _ k => XS.aloadN X14.here hx rfl (hb hby at_68) rfl rfl k) ?_
          obtain ⟨cq15, kq15, q15a, q15b, q15c⟩ := isOf hZ e14 E_wS
          obtain ⟨v15, _, ⟨T15, L15, k15, n15⟩, -, X15, ⟨Lc15, hQ15, l15, y15, z15⟩, st15⟩ := X14.virtualBack hx (y := (⟨"com/example/nuthatch/nuthatch/core/DataRange$Datatype", "isNumeric", "()Z"⟩ : MethodName)) (z := (⟨"com/example/nuthatch/nuthatch/core/DataRange$Datatype", "isNumeric", "()Z"⟩ : MethodName)) hown (mvT hZ (hw _ (List.mem_of_getElem? (i := 4) rfl))) (mvT hZ (hw _ (List.mem_of_getElem? (i := 5) rfl))) (notFace_of_selects (args := #[]) (mvT hZ (hw _ (List.mem_of_getElem? (i := 7) rfl)))) (mvT hZ (hw _ (List.mem_of_getElem? (i := 7) rfl))) (mvT hZ (hw _ (List.mem_of_getElem? (i := 6) rfl))) (by decide) (backOf (W := 0) (rm_iwS l Z a0 hw [] wL wI wD wS wB hS h0 n0 O) hZ (hw _ (List.mem_of_getElem? (i := 8) rfl)) (hw _ (List.mem_of_getElem? (i := 2) rfl)) (by decide) (by decide)) q15a q15c (g := (mkF m 69 #[.val (.int p1), .val (.int ((p1 &&& (2147483647 : Int32)) % (5 : Int32))), .val (.ref wS), .val (.int (0 : Int32))] [(.ref wS)])) rfl (by rw [hml]; rfl) (Steps.refl _) (argsL := []) (rest := []) (lenOf pd_rm1_0 rfl) rfl (by show 2 * 0 + _ ≤ _; exact Nat.le_of_eq rfl) (hb hby at_69) (fun _ _ => ⟨rfl, e14, (by decide : 0 + 0 ≤ _), (by decide : 0 + 0 ≤ _)⟩)
          dsimp only [Pt.U, Pt.locs, Pt.cells, Pt.slots] at X15 l15 y15 z15 st15 hQ15
          subst l15 y15 z15
          obtain ⟨rfl, Nq15, e15⟩ := hQ15
          replace N := Fr.app N Nq15
          refine Go.by (T' := T15) (f' := (mkF m 72 #[.val (.int p1), .val (.int ((p1 &&& (2147483647 : Int32)) % (5 : Int32))), .val (.ref wS), .val (.int (0 : Int32))] [(.int (0 : Int32))])) (fun _ k => st15.trans k) ?_
          refine Go.by (T' := T15) (f' := (mkF m 73 #[.val (.int p1), .val (.int ((p1 &&& (2147483647 : Int32)) % (5 : Int32))), .val (.ref wS), .val (.int (0 : Int32))] [(.int (0 : Int32)), (.int (0 : Int32))])) (fun _ k => XS.iloadN X15.here hx rfl (hb hby at_72) rfl k) ?_
          refine Go.by (T' := T15) (f' := (mkF m 76 #[.val (.int p1), .val (.int ((p1 &&& (2147483647 : Int32)) % (5 : Int32))), .val (.ref wS), .val (.int (0 : Int32))] [])) (fun _ k => XS.icmpNo X15.here hx rfl (hb hby at_73) rfl (teq (by decide : (0 : Int32) = (0 : Int32))).2 k) ?_
          refine Go.by (T' := T15) (f' := (mkF m 77 #[.val (.int p1), .val (.int ((p1 &&& (2147483647 : Int32)) % (5 : Int32))), .val (.ref wS), .val (.int (0 : Int32))] [(.int (1 : Int32))])) (fun _ k => XS.iconst X15.here hx rfl (hb hby at_76) k) ?_
          refine Go.by (T' := T15) (f' := (mkF m 81 #[.val (.int p1), .val (.int ((p1 &&& (2147483647 : Int32)) % (5 : Int32))), .val (.ref wS), .val (.int (0 : Int32))] [(.int (1 : Int32))])) (fun _ k => XS.goto X15.here hx rfl (pc0 := 77) (pc' := 81) rfl (hb hby at_77) (by decide) (by decide) k) ?_
          obtain ⟨fs, hr, hrun, hended, hW, hsame⟩ := X15.leave (v := some (.int (1 : Int32))) (fun h => by rw [Bd.returns] at h; cases h)
          refine ⟨_, _, retN X15 hx (t := .boolean) Bd.returns (by simp) (hb hby at_81) hr, hrun, hended, _, _, rfl, ?_, ⟨_, rfl⟩, hW, hsame.mono (by decide) (by decide)⟩
          show Q1 n0 (some (.int (1 : Int32))) T15.heap _
          rw [e15]
          exact ⟨rfl, N⟩
        · skip
          refine Go.by (T' := s₁) (f' := (mkF m 62 #[.val (.int p1), .val (.int ((p1 &&& (2147483647 : Int32)) % (5 : Int32))), .unset, .unset] [])) (fun _ k => XS.icmpYes X0.here hx rfl (pc0 := 50) (pc' := 62) rfl (hb hby at_50) rfl (feq hc50_13).2 (by decide) (by decide) k) ?_
          obtain ⟨T17, X17, e17, st17⟩ := getS2 X0 hx hZ hown (host := "") (Or.inl (hw _ (List.mem_of_getElem? (i := 16) rfl))) Via.refl e0 (Sta.ext O.2 hS.2.2.2.2.2.2.2.2.1) (g := (mkF m 62 #[.val (.int p1), .val (.int ((p1 &&& (2147483647 : Int32)) % (5 : Int32))), .unset, .unset] [])) rfl (hb hby at_62)
          refine Go.by (T' := T17) (f' := (mkF m 65 #[.val (.int p1), .val (.int ((p1 &&& (2147483647 : Int32)) % (5 : Int32))), .unset, .unset] [(.ref wB)])) (st17) ?_
          refine Go.by (T' := T17) (f' := (mkF m 66 #[.val (.int p1), .val (.int ((p1 &&& (2147483647 : Int32)) % (5 : Int32))), .val (.ref wB), .unset] [])) (fun _ k => XS.astoreN X17.here hx rfl (hb hby at_65) rfl rfl (l' := #[.val (.int p1), .val (.int ((p1 &&& (2147483647 : Int32)) % (5 : Int32))), .val (.ref wB), .unset]) rfl k) ?_
          refine Go.by (T' := T17) (f' := (mkF m 67 #[.val (.int p1), .val (.int ((p1 &&& (2147483647 : Int32)) % (5 : Int32))), .val (.ref wB), .unset] [(.int (0 : Int32))])) (fun _ k => XS.iconst X17.here hx rfl (hb hby at_66) k) ?_
          refine Go.by (T' := T17) (f' := (mkF m 68 #[.val (.int p1), .val (.int ((p1 &&& (2147483647 : Int32)) % (5 : Int32))), .val (.ref wB), .val (.int (0 : Int32))] [])) (fun _ k => XS.istoreN X17.here hx rfl (hb hby at_67) rfl (l' := #[.val (.int p1), .val (.int ((p1 &&& (2147483647 : Int32)) % (5 : Int32))), .val (.ref wB), .val (.int (0 : Int32))]) rfl k) ?_
          refine Go.by (T' := T17) (f' := (mkF m 69 #[.val (.int p1), .val (.int ((p1 &&& (2147483647 : Int32)) % (5 : Int32))), .val (.ref wB), .val (.int (0 : Int32))] [(.ref wB)])) (fun _ k => XS.aloadN X17.here hx rfl (hb hby at_68) rfl rfl k) ?_
          obtain ⟨cq18, kq18, q18a, q18b, q18c⟩ := isOf hZ e17 E_wB
          obtain ⟨v18, _, ⟨T18, L18, k18, n18⟩, -, X18, ⟨Lc18, hQ18, l18, y18, z18⟩, st18⟩ := X17.virtualBack hx (y := (⟨"com/example/nuthatch/nuthatch/core/DataRange$Datatype", "isNumeric", "()Z"⟩ : MethodName)) (z := (⟨"com/example/nuthatch/nuthatch/core/DataRange$Datatype", "isNumeric", "()Z"⟩ : MethodName)) hown (mvT hZ (hw _ (List.mem_of_getElem? (i := 4) rfl))) (mvT hZ (hw _ (List.mem_of_getElem? (i := 5) rfl))) (notFace_of_selects (args := #[]) (mvT hZ (hw _ (List.mem_of_getElem? (i := 7) rfl)))) (mvT hZ (hw _ (List.mem_of_getElem? (i := 7) rfl))) (mvT hZ (hw _ (List.mem_of_getElem? (i := 6) rfl))) (by decide) (backOf (W := 0) (rm_iwB l Z a0 hw [] wL wI wD wS wB hS h0 n0 O) hZ (hw _ (List.mem_of_getElem? (i := 8) rfl)) (hw _ (List.mem_of_getElem? (i := 2) rfl)) (by decide) (by decide)) q18a q18c (g := (mkF m 69 #[.val (.int p1), .val (.int ((p1 &&& (2147483647 : Int32)) % (5 : Int32))), .val (.ref wB), .val (.int (0 : Int32))] [(.ref wB)])) rfl (by rw [hml]; rfl) (Steps.refl _) (argsL := []) (rest := []) (lenOf pd_rm1_0 rfl) rfl (by show 2 * 0 + _ ≤ _; exact Nat.le_of_eq rfl) (hb hby at_69) (fun _ _ => ⟨rfl, e17, (by decide : 0 + 0 ≤ _), (by decide : 0 + 0 ≤ _)⟩)
          dsimp only [Pt.U, Pt.locs, Pt.cells, Pt.slots] at X18 l18 y18 z18 st18 hQ18
          subst l18 y18 z18
          obtain ⟨rfl, Nq18, e18⟩ := hQ18
          replace N := Fr.app N Nq18
          refine Go.by (T' := T18) (f' := (mkF m 72 #[.val (.int p1), .val (.int ((p1 &&& (2147483647 : Int32)) % (5 : Int32))), .val (.ref wB), .val (.int (0 : Int32))] [(.int (0 : Int32))])) (fun _ k => st18.trans k) ?_
          refine Go.by (T' := T18) (f' := (mkF m 73 #[.val (.int p1), .val (.int ((p1 &&& (2147483647 : Int32)) % (5 : Int32))), .val (.ref wB), .val (.int (0 : Int32))] [(.int (0 : Int32)), (.int (0 : Int32))])) (fun _ k => XS.iloadN X18.here hx rfl (hb hby at_72) rfl k) ?_
          refine Go.by (T' := T18) (f' := (mkF m 76 #[.val (.int p1), .val (.int ((p1 &&& (2147483647 : Int32)) % (5 : Int32))), .val (.ref wB), .val (.int (0 : Int32))] [])) (fun _ k => XS.icmpNo X18.here hx rfl (hb hby at_73) rfl (teq (by decide : (0 : Int32) = (0 : Int32))).2 k) ?_
          refine Go.by (T' := T18) (f' := (mkF m 77 #[.val (.int p1), .val (.int ((p1 &&& (2147483647 : Int32)) % (5 : Int32))), .val (.ref wB), .val (.int (0 : Int32))] [(.int (1 : Int32))])) (fun _ k => XS.iconst X18.here hx rfl (hb hby at_76) k) ?_
          refine Go.by (T' := T18) (f' := (mkF m 81 #[.val (.int p1), .val (.int ((p1 &&& (2147483647 : Int32)) % (5 : Int32))), .val (.ref wB), .val (.int (0 : Int32))] [(.int (1 : Int32))])) (fun _ k => XS.goto X18.here hx rfl (pc0 := 77) (pc' := 81) rfl (hb hby at_77) (by decide) (by decide) k) ?_
          obtain ⟨fs, hr, hrun, hended, hW, hsame⟩ := X18.leave (v := some (.int (1 : Int32))) (fun h => by rw [Bd.returns] at h; cases h)
          refine ⟨_, _, retN X18 hx (t := .boolean) Bd.returns (by simp) (hb hby at_81) hr, hrun, hended, _, _, rfl, ?_, ⟨_, rfl⟩, hW, hsame.mono (by decide) (by decide)⟩
          show Q1 n0 (some (.int (1 : Int32))) T18.heap _
          rw [e18]
          exact ⟨rfl, N⟩

set_option maxRecDepth 65536 in
set_option maxHeartbeats 40000000 in
theorem comes_1 {Post : Tables → Env → Array Value → State → Outcome → State → Prop} (hpost : ∀ tb e args s v u, (limb_1_1.after args s (.returned v) u = true ∧ limb_1_2.after args s (.returned v) u = true ∧ True) → FrameEnd s (.returned v) u (Jvm.fieldLocs frame_1_writes args s ++ Jvm.arrayLocs frame_1_arrays args s ++ Jvm.staticLocs frame_1_statics s) 0 0 → Post tb e args s (.returned v) u) :
    ArmFor flags0 classFile x code maxLocals ret World_1 tables_1 room_1 Calls_1 rest_1 Pre_1 Post := by
  intro l hfl _ _ p e ha hc hk s m args below hf hA hF happ hP
  obtain ⟨hcalls, hrest, hpre⟩ := hP
  obtain ⟨-, -, -, hnamed, -, -, -, hat⟩ := (Spec.applies_iff hf).mp happ
  obtain ⟨hg, hn⟩ := and_e (Cond.before_iff.mp (show (Jvm.Cond.and given_1 narrow_1).before args s = true from hpre))
  obtain ⟨hcount, hg⟩ := and_e hg
  obtain ⟨w0, rfl⟩ : ∃ w0 : Value, args = #[w0] := by
    have hs : args.size = 1 := by simpa [Cond.value, given_1] using hcount
    obtain ⟨L⟩ := args
    match L, hs with
    | [w0], _ => exact ⟨w0, rfl⟩
  have hw := fun d (hd : d ∈ tables_1) => atoms_spec (ws := Jvm.Cond.code x code maxLocals ret :: tables_1) hat d (List.mem_cons_of_mem _ hd)
  have hfit : Fit s := fun {y c} hc i hi => by
    obtain ⟨ha, rfl⟩ := Array.getElem?_eq_some_iff.mp hc
    have q := List.all_eq_true.mp ((Array.all_eq_true_iff_forall_mem.mp hF) _ (Array.getElem_mem ha)) i (List.mem_range.mpr hi)
    simpa [Array.getElem?_eq_getElem hi] using q
  have hg0 := hg
  obtain ⟨i0, ei0⟩ := is_v hg0
  obtain rfl : w0 = (.int i0) := Option.some.inj ei0
  obtain ⟨hn0, hn⟩ := and_e hn
  obtain ⟨hn1, hn⟩ := and_e hn
  obtain ⟨hn2, hn⟩ := and_e hn
  obtain ⟨hn3, hn⟩ := and_e hn
  obtain ⟨hn4, hn⟩ := and_e hn
  obtain ⟨hn5, hn⟩ := and_e hn
  obtain ⟨hn6, hn⟩ := and_e hn
  obtain ⟨hn7, hn⟩ := and_e hn
  obtain ⟨hn8, hn⟩ := and_e hn
  have hn9 := hn
  obtain ⟨wL, e_wL⟩ := exa_v hn0
  obtain ⟨wI, e_wI⟩ := exa_v hn1
  obtain ⟨wD, e_wD⟩ := exa_v hn4
  obtain ⟨wS, e_wS⟩ := exa_v hn6
  obtain ⟨wB, e_wB⟩ := exa_v hn8
  have hS : Sf s wL wI wD wS wB := ⟨Sta.start e_wL (Or.inr ⟨(hw _ (List.mem_of_getElem? (i := 2) rfl)), (hw _ (List.mem_of_getElem? (i := 3) rfl))⟩), Exa.start e_wL hn0, Sta.start e_wI (Or.inr ⟨(hw _ (List.mem_of_getElem? (i := 2) rfl)), (hw _ (List.mem_of_getElem? (i := 10) rfl))⟩), Exa.start e_wI hn1, Sta.start e_wD (Or.inr ⟨(hw _ (List.mem_of_getElem? (i := 2) rfl)), (hw _ (List.mem_of_getElem? (i := 12) rfl))⟩), Exa.start e_wD hn4, Sta.start e_wS (Or.inr ⟨(hw _ (List.mem_of_getElem? (i := 2) rfl)), (hw _ (List.mem_of_getElem? (i := 14) rfl))⟩), Exa.start e_wS hn6, Sta.start e_wB (Or.inr ⟨(hw _ (List.mem_of_getElem? (i := 2) rfl)), (hw _ (List.mem_of_getElem? (i := 17) rfl))⟩), Exa.start e_wB hn8, Fld.ne (ord_fld hn2 e_wL) (ord_fld hn3 e_wI) (by decide), Fld.ne (ord_fld hn2 e_wL) (ord_fld hn5 e_wD) (by decide), Fld.ne (ord_fld hn2 e_wL) (ord_fld hn7 e_wS) (by decide), Fld.ne (ord_fld hn2 e_wL) (ord_fld hn9 e_wB) (by decide), Fld.ne (ord_fld hn3 e_wI) (ord_fld hn5 e_wD) (by decide), Fld.ne (ord_fld hn3 e_wI) (ord_fld hn7 e_wS) (by decide), Fld.ne (ord_fld hn3 e_wI) (ord_fld hn9 e_wB) (by decide), Fld.ne (ord_fld hn5 e_wD) (ord_fld hn7 e_wS) (by decide), Fld.ne (ord_fld hn5 e_wD) (ord_fld hn9 e_wB) (by decide), Fld.ne (ord_fld hn7 e_wS) (ord_fld hn9 e_wB) (by decide), trivial⟩
  obtain ⟨n, o, h1, h2, h3, _, L, rfl, ⟨rfl, N⟩, hq⟩ := rm1 l s _ hw tables_1 i0 wL wI wD wS wB hS s.heap s.heap.size (Old.start s) p e ha hc hk s m _ below hf ((Spec.applies_iff_loose hf).mp happ).1 ⟨rfl, State.Warmed39.refl s, rfl⟩ trivial
  refine ⟨n, _, h1, h2, h3, hpost _ _ _ _ _ _ ⟨Cond.after_iff.mpr rfl, Cond.after_iff.mpr (eq_i res_at (Term.int_eval (1)) rfl), trivial⟩ ⟨hq.1, hq.2.1, (hq.2.2.sift fun y hy => Or.inr (N y hy)).mono (by decide) (by decide)⟩⟩
theorem main_1_1 : Claimed_1_1 := comes_1 fun _ _ _ _ _ _ h hF => ⟨h.1, hF⟩
theorem main_1_2 : Claimed_1_2 := comes_1 fun _ _ _ _ _ _ h hF => ⟨h.2.1, hF⟩
end Jvm.Pilot.@@N@@
namespace Jvm.Pilot.@@N@@
open Jvm Jvm.ClassFile Sem Op Lib Jvm.Free Jvm.Stand Jvm.Pilot.@@N@@.Jvm.D
/-! MADE BY PROGRAM (witnessworld.py) out of the Statement's table words and the real class files: 13 classes; the members and pool entries that the words name. The judged class is class 1, her method 1. -/
namespace start1
open Jvm.ClassFile
def u (s : String) : CpInfo := .utf8 (stringToUtf16 s)
/-- a pool by its gaps: so many unusable entries, then the entry; so many at the end -/
def gap : Nat → List CpInfo → List CpInfo
  | 0, r => r
  | n + 1, r => .unusable :: gap n r
def poolList (es : List (Nat × CpInfo)) (last : Nat) : List CpInfo := es.foldr (fun e r => gap e.1 (e.2 :: r)) (gap last [])
def pool (es : List (Nat × CpInfo)) (last : Nat) : Array CpInfo := ⟨poolList es last⟩
def fileOf (pool : Array CpInfo) (this : Nat) (attrs : Array Attribute := #[]) (ms : Array MethodInfo := #[]) (fl : Nat := 33) (sup : Nat := 0) (ifs : Array Nat := #[]) (fds : Array FieldInfo := #[]) : ClassFile where
  minorVersion := 0
  majorVersion := 65
  constantPool := pool
  accessFlags := fl
  thisClass := this
  superClass := sup
  interfaces := ifs
  fields := fds
  methods := ms
  attributes := attrs
def plain (name : String) (sup : Option ClassId) : Class where
  name := name
  kind := .ordinary
  loader := none
  accessFlags := 33
  super := sup
  interfaces := #[]
  cf := none
  fields := #[]
  methods := #[]
  instanceTypes := #[]
  staticTypes := #[]
  resolved := #[]
  callSites := []
  init := .initialized
  statics := none
  mirror := none

def pool0 : Array CpInfo := pool [(5, u "<init>"), (0, u "()V"), (1, .class_ 10), (1, u "java/lang/Object")] 113

def k0m0 : Method := { name := "<init>", desc := "()V", sig := { parameters := [], returnType := none }, accessFlags := 1, code := none }
/-- java/lang/Object -/
def k0 : Class := { plain "java/lang/Object" none with
  accessFlags := 33
  interfaces := #[]
  cf := some (fileOf pool0 8 #[] #[{ accessFlags := 1, nameIndex := 5, descriptorIndex := 6, attributes := #[] }] 33 0 #[] #[])
  fields := #[]
  methods := #[k0m0]
  instanceTypes := #[]
  staticTypes := #[]
  resolved := Array.replicate 124 none
  statics := none }

def pool1 : Array CpInfo := pool [(2, .class_ 4), (1, u "java/lang/Object"), (0, u "<init>"), (0, u "()V"), (0, .integer 2147483647), (0, .fieldref 9 10), (0, .class_ 11), (0, .nameAndType 12 13), (0, u "com/example/nuthatch/nuthatch/core/DataRange$Datatype"), (0, u "LITERAL"), (0, u "Lcom/example/nuthatch/nuthatch/core/DataRange$Datatype;"), (0, .fieldref 9 15), (0, .nameAndType 16 13), (0, u "INTEGER"), (0, .fieldref 9 18), (0, .nameAndType 19 13), (0, u "DECIMAL"), (0, .fieldref 9 21), (0, .nameAndType 22 13), (0, u "STRING"), (0, .fieldref 9 24), (0, .nameAndType 25 13), (0, u "BOOLEAN"), (0, .methodref 9 27), (0, .nameAndType 28 29), (0, u "isNumeric"), (0, u "()Z"), (0, .class_ 31), (0, u "com/example/nuthatch/nuthatch/core/DatatypeIsNumericPinLaw"), (2, u "law"), (0, u "(I)Z")] 7

def k1m0 : Method := { name := "<init>", desc := "()V", sig := { parameters := [], returnType := none }, accessFlags := 2, code := none }
def k1c1 : Code := { maxStack := 2, maxLocals := 4, code := code, exceptionTable := #[], attributes := #[] }
def k1m1 : Method := { name := "law", desc := "(I)Z", sig := { parameters := [.int], returnType := some .boolean }, accessFlags := 9, code := some k1c1 }
/-- com/example/nuthatch/nuthatch/core/DatatypeIsNumericPinLaw -/
def k1 : Class := { plain "com/example/nuthatch/nuthatch/core/DatatypeIsNumericPinLaw" (some 0) with
  accessFlags := 49
  interfaces := #[]
  cf := some (fileOf pool1 30 #[] #[{ accessFlags := 2, nameIndex := 5, descriptorIndex := 6, attributes := #[] }, { accessFlags := 9, nameIndex := 34, descriptorIndex := 35, attributes := #[] }] 49 2 #[] #[])
  fields := #[]
  methods := #[k1m0, k1m1]
  instanceTypes := #[]
  staticTypes := #[]
  resolved := Array.replicate 43 none
  statics := none }

def pool2 : Array CpInfo := pool [(1, .class_ 2), (0, u "java/lang/constant/Constable"), (0, .class_ 4), (0, u "java/lang/Object")] 6

/-- java/lang/constant/Constable -/
def k2 : Class := { plain "java/lang/constant/Constable" (some 0) with
  accessFlags := 1537
  interfaces := #[]
  cf := some (fileOf pool2 1 #[] #[] 1537 3 #[] #[])
  fields := #[]
  methods := #[]
  instanceTypes := #[]
  staticTypes := #[]
  resolved := Array.replicate 11 none
  statics := none }

def pool3 : Array CpInfo := pool [(1, .class_ 2), (0, u "java/lang/Comparable"), (0, .class_ 4), (0, u "java/lang/Object")] 7

/-- java/lang/Comparable -/
def k3 : Class := { plain "java/lang/Comparable" (some 0) with
  accessFlags := 1537
  interfaces := #[]
  cf := some (fileOf pool3 1 #[] #[] 1537 3 #[] #[])
  fields := #[]
  methods := #[]
  instanceTypes := #[]
  staticTypes := #[]
  resolved := Array.replicate 12 none
  statics := none }

def pool4 : Array CpInfo := pool [(1, .class_ 2), (0, u "java/io/Serializable"), (0, .class_ 4), (0, u "java/lang/Object")] 2

/-- java/io/Serializable -/
def k4 : Class := { plain "java/io/Serializable" (some 0) with
  accessFlags := 1537
  interfaces := #[]
  cf := some (fileOf pool4 1 #[] #[] 1537 3 #[] #[])
  fields := #[]
  methods := #[]
  instanceTypes := #[]
  staticTypes := #[]
  resolved := Array.replicate 7 none
  statics := none }

def pool5 : Array CpInfo := pool [(2, .class_ 4), (1, u "java/lang/Enum"), (0, u "name"), (0, u "Ljava/lang/String;"), (2, u "ordinal"), (0, u "I"), (1, .class_ 14), (1, u "java/lang/Object"), (4, u "hash"), (86, .class_ 108), (1, u "java/lang/Enum$EnumDesc"), (2, .class_ 112), (0, u "java/lang/constant/Constable"), (0, .class_ 114), (0, u "java/lang/Comparable"), (0, .class_ 116), (0, u "java/io/Serializable")] 87

/-- java/lang/Enum -/
def k5 : Class := { plain "java/lang/Enum" (some 0) with
  accessFlags := 1057
  interfaces := #[2, 3, 4]
  cf := some (fileOf pool5 2 #[.nestMembers #[106]] #[] 1057 12 #[111, 113, 115] #[{ accessFlags := 18, nameIndex := 5, descriptorIndex := 6, attributes := #[] }, { accessFlags := 18, nameIndex := 9, descriptorIndex := 10, attributes := #[] }, { accessFlags := 2, nameIndex := 19, descriptorIndex := 10, attributes := #[] }])
  fields := #[{ name := "name", type := (.object "java/lang/String"), accessFlags := 18, slot := 0, constantValue := 0 }, { name := "ordinal", type := .int, accessFlags := 18, slot := 1, constantValue := 0 }, { name := "hash", type := .int, accessFlags := 2, slot := 2, constantValue := 0 }]
  methods := #[]
  instanceTypes := #[(.object "java/lang/String"), .int, .int]
  staticTypes := #[]
  resolved := Array.replicate 204 none
  statics := none }

def pool6 : Array CpInfo := pool [(1, .class_ 2), (0, u "com/example/nuthatch/nuthatch/core/DataRange$DataComplementOf"), (4, .class_ 8), (0, u "com/example/nuthatch/nuthatch/core/DataRange"), (0, .class_ 10), (0, u "java/lang/Object"), (8, .class_ 20), (0, u "com/example/nuthatch/nuthatch/core/DataRange$DataOneOf"), (0, .class_ 22), (0, u "com/example/nuthatch/nuthatch/core/DataRange$DatatypeRestriction"), (0, .class_ 24), (0, u "com/example/nuthatch/nuthatch/core/DataRange$FacetRestriction"), (0, .class_ 26), (0, u "com/example/nuthatch/nuthatch/core/DataRange$Facet"), (0, .class_ 28), (0, u "com/example/nuthatch/nuthatch/core/DataRange$Datatype")] 8

/-- com/example/nuthatch/nuthatch/core/DataRange -/
def k6 : Class := { plain "com/example/nuthatch/nuthatch/core/DataRange" (some 0) with
  accessFlags := 1537
  interfaces := #[]
  cf := some (fileOf pool6 7 #[.nestMembers #[1, 19, 21, 23, 25, 27]] #[] 1537 9 #[] #[])
  fields := #[]
  methods := #[]
  instanceTypes := #[]
  staticTypes := #[]
  resolved := Array.replicate 37 none
  statics := none }

def pool7 : Array CpInfo := pool [(1, .class_ 2), (0, u "com/example/nuthatch/nuthatch/core/DataRange$Datatype"), (2, u "LITERAL"), (0, u "Lcom/example/nuthatch/nuthatch/core/DataRange$Datatype;"), (0, .fieldref 1 8), (0, .nameAndType 9 6), (0, u "INTEGER"), (0, .fieldref 1 11), (0, .nameAndType 12 6), (0, u "DECIMAL"), (2, u "STRING"), (2, u "BOOLEAN"), (2, u "$VALUES"), (0, u "[Lcom/example/nuthatch/nuthatch/core/DataRange$Datatype;"), (6, .class_ 31), (1, u "java/lang/Enum"), (8, u "iri"), (0, u "Ljava/lang/String;"), (51, .class_ 94), (0, u "com/example/nuthatch/nuthatch/core/DataRange"), (10, u "isNumeric"), (0, u "()Z")] 30

def k7c0 : Code := { maxStack := 2, maxLocals := 1, code := prog_78_method_6_code, exceptionTable := #[], attributes := #[] }
def k7m0 : Method := { name := "isNumeric", desc := "()Z", sig := { parameters := [], returnType := some .boolean }, accessFlags := 1, code := some k7c0 }
/-- com/example/nuthatch/nuthatch/core/DataRange$Datatype -/
def k7 : Class := { plain "com/example/nuthatch/nuthatch/core/DataRange$Datatype" (some 5) with
  accessFlags := 16433
  interfaces := #[6]
  cf := some (fileOf pool7 1 #[.nestHost 93] #[{ accessFlags := 1, nameIndex := 105, descriptorIndex := 106, attributes := #[] }] 16433 29 #[93] #[{ accessFlags := 16409, nameIndex := 5, descriptorIndex := 6, attributes := #[] }, { accessFlags := 16409, nameIndex := 9, descriptorIndex := 6, attributes := #[] }, { accessFlags := 16409, nameIndex := 12, descriptorIndex := 6, attributes := #[] }, { accessFlags := 16409, nameIndex := 15, descriptorIndex := 6, attributes := #[] }, { accessFlags := 16409, nameIndex := 18, descriptorIndex := 6, attributes := #[] }, { accessFlags := 18, nameIndex := 40, descriptorIndex := 41, attributes := #[] }, { accessFlags := 4122, nameIndex := 21, descriptorIndex := 22, attributes := #[] }])
  fields := #[{ name := "LITERAL", type := (.object "com/example/nuthatch/nuthatch/core/DataRange$Datatype"), accessFlags := 16409, slot := 0, constantValue := 0 }, { name := "INTEGER", type := (.object "com/example/nuthatch/nuthatch/core/DataRange$Datatype"), accessFlags := 16409, slot := 1, constantValue := 0 }, { name := "DECIMAL", type := (.object "com/example/nuthatch/nuthatch/core/DataRange$Datatype"), accessFlags := 16409, slot := 2, constantValue := 0 }, { name := "STRING", type := (.object "com/example/nuthatch/nuthatch/core/DataRange$Datatype"), accessFlags := 16409, slot := 3, constantValue := 0 }, { name := "BOOLEAN", type := (.object "com/example/nuthatch/nuthatch/core/DataRange$Datatype"), accessFlags := 16409, slot := 4, constantValue := 0 }, { name := "iri", type := (.object "java/lang/String"), accessFlags := 18, slot := 3, constantValue := 0 }, { name := "$VALUES", type := (.array (.object "com/example/nuthatch/nuthatch/core/DataRange$Datatype")), accessFlags := 4122, slot := 5, constantValue := 0 }]
  methods := #[k7m0]
  instanceTypes := #[(.object "java/lang/String"), .int, .int, (.object "java/lang/String")]
  staticTypes := #[(.object "com/example/nuthatch/nuthatch/core/DataRange$Datatype"), (.object "com/example/nuthatch/nuthatch/core/DataRange$Datatype"), (.object "com/example/nuthatch/nuthatch/core/DataRange$Datatype"), (.object "com/example/nuthatch/nuthatch/core/DataRange$Datatype"), (.object "com/example/nuthatch/nuthatch/core/DataRange$Datatype"), (.array (.object "com/example/nuthatch/nuthatch/core/DataRange$Datatype"))]
  resolved := Array.replicate 137 none
  statics := some 0 }

def pool8 : Array CpInfo := pool [(1, u "java/lang/Cloneable"), (0, .class_ 1), (0, u "java/lang/Object"), (0, .class_ 3)] 3

/-- java/lang/Cloneable -/
def k8 : Class := { plain "java/lang/Cloneable" (some 0) with
  accessFlags := 1537
  interfaces := #[]
  cf := some (fileOf pool8 2 #[] #[] 1537 4 #[] #[])
  fields := #[]
  methods := #[]
  instanceTypes := #[]
  staticTypes := #[]
  resolved := Array.replicate 8 none
  statics := none }

/-- the primitive byte -/
def k9 : Class := { plain "byte" none with kind := .primitive 'B', accessFlags := 0x411 }
/-- [B -/
def k10 : Class := { plain "[B" (some 0) with kind := .array 9 .byte, interfaces := #[8, 4], accessFlags := 1041 }

/-- the primitive int -/
def k11 : Class := { plain "int" none with kind := .primitive 'I', accessFlags := 0x411 }
/-- [I -/
def k12 : Class := { plain "[I" (some 0) with kind := .array 11 .int, interfaces := #[8, 4], accessFlags := 1041 }

def heap : Heap := #[{ cls := 7, slots := #[.ref 1, .ref 2, .ref 3, .ref 4, .ref 5, .null], vm := .statics 7 },
  { cls := 7, slots := #[.null, .int 0, .int 0, .null], vm := .none },
  { cls := 7, slots := #[.null, .int 1, .int 0, .null], vm := .none },
  { cls := 7, slots := #[.null, .int 2, .int 0, .null], vm := .none },
  { cls := 7, slots := #[.null, .int 3, .int 0, .null], vm := .none },
  { cls := 7, slots := #[.null, .int 4, .int 0, .null], vm := .none }]
def classes : Array Class := #[k0, k1, k2, k3, k4, k5, k6, k7, k8, k9, k10, k11, k12]
def interned : List (Array UInt16 × Addr) := []
def slotsUsed : Nat := 26
def theMethod : MethodId := ⟨1, 1⟩
def args0 : Array Value := #[.int 5]
def aboutOver (below : List Frame) : State where
  vm := { classes := classes, interned := interned.toArray }
  heap := heap
  slotsUsed := slotsUsed
  threads := #[{ frames := .invoking theMethod args0 :: below }]
def below0 : List Frame := [.native { method := ⟨0, 0⟩, args := #[] }]
def about1 : State := aboutOver below0
def p0 : Program := .bare "" "" ""
def e0 : Env := launch0.env 0 0 0
theorem w_frames : about1.frames = Frame.invoking theMethod args0 :: below0 := rfl
set_option maxRecDepth 65536 in
theorem w_args : argsFit about1.vm theMethod args0 = true := by decide +kernel
set_option maxRecDepth 65536 in
theorem w_heap : heapFits about1 = true := by decide +kernel
set_option maxRecDepth 65536 in
theorem w_runnable : about1.curStatus? = some .runnable := by decide +kernel
set_option maxRecDepth 65536 in
theorem w_alone : about1.alone = true := by decide +kernel
set_option maxRecDepth 65536 in
theorem w_named : about1.methodNamed? x = some theMethod := by decide +kernel
set_option maxRecDepth 65536 in
theorem w_hears : about1.hears theMethod below0 = true := by decide +kernel
set_option maxRecDepth 65536 in
theorem w_ripe : about1.ripe theMethod args0 below0 = true := by decide +kernel
theorem w_running : about1.status = .running := rfl
set_option maxRecDepth 65536 in
theorem w_room : about1.hasRoom e0.platform room_1 = true :=
  launch0.hasRoom_least _ room_1 (by decide +kernel) (by decide +kernel) (by decide +kernel) (by decide +kernel) (by decide +kernel) (by decide +kernel)
theorem allAtoms_all (ts : List Jvm.Cond) (a : Array Jvm.Value) (st : Jvm.State) : (allAtoms ts).before a st = ts.all (fun c => c.before a st) := by
  induction ts with
  | nil => rfl
  | cons c t ih =>
    show (Jvm.Cond.and c (allAtoms t)).before a st = _
    rw [Jvm.Cond.before_and, ih, List.all_cons]
def words1 : List Jvm.Cond := Jvm.Cond.code x code maxLocals ret :: tables_1
/-- a 'code' word, met by the world's own term for the bytes: nothing is compared byte by byte -/
theorem code_word {y : MethodName} {bytes : ByteArray} {mx : Nat} {rt : Option FieldType} {a : Array Value} {s : State} {m : MethodId} {meth : Method} {c : Code} (h1 : s.methodNamed? y = some m) (h2 : s.vm.method? m = some meth) (h3 : meth.code = some c) (h4 : c.code = bytes)
    (h5 : (c.maxLocals == mx && c.exceptionTable.isEmpty && decide (c.maxStack ≤ mostOperands) && decide (meth.sig.returnType = rt) && !meth.locks && decide (parseMethodDescriptor y.desc = some meth.sig)) = true) : (Jvm.Cond.code y bytes mx rt).before a s = true := by
  simp only [Bool.and_eq_true, beq_iff_eq, Bool.not_eq_true', decide_eq_true_eq] at h5
  obtain ⟨⟨⟨⟨⟨g1, g2⟩, g3⟩, g4⟩, g5⟩, g6⟩ := h5
  simp [Cond.before, Cond.holds, Cond.value, h1, h2, h3, h4, g1, g2, g3, g4, g5, g6]
def isCode : Jvm.Cond → Bool
  | .code _ _ _ _ => true
  | _ => false
theorem all_split {L : List Jvm.Cond} {P : Jvm.Cond → Bool} (h1 : L.all (fun c => isCode c || P c) = true) (h2 : ∀ c ∈ L.filter isCode, P c = true) : L.all P = true := by
  refine List.all_eq_true.mpr fun c hc => ?_
  have h := List.all_eq_true.mp h1 c hc
  rcases Bool.eq_false_or_eq_true (isCode c) with hi | hi
  · exact h2 c (List.mem_filter.mpr ⟨hc, hi⟩)
  · simpa [hi] using h
set_option maxRecDepth 65536 in
theorem w_c0 : (Jvm.Cond.code x code maxLocals ret).before args0 about1 = true := code_word (m := ⟨1, 1⟩) (meth := k1m1) (c := k1c1) (by decide +kernel) rfl rfl rfl (by decide +kernel)
set_option maxRecDepth 65536 in
theorem w_c1 : (Jvm.Cond.code ({ cls := "com/example/nuthatch/nuthatch/core/DataRange$Datatype", name := "isNumeric", desc := "()Z" } : Jvm.MethodName) prog_78_method_6_code (1 : Nat) (Option.some Jvm.ClassFile.FieldType.boolean)).before args0 about1 = true := code_word (m := ⟨7, 0⟩) (meth := k7m0) (c := k7c0) (by decide +kernel) rfl rfl rfl (by decide +kernel)
def codes1 : List Jvm.Cond := [Jvm.Cond.code x code maxLocals ret, Jvm.Cond.code ({ cls := "com/example/nuthatch/nuthatch/core/DataRange$Datatype", name := "isNumeric", desc := "()Z" } : Jvm.MethodName) prog_78_method_6_code (1 : Nat) (Option.some Jvm.ClassFile.FieldType.boolean)]
set_option maxRecDepth 65536 in
theorem codes_eq : words1.filter isCode = codes1 := rfl
theorem w_codes : ∀ c ∈ words1.filter isCode, c.before args0 about1 = true := by
  rw [codes_eq]
  intro c hc
  simp only [codes1, List.mem_cons, List.not_mem_nil, or_false] at hc
  rcases hc with rfl | rfl
  · exact w_c0
  · exact w_c1
set_option maxRecDepth 65536 in
theorem w_t1 : words1.all (fun c => isCode c || c.before args0 about1) = true := by decide +kernel
theorem w_tables : (allAtoms (Jvm.Cond.code x code maxLocals ret :: tables_1)).before args0 about1 = true := by
  rw [allAtoms_all]
  show words1.all (fun c => c.before args0 about1) = true
  refine all_split ?_ w_codes
  rw [w_t1]
set_option maxRecDepth 65536 in
theorem w_case : (Jvm.Cond.and given_1 narrow_1).before args0 about1 = true := by decide +kernel
theorem w_applies : (headSpec (Jvm.Cond.code x code maxLocals ret :: tables_1) room_1).applies x e0.platform about1 = true :=
  (Spec.applies_iff w_frames).mpr ⟨w_running, w_runnable, w_alone, w_named, w_hears, w_ripe, w_room, w_tables⟩
theorem atStart : AtStart classFile x code maxLocals ret World_1 tables_1 room_1 Calls_1 rest_1 Pre_1 launch0 p0 e0 about1 theMethod args0 below0 :=
  ⟨lists_1, trivial, launch0.admits_env _ _ _, launch0.least_env, fairChoices_fair.cas, fairChoices_fair.clock, w_frames, w_args, w_heap, w_applies, trivial, trivial, w_case⟩
end start1
theorem witness_1 : WitnessClaimed_1 := ⟨start1.p0, start1.e0, start1.about1, start1.theMethod, start1.args0, start1.below0, start1.atStart⟩
end Jvm.Pilot.@@N@@
