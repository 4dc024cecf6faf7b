import JvmDerived
import JvmDerived.Pilot.@@N@@Statement
import JvmDerived.Pilot.@@N@@Code
set_option linter.unusedVariables false
set_option linter.unusedSimpArgs false

namespace Jvm.Pilot.@@N@@
open Jvm Jvm.ClassFile Sem Op Lib Jvm.Free Jvm.Stand Jvm.LawKit Jvm.RoadKit Bundle Jvm.Pilot.@@N@@.Jvm.D
/-- from this state and frame the body comes to its end, with what G says -/
def Go (p : Program) (e : Env) (below : List Frame) (G : Outcome → State → Prop) (T : State) (f : JFrame) : Prop :=
  ∃ s₂ o, Steps p.tables e below (T.setTop f) s₂ ∧ s₂.status = .running ∧ Ended s₂ below o ∧ G o s₂
theorem Go.by {p : Program} {e : Env} {below : List Frame} {G : Outcome → State → Prop} {T T' : State} {f f' : JFrame} (k : ∀ t, Steps p.tables e below (T'.setTop f') t → Steps p.tables e below (T.setTop f) t) (g : Go p e below G T' f') : Go p e below G T f := by
  obtain ⟨s₂, o, h1, h2⟩ := g; exact ⟨s₂, o, k _ h1, h2⟩
theorem Old.le {Z : State} {n0 : Nat} {h : Heap} (O : Old Z n0 h) : n0 ≤ h.size := O.1 ▸ O.2.1

theorem ord_fld {args : Array Value} {s : State} {t : Term} {C n d : String} {k : Int32} {a : Addr} (h : (Cond.eq (Term.field t C n d) (Term.int k)).value args s none s [] = some true) (ht : t.eval args s none [] s = some (.ref a)) : Fld s s.heap a C n d (.int k) := by
  obtain ⟨x, y, hx, hy, -, kin⟩ := cmp_v (Or.inl h)
  obtain rfl : y = .int k := (Option.some.inj ((Term.int_eval k).symm.trans hy)).symm
  obtain ⟨z, rfl⟩ := kin
  have e : z = k := by simpa [Cond.value, hx, hy] using h
  subst e
  exact Fld.start (by rw [← fld_at ht]; exact hx)

def Sf (Z : State) (wA wB : Addr) : Prop := Sta Z Z.heap "com/example/swapdeck/swapdeck/collateral/Party" "A" "Lcom/example/swapdeck/swapdeck/collateral/Party;" (.ref wA) ∧ Sta Z Z.heap "com/example/swapdeck/swapdeck/collateral/Party" "B" "Lcom/example/swapdeck/swapdeck/collateral/Party;" (.ref wB) ∧ Exa Z Z.heap wA "com/example/swapdeck/swapdeck/collateral/Party" ∧ Exa Z Z.heap wB "com/example/swapdeck/swapdeck/collateral/Party" ∧ wA ≠ wB
def Qo (b : Addr) (h0 : Heap) (n0 : Nat) (v : Option Value) (h : Heap) (L : List Loc) : Prop := v = some (.ref b) ∧ Fr n0 L ∧ h = h0
theorem d_owA_0 : decode prog_30_method_4_code 0 = .ok (.aload_n 0, 1) := by decide +kernel
theorem d_owA_1 : decode prog_30_method_4_code 1 = .ok (.getstatic 3, 3) := by decide +kernel
theorem d_owA_4 : decode prog_30_method_4_code 4 = .ok (.if_acmp .ne 9, 3) := by decide +kernel
theorem d_owA_7 : decode prog_30_method_4_code 7 = .ok (.getstatic 7, 3) := by decide +kernel
theorem d_owA_10 : decode prog_30_method_4_code 10 = .ok (.goto 6, 3) := by decide +kernel
theorem d_owA_16 : decode prog_30_method_4_code 16 = .ok (.areturn, 1) := by decide +kernel
theorem pn_owA : plainFor (⟨"com/example/swapdeck/swapdeck/collateral/Party", "other", "()Lcom/example/swapdeck/swapdeck/collateral/Party;"⟩ : MethodName) = true := plainFor_of_name (by first | (simp [plainName, overriddenIn]; done) | decide +kernel)
theorem ef_owA (m : MethodId) (x0 : Addr) : entryFrame m #[(.ref x0)] 1 = mkF m 0 #[.val (.ref x0)] [] := by first | (simp [entryFrame, mkF, argsToLocals, Value.category]; done) | rfl
set_option maxRecDepth 65536 in
set_option maxHeartbeats 40000000 in
theorem rm_owA (l : Launch) (Z : State) (a0 : Array Value) (hw : ∀ d ∈ tables_1, d.before a0 Z = true) (ws : List Jvm.Cond) (wA wB : Addr) (hS : Sf Z wA wB) (h0 : Heap) (n0 : Nat) (O : Old Z n0 h0)  :
    MetFree l (⟨"com/example/swapdeck/swapdeck/collateral/Party", "other", "()Lcom/example/swapdeck/swapdeck/collateral/Party;"⟩ : MethodName) (head1 (Jvm.Cond.code (⟨"com/example/swapdeck/swapdeck/collateral/Party", "other", "()Lcom/example/swapdeck/swapdeck/collateral/Party;"⟩ : MethodName) prog_30_method_4_code 1 (some (.object "com/example/swapdeck/swapdeck/collateral/Party")) :: ws) ({ frames := 0, cells := 0, slots := 0, locals := 0 } : Room)) (fun a U => a = #[(.ref wA)] ∧ Z.Warmed39 U.vm ∧ U.heap = h0) (fun _ _ _ _ _ => True) (fun _ U o U' => ∃ v L, o = .returned v ∧ Qo wB h0 n0 v U'.heap L ∧ FrameEnd U o U' L ({ frames := 0, cells := 0, slots := 0, locals := 0 } : Room).cells ({ frames := 0, cells := 0, slots := 0, locals := 0 } : Room).slots) := by
  refine MetFree.of_bodySF pn_owA hisR ?_
  intro p e s m args below meth c s₁ Bd hml0 hP hK
  obtain ⟨rfl, hZ, hh⟩ := hP
  have hx := Bd.exec
  have hby := Bd.bytes
  have hml : c.maxLocals = 1 := hml0
  have hown : s.vm.findClass "com/example/swapdeck/swapdeck/collateral/Party" = some m.cls := findClass_of_methodNamed Bd.named
  have hnm := (name_of_methodNamed Bd.named Bd.method).1
  have X0 : Stand p l e ({ frames := 0, cells := 0, slots := 0, locals := 0 } : Room) s m #[(.ref wA)] below meth c s₁ [] 0 0 := Stand.of_body Bd
  have e0 : s₁.heap = h0 := by rw [← hh, Bd.state]; rfl
  have N := Fr.nil n0
  have K : Keep h0 h0 [] := Keep.refl _ _
  refine Go.by (T' := s₁) (f' := (mkF m 0 #[.val (.ref wA)] [])) (fun _ k => castTop (ef_owA m wA) k) ?_
  refine Go.by (T' := s₁) (f' := (mkF m 1 #[.val (.ref wA)] [(.ref wA)])) (fun _ k => XS.aloadN X0.here hx rfl (hb hby d_owA_0) rfl rfl k) ?_
  obtain ⟨T1, X1, e1, st1⟩ := getS2 X0 hx hZ hown (host := "") (Or.inl (hw _ (List.mem_of_getElem? (i := 10) rfl))) Via.refl e0 (Sta.ext O.2 hS.1) (g := (mkF m 1 #[.val (.ref wA)] [(.ref wA)])) rfl (hb hby d_owA_1)
  refine Go.by (T' := T1) (f' := (mkF m 4 #[.val (.ref wA)] [(.ref wA), (.ref wA)])) (st1) ?_
  refine Go.by (T' := T1) (f' := (mkF m 7 #[.val (.ref wA)] [])) (fun _ k => Jvm.RoadKit.acmp (g := (mkF m 4 #[.val (.ref wA)] [(.ref wA), (.ref wA)])) X1 hx rfl rfl rfl (pc0 := 4) (pc' := 7) (same := true) rfl (hb hby d_owA_4) rfl (decide_eq_true rfl) (by decide) (by decide) k) ?_
  obtain ⟨T2, X2, e2, st2⟩ := getS2 X1 hx hZ hown (host := "") (Or.inl (hw _ (List.mem_of_getElem? (i := 11) rfl))) Via.refl e1 (Sta.ext O.2 hS.2.1) (g := (mkF m 7 #[.val (.ref wA)] [])) rfl (hb hby d_owA_7)
  refine Go.by (T' := T2) (f' := (mkF m 10 #[.val (.ref wA)] [(.ref wB)])) (st2) ?_
  refine Go.by (T' := T2) (f' := (mkF m 16 #[.val (.ref wA)] [(.ref wB)])) (fun _ k => XS.goto X2.here hx rfl (pc0 := 10) (pc' := 16) rfl (hb hby d_owA_10) (by decide) (by decide) k) ?_
  obtain ⟨fs, hr, hrun, hended, hW, hsame⟩ := X2.leave (v := some (.ref wB)) (fun h => by rw [Bd.returns] at h; cases h)
  refine ⟨_, _, retOut X2 hx Bd.returns rfl (Or.inr (Or.inr (Or.inr (Or.inr ⟨rfl, rfl, rfl⟩)))) (hb hby d_owA_16) hr, hrun, hended, _, _, rfl, ?_, ⟨_, rfl⟩, hW, hsame.mono (by decide) (by decide)⟩
  show Qo wB h0 n0 (some (.ref wB)) T2.heap _
  rw [e2]
  exact ⟨rfl, N, rfl⟩

theorem d_owB_0 : decode prog_30_method_4_code 0 = .ok (.aload_n 0, 1) := by decide +kernel
theorem d_owB_1 : decode prog_30_method_4_code 1 = .ok (.getstatic 3, 3) := by decide +kernel
theorem d_owB_4 : decode prog_30_method_4_code 4 = .ok (.if_acmp .ne 9, 3) := by decide +kernel
theorem d_owB_13 : decode prog_30_method_4_code 13 = .ok (.getstatic 3, 3) := by decide +kernel
theorem d_owB_16 : decode prog_30_method_4_code 16 = .ok (.areturn, 1) := by decide +kernel
theorem pn_owB : plainFor (⟨"com/example/swapdeck/swapdeck/collateral/Party", "other", "()Lcom/example/swapdeck/swapdeck/collateral/Party;"⟩ : MethodName) = true := plainFor_of_name (by first | (simp [plainName, overriddenIn]; done) | decide +kernel)
theorem ef_owB (m : MethodId) (x0 : Addr) : entryFrame m #[(.ref x0)] 1 = mkF m 0 #[.val (.ref x0)] [] := by first | (simp [entryFrame, mkF, argsToLocals, Value.category]; done) | rfl
set_option maxRecDepth 65536 in
set_option maxHeartbeats 40000000 in
theorem rm_owB (l : Launch) (Z : State) (a0 : Array Value) (hw : ∀ d ∈ tables_1, d.before a0 Z = true) (ws : List Jvm.Cond) (wA wB : Addr) (hS : Sf Z wA wB) (h0 : Heap) (n0 : Nat) (O : Old Z n0 h0)  :
    MetFree l (⟨"com/example/swapdeck/swapdeck/collateral/Party", "other", "()Lcom/example/swapdeck/swapdeck/collateral/Party;"⟩ : MethodName) (head1 (Jvm.Cond.code (⟨"com/example/swapdeck/swapdeck/collateral/Party", "other", "()Lcom/example/swapdeck/swapdeck/collateral/Party;"⟩ : MethodName) prog_30_method_4_code 1 (some (.object "com/example/swapdeck/swapdeck/collateral/Party")) :: ws) ({ frames := 0, cells := 0, slots := 0, locals := 0 } : Room)) (fun a U => a = #[(.ref wB)] ∧ Z.Warmed39 U.vm ∧ U.heap = h0) (fun _ _ _ _ _ => True) (fun _ U o U' => ∃ v L, o = .returned v ∧ Qo wA h0 n0 v U'.heap L ∧ FrameEnd U o U' L ({ frames := 0, cells := 0, slots := 0, locals := 0 } : Room).cells ({ frames := 0, cells := 0, slots := 0, locals := 0 } : Room).slots) := by
  refine MetFree.of_bodySF pn_owB hisR ?_
  intro p e s m args below meth c s₁ Bd hml0 hP hK
  obtain ⟨rfl, hZ, hh⟩ := hP
  have hx := Bd.exec
  have hby := Bd.bytes
  have hml : c.maxLocals = 1 := hml0
  have hown : s.vm.findClass "com/example/swapdeck/swapdeck/collateral/Party" = some m.cls := findClass_of_methodNamed Bd.named
  have hnm := (name_of_methodNamed Bd.named Bd.method).1
  have X0 : Stand p l e ({ frames := 0, cells := 0, slots := 0, locals := 0 } : Room) s m #[(.ref wB)] below meth c s₁ [] 0 0 := Stand.of_body Bd
  have e0 : s₁.heap = h0 := by rw [← hh, Bd.state]; rfl
  have N := Fr.nil n0
  have K : Keep h0 h0 [] := Keep.refl _ _
  refine Go.by (T' := s₁) (f' := (mkF m 0 #[.val (.ref wB)] [])) (fun _ k => castTop (ef_owB m wB) k) ?_
  refine Go.by (T' := s₁) (f' := (mkF m 1 #[.val (.ref wB)] [(.ref wB)])) (fun _ k => XS.aloadN X0.here hx rfl (hb hby d_owB_0) rfl rfl k) ?_
  obtain ⟨T1, X1, e1, st1⟩ := getS2 X0 hx hZ hown (host := "") (Or.inl (hw _ (List.mem_of_getElem? (i := 10) rfl))) Via.refl e0 (Sta.ext O.2 hS.1) (g := (mkF m 1 #[.val (.ref wB)] [(.ref wB)])) rfl (hb hby d_owB_1)
  refine Go.by (T' := T1) (f' := (mkF m 4 #[.val (.ref wB)] [(.ref wA), (.ref wB)])) (st1) ?_
  refine Go.by (T' := T1) (f' := (mkF m 13 #[.val (.ref wB)] [])) (fun _ k => Jvm.RoadKit.acmp (g := (mkF m 4 #[.val (.ref wB)] [(.ref wA), (.ref wB)])) X1 hx rfl rfl rfl (pc0 := 4) (pc' := 13) (same := false) rfl (hb hby d_owB_4) rfl (decide_eq_false fun q => (Ne.symm hS.2.2.2.2) (Value.ref.inj q)) (by decide) (by decide) k) ?_
  obtain ⟨T2, X2, e2, st2⟩ := getS2 X1 hx hZ hown (host := "") (Or.inl (hw _ (List.mem_of_getElem? (i := 10) rfl))) Via.refl e1 (Sta.ext O.2 hS.1) (g := (mkF m 13 #[.val (.ref wB)] [])) rfl (hb hby d_owB_13)
  refine Go.by (T' := T2) (f' := (mkF m 16 #[.val (.ref wB)] [(.ref wA)])) (st2) ?_
  obtain ⟨fs, hr, hrun, hended, hW, hsame⟩ := X2.leave (v := some (.ref wA)) (fun h => by rw [Bd.returns] at h; cases h)
  refine ⟨_, _, retOut X2 hx Bd.returns rfl (Or.inr (Or.inr (Or.inr (Or.inr ⟨rfl, rfl, rfl⟩)))) (hb hby d_owB_16) hr, hrun, hended, _, _, rfl, ?_, ⟨_, rfl⟩, hW, hsame.mono (by decide) (by decide)⟩
  show Qo wA h0 n0 (some (.ref wA)) T2.heap _
  rw [e2]
  exact ⟨rfl, N, rfl⟩

def Q1 (n0 : Nat) (v : Option Value) (h : Heap) (L : List Loc) : Prop := v = some (.int 1) ∧ Fr n0 L
theorem pn_rm1 : plainFor (⟨"com/example/swapdeck/swapdeck/collateral/PartyOtherPinLaw", "law", "(I)Z"⟩ : MethodName) = true := plainFor_of_name (by first | (simp [plainName, overriddenIn]; done) | decide +kernel)
theorem pd_rm1_0 : parseMethodDescriptor "()Lcom/example/swapdeck/swapdeck/collateral/Party;" = some ⟨[], some (.object "com/example/swapdeck/swapdeck/collateral/Party")⟩ := by decide +kernel
theorem ef_rm1 (m : MethodId) (x0 : Int32) : entryFrame m #[(.int x0)] maxLocals = mkF m 0 #[.val (.int x0), .unset, .unset, .unset, .unset, .unset, .unset, .unset, .unset] [] := by first | (simp [entryFrame, mkF, argsToLocals, Value.category, maxLocals]; done) | rfl
set_option maxRecDepth 65536 in
set_option maxHeartbeats 40000000 in
theorem rm1 (l : Launch) (Z : State) (a0 : Array Value) (hw : ∀ d ∈ tables_1, d.before a0 Z = true) (ws : List Jvm.Cond) (p1 : Int32) (wA wB : Addr) (hS : Sf Z wA wB) (h0 : Heap) (n0 : Nat) (O : Old Z n0 h0)  :
    MetFree l x (head1 (Jvm.Cond.code x code maxLocals ret :: ws) room_1) (fun a U => a = #[(.int p1)] ∧ Z.Warmed39 U.vm ∧ U.heap = h0) (fun _ _ _ _ _ => True) (fun _ U o U' => ∃ v L, o = .returned v ∧ Q1 n0 v U'.heap L ∧ FrameEnd U o U' L 0 0) := by
  refine MetFree.of_bodySF pn_rm1 hisR ?_
  intro p e s m args below meth c s₁ Bd hml0 hP hK
  obtain ⟨rfl, hZ, hh⟩ := hP
  have hx := Bd.exec
  have hby := Bd.bytes
  have hml : c.maxLocals = 9 := hml0
  have hown : s.vm.findClass "com/example/swapdeck/swapdeck/collateral/PartyOtherPinLaw" = some m.cls := findClass_of_methodNamed Bd.named
  have hnm := (name_of_methodNamed Bd.named Bd.method).1
  have X0 : Stand p l e room_1 s m #[(.int p1)] below meth c s₁ [] 0 0 := Stand.of_body Bd
  have e0 : s₁.heap = h0 := by rw [← hh, Bd.state]; rfl
  have N := Fr.nil n0
  have K : Keep h0 h0 [] := Keep.refl _ _
  refine Go.by (T' := s₁) (f' := (mkF m 0 #[.val (.int p1), .unset, .unset, .unset, .unset, .unset, .unset, .unset, .unset] [])) (fun _ k => castTop (ef_rm1 m p1) k) ?_
  have E_A := hS.2.2.1.ext O.2
  have E_B := hS.2.2.2.1.ext O.2
  refine Go.by (T' := s₁) (f' := (mkF m 1 #[.val (.int p1), .unset, .unset, .unset, .unset, .unset, .unset, .unset, .unset] [(.int p1)])) (fun _ k => XS.iloadN X0.here hx rfl (hb hby at_0) rfl k) ?_
  refine Go.by (T' := s₁) (f' := (mkF m 2 #[.val (.int p1), .unset, .unset, .unset, .unset, .unset, .unset, .unset, .unset] [(.int (1 : Int32)), (.int p1)])) (fun _ k => XS.iconst X0.here hx rfl (hb hby at_1) k) ?_
  refine Go.by (T' := s₁) (f' := (mkF m 3 #[.val (.int p1), .unset, .unset, .unset, .unset, .unset, .unset, .unset, .unset] [(.int (p1 &&& (1 : Int32)))])) (fun _ k => XS.iand X0.here hx rfl (hb hby at_2) rfl k) ?_
  by_cases hc3_1 : (p1 &&& (1 : Int32)) = (0 : Int32)
  · skip
    refine Go.by (T' := s₁) (f' := (mkF m 6 #[.val (.int p1), .unset, .unset, .unset, .unset, .unset, .unset, .unset, .unset] [])) (fun _ k => XS.ifNo X0.here hx rfl (hb hby at_3) rfl ((if0 _ _).trans (teq hc3_1).2) k) ?_
    refine Go.by (T' := s₁) (f' := (mkF m 7 #[.val (.int p1), .unset, .unset, .unset, .unset, .unset, .unset, .unset, .unset] [(.int (1 : Int32))])) (fun _ k => XS.iconst X0.here hx rfl (hb hby at_6) k) ?_
    refine Go.by (T' := s₁) (f' := (mkF m 11 #[.val (.int p1), .unset, .unset, .unset, .unset, .unset, .unset, .unset, .unset] [(.int (1 : Int32))])) (fun _ k => XS.goto X0.here hx rfl (pc0 := 7) (pc' := 11) rfl (hb hby at_7) (by decide) (by decide) k) ?_
    refine Go.by (T' := s₁) (f' := (mkF m 12 #[.val (.int p1), .val (.int (1 : Int32)), .unset, .unset, .unset, .unset, .unset, .unset, .unset] [])) (fun _ k => XS.istoreN X0.here hx rfl (hb hby at_11) rfl (l' := #[.val (.int p1), .val (.int (1 : Int32)), .unset, .unset, .unset, .unset, .unset, .unset, .unset]) rfl k) ?_
    refine Go.by (T' := s₁) (f' := (mkF m 13 #[.val (.int p1), .val (.int (1 : Int32)), .unset, .unset, .unset, .unset, .unset, .unset, .unset] [(.int (1 : Int32))])) (fun _ k => XS.iloadN X0.here hx rfl (hb hby at_12) rfl k) ?_
    refine Go.by (T' := s₁) (f' := (mkF m 16 #[.val (.int p1), .val (.int (1 : Int32)), .unset, .unset, .unset, .unset, .unset, .unset, .unset] [])) (fun _ k => XS.ifNo X0.here hx rfl (hb hby at_13) rfl ((if0 _ _).trans (feq (by decide : ¬ ((1 : Int32) = (0 : Int32)))).1) k) ?_
    obtain ⟨T3, X3, e3, st3⟩ := getS2 X0 hx hZ hown (host := "") (Or.inl (hw _ (List.mem_of_getElem? (i := 0) rfl))) Via.refl e0 (Sta.ext O.2 hS.1) (g := (mkF m 16 #[.val (.int p1), .val (.int (1 : Int32)), .unset, .unset, .unset, .unset, .unset, .unset, .unset] [])) rfl (hb hby at_16)
    refine Go.by (T' := T3) (f' := (mkF m 19 #[.val (.int p1), .val (.int (1 : Int32)), .unset, .unset, .unset, .unset, .unset, .unset, .unset] [(.ref wA)])) (st3) ?_
    refine Go.by (T' := T3) (f' := (mkF m 25 #[.val (.int p1), .val (.int (1 : Int32)), .unset, .unset, .unset, .unset, .unset, .unset, .unset] [(.ref wA)])) (fun _ k => XS.goto X3.here hx rfl (pc0 := 19) (pc' := 25) rfl (hb hby at_19) (by decide) (by decide) k) ?_
    refine Go.by (T' := T3) (f' := (mkF m 26 #[.val (.int p1), .val (.int (1 : Int32)), .val (.ref wA), .unset, .unset, .unset, .unset, .unset, .unset] [])) (fun _ k => XS.astoreN X3.here hx rfl (hb hby at_25) rfl rfl (l' := #[.val (.int p1), .val (.int (1 : Int32)), .val (.ref wA), .unset, .unset, .unset, .unset, .unset, .unset]) rfl k) ?_
    refine Go.by (T' := T3) (f' := (mkF m 27 #[.val (.int p1), .val (.int (1 : Int32)), .val (.ref wA), .unset, .unset, .unset, .unset, .unset, .unset] [(.int (1 : Int32))])) (fun _ k => XS.iloadN X3.here hx rfl (hb hby at_26) rfl k) ?_
    refine Go.by (T' := T3) (f' := (mkF m 30 #[.val (.int p1), .val (.int (1 : Int32)), .val (.ref wA), .unset, .unset, .unset, .unset, .unset, .unset] [])) (fun _ k => XS.ifNo X3.here hx rfl (hb hby at_27) rfl ((if0 _ _).trans (feq (by decide : ¬ ((1 : Int32) = (0 : Int32)))).1) k) ?_
    obtain ⟨T5, X5, e5, st5⟩ := getS2 X3 hx hZ hown (host := "") (Or.inl (hw _ (List.mem_of_getElem? (i := 3) rfl))) Via.refl e3 (Sta.ext O.2 hS.2.1) (g := (mkF m 30 #[.val (.int p1), .val (.int (1 : Int32)), .val (.ref wA), .unset, .unset, .unset, .unset, .unset, .unset] [])) rfl (hb hby at_30)
    refine Go.by (T' := T5) (f' := (mkF m 33 #[.val (.int p1), .val (.int (1 : Int32)), .val (.ref wA), .unset, .unset, .unset, .unset, .unset, .unset] [(.ref wB)])) (st5) ?_
    refine Go.by (T' := T5) (f' := (mkF m 39 #[.val (.int p1), .val (.int (1 : Int32)), .val (.ref wA), .unset, .unset, .unset, .unset, .unset, .unset] [(.ref wB)])) (fun _ k => XS.goto X5.here hx rfl (pc0 := 33) (pc' := 39) rfl (hb hby at_33) (by decide) (by decide) k) ?_
    refine Go.by (T' := T5) (f' := (mkF m 40 #[.val (.int p1), .val (.int (1 : Int32)), .val (.ref wA), .val (.ref wB), .unset, .unset, .unset, .unset, .unset] [])) (fun _ k => XS.astoreN X5.here hx rfl (hb hby at_39) rfl rfl (l' := #[.val (.int p1), .val (.int (1 : Int32)), .val (.ref wA), .val (.ref wB), .unset, .unset, .unset, .unset, .unset]) rfl k) ?_
    refine Go.by (T' := T5) (f' := (mkF m 41 #[.val (.int p1), .val (.int (1 : Int32)), .val (.ref wA), .val (.ref wB), .unset, .unset, .unset, .unset, .unset] [(.ref wA)])) (fun _ k => XS.aloadN X5.here hx rfl (hb hby at_40) rfl rfl k) ?_
    obtain ⟨cq6, kq6, q6a, q6b, q6c⟩ := isOf hZ e5 E_A
    obtain ⟨v6, _, ⟨T6, L6, k6, n6⟩, -, X6, ⟨Lc6, hQ6, l6, y6, z6⟩, st6⟩ := X5.virtualBack hx (y := (⟨"com/example/swapdeck/swapdeck/collateral/Party", "other", "()Lcom/example/swapdeck/swapdeck/collateral/Party;"⟩ : MethodName)) (z := (⟨"com/example/swapdeck/swapdeck/collateral/Party", "other", "()Lcom/example/swapdeck/swapdeck/collateral/Party;"⟩ : MethodName)) hown (mvT hZ (hw _ (List.mem_of_getElem? (i := 5) rfl))) (mvT hZ (hw _ (List.mem_of_getElem? (i := 6) rfl))) (notFace_of_selects (args := #[]) (mvT hZ (hw _ (List.mem_of_getElem? (i := 8) rfl)))) (mvT hZ (hw _ (List.mem_of_getElem? (i := 8) rfl))) (mvT hZ (hw _ (List.mem_of_getElem? (i := 7) rfl))) (by decide) (backOf (W := 0) (rm_owA l Z a0 hw [] wA wB hS h0 n0 O) hZ (hw _ (List.mem_of_getElem? (i := 9) rfl)) (hw _ (List.mem_of_getElem? (i := 1) rfl)) (by decide) (by decide)) q6a q6c (g := (mkF m 41 #[.val (.int p1), .val (.int (1 : Int32)), .val (.ref wA), .val (.ref wB), .unset, .unset, .unset, .unset, .unset] [(.ref wA)])) rfl (by rw [hml]; rfl) (Steps.refl _) (argsL := []) (rest := []) (lenOf pd_rm1_0 rfl) rfl (by show 2 * 0 + _ ≤ _; exact Nat.le_of_eq rfl) (hb hby at_41) (fun _ _ => ⟨rfl, e5, (by decide : 0 + 0 ≤ _), (by decide : 0 + 0 ≤ _)⟩)
    dsimp only [Pt.U, Pt.locs, Pt.cells, Pt.slots] at X6 l6 y6 z6 st6 hQ6
    subst l6 y6 z6
    obtain ⟨rfl, Nq6, e6⟩ := hQ6
    replace N := Fr.app N Nq6
    refine Go.by (T' := T6) (f' := (mkF m 44 #[.val (.int p1), .val (.int (1 : Int32)), .val (.ref wA), .val (.ref wB), .unset, .unset, .unset, .unset, .unset] [(.ref wB)])) (fun _ k => st6.trans k) ?_
    refine Go.by (T' := T6) (f' := (mkF m 46 #[.val (.int p1), .val (.int (1 : Int32)), .val (.ref wA), .val (.ref wB), .val (.ref wB), .unset, .unset, .unset, .unset] [])) (fun _ k => XS.astore X6.here hx rfl (hb hby at_44) rfl rfl (l' := #[.val (.int p1), .val (.int (1 : Int32)), .val (.ref wA), .val (.ref wB), .val (.ref wB), .unset, .unset, .unset, .unset]) rfl k) ?_
    refine Go.by (T' := T6) (f' := (mkF m 47 #[.val (.int p1), .val (.int (1 : Int32)), .val (.ref wA), .val (.ref wB), .val (.ref wB), .unset, .unset, .unset, .unset] [(.ref wB)])) (fun _ k => XS.aloadN X6.here hx rfl (hb hby at_46) rfl rfl k) ?_
    obtain ⟨cq7, kq7, q7a, q7b, q7c⟩ := isOf hZ e6 E_B
    obtain ⟨v7, _, ⟨T7, L7, k7, n7⟩, -, X7, ⟨Lc7, hQ7, l7, y7, z7⟩, st7⟩ := X6.virtualBack hx (y := (⟨"com/example/swapdeck/swapdeck/collateral/Party", "other", "()Lcom/example/swapdeck/swapdeck/collateral/Party;"⟩ : MethodName)) (z := (⟨"com/example/swapdeck/swapdeck/collateral/Party", "other", "()Lcom/example/swapdeck/swapdeck/collateral/Party;"⟩ : MethodName)) hown (mvT hZ (hw _ (List.mem_of_getElem? (i := 5) rfl))) (mvT hZ (hw _ (List.mem_of_getElem? (i := 6) rfl))) (notFace_of_selects (args := #[]) (mvT hZ (hw _ (List.mem_of_getElem? (i := 8) rfl)))) (mvT hZ (hw _ (List.mem_of_getElem? (i := 8) rfl))) (mvT hZ (hw _ (List.mem_of_getElem? (i := 7) rfl))) (by decide) (backOf (W := 0) (rm_owB l Z a0 hw [] wA wB hS h0 n0 O) hZ (hw _ (List.mem_of_getElem? (i := 9) rfl)) (hw _ (List.mem_of_getElem? (i := 1) rfl)) (by decide) (by decide)) q7a q7c (g := (mkF m 47 #[.val (.int p1), .val (.int (1 : Int32)), .val (.ref wA), .val (.ref wB), .val (.ref wB), .unset, .unset, .unset, .unset] [(.ref wB)])) rfl (by rw [hml]; rfl) (Steps.refl _) (argsL := []) (rest := []) (lenOf pd_rm1_0 rfl) rfl (by show 2 * 0 + _ ≤ _; exact Nat.le_of_eq rfl) (hb hby at_47) (fun _ _ => ⟨rfl, e6, (by decide : 0 + 0 ≤ _), (by decide : 0 + 0 ≤ _)⟩)
    dsimp only [Pt.U, Pt.locs, Pt.cells, Pt.slots] at X7 l7 y7 z7 st7 hQ7
    subst l7 y7 z7
    obtain ⟨rfl, Nq7, e7⟩ := hQ7
    replace N := Fr.app N Nq7
    refine Go.by (T' := T7) (f' := (mkF m 50 #[.val (.int p1), .val (.int (1 : Int32)), .val (.ref wA), .val (.ref wB), .val (.ref wB), .unset, .unset, .unset, .unset] [(.ref wA)])) (fun _ k => st7.trans k) ?_
    refine Go.by (T' := T7) (f' := (mkF m 52 #[.val (.int p1), .val (.int (1 : Int32)), .val (.ref wA), .val (.ref wB), .val (.ref wB), .val (.ref wA), .unset, .unset, .unset] [])) (fun _ k => XS.astore X7.here hx rfl (hb hby at_50) rfl rfl (l' := #[.val (.int p1), .val (.int (1 : Int32)), .val (.ref wA), .val (.ref wB), .val (.ref wB), .val (.ref wA), .unset, .unset, .unset]) rfl k) ?_
    refine Go.by (T' := T7) (f' := (mkF m 54 #[.val (.int p1), .val (.int (1 : Int32)), .val (.ref wA), .val (.ref wB), .val (.ref wB), .val (.ref wA), .unset, .unset, .unset] [(.ref wB)])) (fun _ k => XS.aload X7.here hx rfl (hb hby at_52) rfl rfl k) ?_
    refine Go.by (T' := T7) (f' := (mkF m 55 #[.val (.int p1), .val (.int (1 : Int32)), .val (.ref wA), .val (.ref wB), .val (.ref wB), .val (.ref wA), .unset, .unset, .unset] [(.ref wA), (.ref wB)])) (fun _ k => XS.aloadN X7.here hx rfl (hb hby at_54) rfl rfl k) ?_
    refine Go.by (T' := T7) (f' := (mkF m 58 #[.val (.int p1), .val (.int (1 : Int32)), .val (.ref wA), .val (.ref wB), .val (.ref wB), .val (.ref wA), .unset, .unset, .unset] [])) (fun _ k => Jvm.RoadKit.acmp (g := (mkF m 55 #[.val (.int p1), .val (.int (1 : Int32)), .val (.ref wA), .val (.ref wB), .val (.ref wB), .val (.ref wA), .unset, .unset, .unset] [(.ref wA), (.ref wB)])) X7 hx rfl rfl rfl (pc0 := 55) (pc' := 58) (same := false) rfl (hb hby at_55) rfl (decide_eq_false fun q => (Ne.symm hS.2.2.2.2) (Value.ref.inj q)) (by decide) (by decide) k) ?_
    refine Go.by (T' := T7) (f' := (mkF m 60 #[.val (.int p1), .val (.int (1 : Int32)), .val (.ref wA), .val (.ref wB), .val (.ref wB), .val (.ref wA), .unset, .unset, .unset] [(.ref wA)])) (fun _ k => XS.aload X7.here hx rfl (hb hby at_58) rfl rfl k) ?_
    refine Go.by (T' := T7) (f' := (mkF m 61 #[.val (.int p1), .val (.int (1 : Int32)), .val (.ref wA), .val (.ref wB), .val (.ref wB), .val (.ref wA), .unset, .unset, .unset] [(.ref wB), (.ref wA)])) (fun _ k => XS.aloadN X7.here hx rfl (hb hby at_60) rfl rfl k) ?_
    refine Go.by (T' := T7) (f' := (mkF m 64 #[.val (.int p1), .val (.int (1 : Int32)), .val (.ref wA), .val (.ref wB), .val (.ref wB), .val (.ref wA), .unset, .unset, .unset] [])) (fun _ k => Jvm.RoadKit.acmp (g := (mkF m 61 #[.val (.int p1), .val (.int (1 : Int32)), .val (.ref wA), .val (.ref wB), .val (.ref wB), .val (.ref wA), .unset, .unset, .unset] [(.ref wB), (.ref wA)])) X7 hx rfl rfl rfl (pc0 := 61) (pc' := 64) (same := false) rfl (hb hby at_61) rfl (decide_eq_false fun q => hS.2.2.2.2 (Value.ref.inj q)) (by decide) (by decide) k) ?_
    refine Go.by (T' := T7) (f' := (mkF m 65 #[.val (.int p1), .val (.int (1 : Int32)), .val (.ref wA), .val (.ref wB), .val (.ref wB), .val (.ref wA), .unset, .unset, .unset] [(.int (1 : Int32))])) (fun _ k => XS.iconst X7.here hx rfl (hb hby at_64) k) ?_
    refine Go.by (T' := T7) (f' := (mkF m 69 #[.val (.int p1), .val (.int (1 : Int32)), .val (.ref wA), .val (.ref wB), .val (.ref wB), .val (.ref wA), .unset, .unset, .unset] [(.int (1 : Int32))])) (fun _ k => XS.goto X7.here hx rfl (pc0 := 65) (pc' := 69) rfl (hb hby at_65) (by decide) (by decide) k) ?_
    refine Go.by (T' := T7) (f' := (mkF m 71 #[.val (.int p1), .val (.int (1 : Int32)), .val (.ref wA), .val (.ref wB), .val (.ref wB), .val (.ref wA), .val (.int (1 : Int32)), .unset, .unset] [])) (fun _ k => XS.istore X7.here hx rfl (hb hby at_69) rfl (l' := #[.val (.int p1), .val (.int (1 : Int32)), .val (.ref wA), .val (.ref wB), .val (.ref wB), .val (.ref wA), .val (.int (1 : Int32)), .unset, .unset]) rfl k) ?_
    refine Go.by (T' := T7) (f' := (mkF m 73 #[.val (.int p1), .val (.int (1 : Int32)), .val (.ref wA), .val (.ref wB), .val (.ref wB), .val (.ref wA), .val (.int (1 : Int32)), .unset, .unset] [(.ref wB)])) (fun _ k => XS.aload X7.here hx rfl (hb hby at_71) rfl rfl k) ?_
    obtain ⟨cq8, kq8, q8a, q8b, q8c⟩ := isOf hZ e7 E_B
    obtain ⟨v8, _, ⟨T8, L8, k8, n8⟩, -, X8, ⟨Lc8, hQ8, l8, y8, z8⟩, st8⟩ := X7.virtualBack hx (y := (⟨"com/example/swapdeck/swapdeck/collateral/Party", "other", "()Lcom/example/swapdeck/swapdeck/collateral/Party;"⟩ : MethodName)) (z := (⟨"com/example/swapdeck/swapdeck/collateral/Party", "other", "()Lcom/example/swapdeck/swapdeck/collateral/Party;"⟩ : MethodName)) hown (mvT hZ (hw _ (List.mem_of_getElem? (i := 5) rfl))) (mvT hZ (hw _ (List.mem_of_getElem? (i := 6) rfl))) (notFace_of_selects (args := #[]) (mvT hZ (hw _ (List.mem_of_getElem? (i := 8) rfl)))) (mvT hZ (hw _ (List.mem_of_getElem? (i := 8) rfl))) (mvT hZ (hw _ (List.mem_of_getElem? (i := 7) rfl))) (by decide) (backOf (W := 0) (rm_owB l Z a0 hw [] wA wB hS h0 n0 O) hZ (hw _ (List.mem_of_getElem? (i := 9) rfl)) (hw _ (List.mem_of_getElem? (i := 1) rfl)) (by decide) (by decide)) q8a q8c (g := (mkF m 73 #[.val (.int p1), .val (.int (1 : Int32)), .val (.ref wA), .val (.ref wB), .val (.ref wB), .val (.ref wA), .val (.int (1 : Int32)), .unset, .unset] [(.ref wB)])) rfl (by rw [hml]; rfl) (Steps.refl _) (argsL := []) (rest := []) (lenOf pd_rm1_0 rfl) rfl (by show 2 * 0 + _ ≤ _; exact Nat.le_of_eq rfl) (hb hby at_73) (fun _ _ => ⟨rfl, e7, (by decide : 0 + 0 ≤ _), (by decide : 0 + 0 ≤ _)⟩)
    dsimp only [Pt.U, Pt.locs, Pt.cells, Pt.slots] at X8 l8 y8 z8 st8 hQ8
    subst l8 y8 z8
    obtain ⟨rfl, Nq8, e8⟩ := hQ8
    replace N := Fr.app N Nq8
    refine Go.by (T' := T8) (f' := (mkF m 76 #[.val (.int p1), .val (.int (1 : Int32)), .val (.ref wA), .val (.ref wB), .val (.ref wB), .val (.ref wA), .val (.int (1 : Int32)), .unset, .unset] [(.ref wA)])) (fun _ k => st8.trans k) ?_
    refine Go.by (T' := T8) (f' := (mkF m 77 #[.val (.int p1), .val (.int (1 : Int32)), .val (.ref wA), .val (.ref wB), .val (.ref wB), .val (.ref wA), .val (.int (1 : Int32)), .unset, .unset] [(.ref wA), (.ref wA)])) (fun _ k => XS.aloadN X8.here hx rfl (hb hby at_76) rfl rfl k) ?_
    refine Go.by (T' := T8) (f' := (mkF m 80 #[.val (.int p1), .val (.int (1 : Int32)), .val (.ref wA), .val (.ref wB), .val (.ref wB), .val (.ref wA), .val (.int (1 : Int32)), .unset, .unset] [])) (fun _ k => Jvm.RoadKit.acmp (g := (mkF m 77 #[.val (.int p1), .val (.int (1 : Int32)), .val (.ref wA), .val (.ref wB), .val (.ref wB), .val (.ref wA), .val (.int (1 : Int32)), .unset, .unset] [(.ref wA), (.ref wA)])) X8 hx rfl rfl rfl (pc0 := 77) (pc' := 80) (same := true) rfl (hb hby at_77) rfl (decide_eq_true rfl) (by decide) (by decide) k) ?_
    refine Go.by (T' := T8) (f' := (mkF m 82 #[.val (.int p1), .val (.int (1 : Int32)), .val (.ref wA), .val (.ref wB), .val (.ref wB), .val (.ref wA), .val (.int (1 : Int32)), .unset, .unset] [(.ref wA)])) (fun _ k => XS.aload X8.here hx rfl (hb hby at_80) rfl rfl k) ?_
    obtain ⟨cq9, kq9, q9a, q9b, q9c⟩ := isOf hZ e8 E_A
    obtain ⟨v9, _, ⟨T9, L9, k9, n9⟩, -, X9, ⟨Lc9, hQ9, l9, y9, z9⟩, st9⟩ := X8.virtualBack hx (y := (⟨"com/example/swapdeck/swapdeck/collateral/Party", "other", "()Lcom/example/swapdeck/swapdeck/collateral/Party;"⟩ : MethodName)) (z := (⟨"com/example/swapdeck/swapdeck/collateral/Party", "other", "()Lcom/example/swapdeck/swapdeck/collateral/Party;"⟩ : MethodName)) hown (mvT hZ (hw _ (List.mem_of_getElem? (i := 5) rfl))) (mvT hZ (hw _ (List.mem_of_getElem? (i := 6) rfl))) (notFace_of_selects (args := #[]) (mvT hZ (hw _ (List.mem_of_getElem? (i := 8) rfl)))) (mvT hZ (hw _ (List.mem_of_getElem? (i := 8) rfl))) (mvT hZ (hw _ (List.mem_of_getElem? (i := 7) rfl))) (by decide) (backOf (W := 0) (rm_owA l Z a0 hw [] wA wB hS h0 n0 O) hZ (hw _ (List.mem_of_getElem? (i := 9) rfl)) (hw _ (List.mem_of_getElem? (i := 1) rfl)) (by decide) (by decide)) q9a q9c (g := (mkF m 82 #[.val (.int p1), .val (.int (1 : Int32)), .val (.ref wA), .val (.ref wB), .val (.ref wB), .val (.ref wA), .val (.int (1 : Int32)), .unset, .unset] [(.ref wA)])) rfl (by rw [hml]; rfl) (Steps.refl _) (argsL := []) (rest := []) (lenOf pd_rm1_0 rfl) rfl (by show 2 * 0 + _ ≤ _; exact Nat.le_of_eq rfl) (hb hby at_82) (fun _ _ => ⟨rfl, e8, (by decide : 0 + 0 ≤ _), (by decide : 0 + 0 ≤ _)⟩)
    dsimp only [Pt.U, Pt.locs, Pt.cells, Pt.slots] at X9 l9 y9 z9 st9 hQ9
    subst l9 y9 z9
    obtain ⟨rfl, Nq9, e9⟩ := hQ9
    replace N := Fr.app N Nq9
    refine Go.by (T' := T9) (f' := (mkF m 85 #[.val (.int p1), .val (.int (1 : Int32)), .val (.ref wA), .val (.ref wB), .val (.ref wB), .val (.ref wA), .val (.int (1 : Int32)), .unset, .unset] [(.ref wB)])) (fun _ k => st9.trans k) ?_
    refine Go.by (T' := T9) (f' := (mkF m 86 #[.val (.int p1), .val (.int (1 : Int32)), .val (.ref wA), .val (.ref wB), .val (.ref wB), .val (.ref wA), .val (.int (1 : Int32)), .unset, .unset] [(.ref wB), (.ref wB)])) (fun _ k => XS.aloadN X9.here hx rfl (hb hby at_85) rfl rfl k) ?_
    refine Go.by (T' := T9) (f' := (mkF m 89 #[.val (.int p1), .val (.int (1 : Int32)), .val (.ref wA), .val (.ref wB), .val (.ref wB), .val (.ref wA), .val (.int (1 : Int32)), .unset, .unset] [])) (fun _ k => Jvm.RoadKit.acmp (g := (mkF m 86 #[.val (.int p1), .val (.int (1 : Int32)), .val (.ref wA), .val (.ref wB), .val (.ref wB), .val (.ref wA), .val (.int (1 : Int32)), .unset, .unset] [(.ref wB), (.ref wB)])) X9 hx rfl rfl rfl (pc0 := 86) (pc' := 89) (same := true) rfl (hb hby at_86) rfl (decide_eq_true rfl) (by decide) (by decide) k) ?_
    refine Go.by (T' := T9) (f' := (mkF m 90 #[.val (.int p1), .val (.int (1 : Int32)), .val (.ref wA), .val (.ref wB), .val (.ref wB), .val (.ref wA), .val (.int (1 : Int32)), .unset, .unset] [(.int (1 : Int32))])) (fun _ k => XS.iconst X9.here hx rfl (hb hby at_89) k) ?_
    refine Go.by (T' := T9) (f' := (mkF m 94 #[.val (.int p1), .val (.int (1 : Int32)), .val (.ref wA), .val (.ref wB), .val (.ref wB), .val (.ref wA), .val (.int (1 : Int32)), .unset, .unset] [(.int (1 : Int32))])) (fun _ k => XS.goto X9.here hx rfl (pc0 := 90) (pc' := 94) rfl (hb hby at_90) (by decide) (by decide) k) ?_
    refine Go.by (T' := T9) (f' := (mkF m 96 #[.val (.int p1), .val (.int (1 : Int32)), .val (.ref wA), .val (.ref wB), .val (.ref wB), .val (.ref wA), .val (.int (1 : Int32)), .val (.int (1 : Int32)), .unset] [])) (fun _ k => XS.istore X9.here hx rfl (hb hby at_94) rfl (l' := #[.val (.int p1), .val (.int (1 : Int32)), .val (.ref wA), .val (.ref wB), .val (.ref wB), .val (.ref wA), .val (.int (1 : Int32)), .val (.int (1 : Int32)), .unset]) rfl k) ?_
    refine Go.by (T' := T9) (f' := (mkF m 98 #[.val (.int p1), .val (.int (1 : Int32)), .val (.ref wA), .val (.ref wB), .val (.ref wB), .val (.ref wA), .val (.int (1 : Int32)), .val (.int (1 : Int32)), .unset] [(.ref wB)])) (fun _ k => XS.aload X9.here hx rfl (hb hby at_96) rfl rfl k) ?_
    refine Go.by (T' := T9) (f' := (mkF m 99 #[.val (.int p1), .val (.int (1 : Int32)), .val (.ref wA), .val (.ref wB), .val (.ref wB), .val (.ref wA), .val (.int (1 : Int32)), .val (.int (1 : Int32)), .unset] [(.ref wB), (.ref wB)])) (fun _ k => XS.aloadN X9.here hx rfl (hb hby at_98) rfl rfl k) ?_
    refine Go.by (T' := T9) (f' := (mkF m 102 #[.val (.int p1), .val (.int (1 : Int32)), .val (.ref wA), .val (.ref wB), .val (.ref wB), .val (.ref wA), .val (.int (1 : Int32)), .val (.int (1 : Int32)), .unset] [])) (fun _ k => Jvm.RoadKit.acmp (g := (mkF m 99 #[.val (.int p1), .val (.int (1 : Int32)), .val (.ref wA), .val (.ref wB), .val (.ref wB), .val (.ref wA), .val (.int (1 : Int32)), .val (.int (1 : Int32)), .unset] [(.ref wB), (.ref wB)])) X9 hx rfl rfl rfl (pc0 := 99) (pc' := 102) (same := true) rfl (hb hby at_99) rfl (decide_eq_true rfl) (by decide) (by decide) k) ?_
    refine Go.by (T' := T9) (f' := (mkF m 104 #[.val (.int p1), .val (.int (1 : Int32)), .val (.ref wA), .val (.ref wB), .val (.ref wB), .val (.ref wA), .val (.int (1 : Int32)), .val (.int (1 : Int32)), .unset] [(.ref wA)])) (fun _ k => XS.aload X9.here hx rfl (hb hby at_102) rfl rfl k) ?_
    refine Go.by (T' := T9) (f' := (mkF m 105 #[.val (.int p1), .val (.int (1 : Int32)), .val (.ref wA), .val (.ref wB), .val (.ref wB), .val (.ref wA), .val (.int (1 : Int32)), .val (.int (1 : Int32)), .unset] [(.ref wA), (.ref wA)])) (fun _ k => XS.aloadN X9.here hx rfl (hb hby at_104) rfl rfl k) ?_
    refine Go.by (T' := T9) (f' := (mkF m 108 #[.val (.int p1), .val (.int (1 : Int32)), .val (.ref wA), .val (.ref wB), .val (.ref wB), .val (.ref wA), .val (.int (1 : Int32)), .val (.int (1 : Int32)), .unset] [])) (fun _ k => Jvm.RoadKit.acmp (g := (mkF m 105 #[.val (.int p1), .val (.int (1 : Int32)), .val (.ref wA), .val (.ref wB), .val (.ref wB), .val (.ref wA), .val (.int (1 : Int32)), .val (.int (1 : Int32)), .unset] [(.ref wA), (.ref wA)])) X9 hx rfl rfl rfl (pc0 := 105) (pc' := 108) (same := true) rfl (hb hby at_105) rfl (decide_eq_true rfl) (by decide) (by decide) k) ?_
    refine Go.by (T' := T9) (f' := (mkF m 109 #[.val (.int p1), .val (.int (1 : Int32)), .val (.ref wA), .val (.ref wB), .val (.ref wB), .val (.ref wA), .val (.int (1 : Int32)), .val (.int (1 : Int32)), .unset] [(.int (1 : Int32))])) (fun _ k => XS.iconst X9.here hx rfl (hb hby at_108) k) ?_
    refine Go.by (T' := T9) (f' := (mkF m 113 #[.val (.int p1), .val (.int (1 : Int32)), .val (.ref wA), .val (.ref wB), .val (.ref wB), .val (.ref wA), .val (.int (1 : Int32)), .val (.int (1 : Int32)), .unset] [(.int (1 : Int32))])) (fun _ k => XS.goto X9.here hx rfl (pc0 := 109) (pc' := 113) rfl (hb hby at_109) (by decide) (by decide) k) ?_
    refine Go.by (T' := T9) (f' := (mkF m 115 #[.val (.int p1), .val (.int (1 : Int32)), .val (.ref wA), .val (.ref wB), .val (.ref wB), .val (.ref wA), .val (.int (1 : Int32)), .val (.int (1 : Int32)), .val (.int (1 : Int32))] [])) (fun _ k => XS.istore X9.here hx rfl (hb hby at_113) rfl (l' := #[.val (.int p1), .val (.int (1 : Int32)), .val (.ref wA), .val (.ref wB), .val (.ref wB), .val (.ref wA), .val (.int (1 : Int32)), .val (.int (1 : Int32)), .val (.int (1 : Int32))]) rfl k) ?_
    refine Go.by (T' := T9) (f' := (mkF m 117 #[.val (.int p1), .val (.int (1 : Int32)), .val (.ref wA), .val (.ref wB), .val (.ref wB), .val (.ref wA), .val (.int (1 : Int32)), .val (.int (1 : Int32)), .val (.int (1 : Int32))] [(.int (1 : Int32))])) (fun _ k => XS.iload X9.here hx rfl (hb hby at_115) rfl k) ?_
    refine Go.by (T' := T9) (f' := (mkF m 120 #[.val (.int p1), .val (.int (1 : Int32)), .val (.ref wA), .val (.ref wB), .val (.ref wB), .val (.ref wA), .val (.int (1 : Int32)), .val (.int (1 : Int32)), .val (.int (1 : Int32))] [])) (fun _ k => XS.ifNo X9.here hx rfl (hb hby at_117) rfl ((if0 _ _).trans (feq (by decide : ¬ ((1 : Int32) = (0 : Int32)))).1) k) ?_
    refine Go.by (T' := T9) (f' := (mkF m 122 #[.val (.int p1), .val (.int (1 : Int32)), .val (.ref wA), .val (.ref wB), .val (.ref wB), .val (.ref wA), .val (.int (1 : Int32)), .val (.int (1 : Int32)), .val (.int (1 : Int32))] [(.int (1 : Int32))])) (fun _ k => XS.iload X9.here hx rfl (hb hby at_120) rfl k) ?_
    refine Go.by (T' := T9) (f' := (mkF m 125 #[.val (.int p1), .val (.int (1 : Int32)), .val (.ref wA), .val (.ref wB), .val (.ref wB), .val (.ref wA), .val (.int (1 : Int32)), .val (.int (1 : Int32)), .val (.int (1 : Int32))] [])) (fun _ k => XS.ifNo X9.here hx rfl (hb hby at_122) rfl ((if0 _ _).trans (feq (by decide : ¬ ((1 : Int32) = (0 : Int32)))).1) k) ?_
    refine Go.by (T' := T9) (f' := (mkF m 127 #[.val (.int p1), .val (.int (1 : Int32)), .val (.ref wA), .val (.ref wB), .val (.ref wB), .val (.ref wA), .val (.int (1 : Int32)), .val (.int (1 : Int32)), .val (.int (1 : Int32))] [(.int (1 : Int32))])) (fun _ k => XS.iload X9.here hx rfl (hb hby at_125) rfl k) ?_
    refine Go.by (T' := T9) (f' := (mkF m 130 #[.val (.int p1), .val (.int (1 : Int32)), .val (.ref wA), .val (.ref wB), .val (.ref wB), .val (.ref wA), .val (.int (1 : Int32)), .val (.int (1 : Int32)), .val (.int (1 : Int32))] [])) (fun _ k => XS.ifNo X9.here hx rfl (hb hby at_127) rfl ((if0 _ _).trans (feq (by decide : ¬ ((1 : Int32) = (0 : Int32)))).1) k) ?_
    refine Go.by (T' := T9) (f' := (mkF m 131 #[.val (.int p1), .val (.int (1 : Int32)), .val (.ref wA), .val (.ref wB), .val (.ref wB), .val (.ref wA), .val (.int (1 : Int32)), .val (.int (1 : Int32)), .val (.int (1 : Int32))] [(.int (1 : Int32))])) (fun _ k => XS.iconst X9.here hx rfl (hb hby at_130) k) ?_
    refine Go.by (T' := T9) (f' := (mkF m 135 #[.val (.int p1), .val (.int (1 : Int32)), .val (.ref wA), .val (.ref wB), .val (.ref wB), .val (.ref wA), .val (.int (1 : Int32)), .val (.int (1 : Int32)), .val (.int (1 : Int32))] [(.int (1 : Int32))])) (fun _ k => XS.goto X9.here hx rfl (pc0 := 131) (pc' := 135) rfl (hb hby at_131) (by decide) (by decide) k) ?_
    obtain ⟨fs, hr, hrun, hended, hW, hsame⟩ := X9.leave (v := some (.int (1 : Int32))) (fun h => by rw [Bd.returns] at h; cases h)
    refine ⟨_, _, retN X9 hx (t := .boolean) Bd.returns (by simp) (hb hby at_135) hr, hrun, hended, _, _, rfl, ?_, ⟨_, rfl⟩, hW, hsame.mono (by decide) (by decide)⟩
    show Q1 n0 (some (.int (1 : Int32))) T9.heap _
    rw [e9]
    exact ⟨rfl, N⟩
  · skip
    refine Go.by (T' := s₁) (f' := (mkF m 10 #[.val (.int p1), .unset, .unset, .unset, .unset, .unset, .unset, .unset, .unset] [])) (fun _ k => XS.ifYes X0.here hx rfl (pc0 := 3) (pc' := 10) rfl (hb hby at_3) rfl ((if0 _ _).trans (feq hc3_1).2) (by decide) (by decide) k) ?_
    refine Go.by (T' := s₁) (f' := (mkF m 11 #[.val (.int p1), .unset, .unset, .unset, .unset, .unset, .unset, .unset, .unset] [(.int (0 : Int32))])) (fun _ k => XS.iconst X0.here hx rfl (hb hby at_10) k) ?_
    refine Go.by (T' := s₁) (f' := (mkF m 12 #[.val (.int p1), .val (.int (0 : Int32)), .unset, .unset, .unset, .unset, .unset, .unset, .unset] [])) (fun _ k => XS.istoreN X0.here hx rfl (hb hby at_11) rfl (l' := #[.val (.int p1), .val (.int (0 : Int32)), .unset, .unset, .unset, .unset, .unset, .unset, .unset]) rfl k) ?_
    refine Go.by (T' := s₁) (f' := (mkF m 13 #[.val (.int p1), .val (.int (0 : Int32)), .unset, .unset, .unset, .unset, .unset, .unset, .unset] [(.int (0 : Int32))])) (fun _ k => XS.iloadN X0.here hx rfl (hb hby at_12) rfl k) ?_
    refine Go.by (T' := s₁) (f' := (mkF m 22 #[.val (.int p1), .val (.int (0 : Int32)), .unset, .unset, .unset, .unset, .unset, .unset, .unset] [])) (fun _ k => XS.ifYes X0.here hx rfl (pc0 := 13) (pc' := 22) rfl (hb hby at_13) rfl ((if0 _ _).trans (teq (by decide : (0 : Int32) = (0 : Int32))).1) (by decide) (by decide) k) ?_
    obtain ⟨T14, X14, e14, st14⟩ := getS2 X0 hx hZ hown (host := "") (Or.inl (hw _ (List.mem_of_getElem? (i := 3) rfl))) Via.refl e0 (Sta.ext O.2 hS.2.1) (g := (mkF m 22 #[.val (.int p1), .val (.int (0 : Int32)), .unset, .unset, .unset, .unset, .unset, .unset, .unset] [])) rfl (hb hby at_22)
    refine Go.by (T' := T14) (f' := (mkF m 25 #[.val (.int p1), .val (.int (0 : Int32)), .unset, .unset, .unset, .unset, .unset, .unset, .unset] [(.ref wB)])) (st14) ?_
    refine Go.by (T' := T14) (f' := (mkF m 26 #[.val (.int p1), .val (.int (0 : Int32)), .val (.ref wB), .unset, .unset, .unset, .unset, .unset, .unset] [])) (fun _ k => XS.astoreN X14.here hx rfl (hb hby at_25) rfl rfl (l' := #[.val (.int p1), .val (.int (0 : Int32)), .val (.ref wB), .unset, .unset, .unset, .unset, .unset, .unset]) rfl k) ?_
    refine Go.by (T' := T14) (f' := (mkF m 27 #[.val (.int p1), .val (.int (0 : Int32)), .val (.ref wB), .unset, .unset, .unset, .unset, .unset, .unset] [(.int (0 : Int32))])) (fun _ k => XS.iloadN X14.here hx rfl (hb hby at_26) rfl k) ?_
    refine Go.by (T' := T14) (f' := (mkF m 36 #[.val (.int p1), .val (.int (0 : Int32)), .val (.ref wB), .unset, .unset, .unset, .unset, .unset, .unset] [])) (fun _ k => XS.ifYes X14.here hx rfl (pc0 := 27) (pc' := 36) rfl (hb hby at_27) rfl ((if0 _ _).trans (teq (by decide : (0 : Int32) = (0 : Int32))).1) (by decide) (by decide) k) ?_
    obtain ⟨T16, X16, e16, st16⟩ := getS2 X14 hx hZ hown (host := "") (Or.inl (hw _ (List.mem_of_getElem? (i := 0) rfl))) Via.refl e14 (Sta.ext O.2 hS.1) (g := (mkF m 36 #[.val (.int p1), .val (.int (0 : Int32)), .val (.ref wB), .unset, .unset, .unset, .unset, .unset, .unset] [])) rfl (hb hby at_36)
    refine Go.by (T' := T16) (f' := (mkF m 39 #[.val (.int p1), .val (.int (0 : Int32)), .val (.ref wB), .unset, .unset, .unset, .unset, .unset, .unset] [(.ref wA)])) (st16) ?_
    refine Go.by (T' := T16) (f' := (mkF m 40 #[.val (.int p1), .val (.int (0 : Int32)), .val (.ref wB), .val (.ref wA), .unset, .unset, .unset, .unset, .unset] [])) (fun _ k => XS.astoreN X16.here hx rfl (hb hby at_39) rfl rfl (l' := #[.val (.int p1), .val (.int (0 : Int32)), .val (.ref wB), .val (.ref wA), .unset, .unset, .unset, .unset, .unset]) rfl k) ?_
    refine Go.by (T' := T16) (f' := (mkF m 41 #[.val (.int p1), .val (.int (0 : Int32)), .val (.ref wB), .val (.ref wA), .unset, .unset, .unset, .unset, .unset] [(.ref wB)])) (fun _ k => XS.aloadN X16.here hx rfl (hb hby at_40) rfl rfl k) ?_
    obtain ⟨cq17, kq17, q17a, q17b, q17c⟩ := isOf hZ e16 E_B
    obtain ⟨v17, _, ⟨T17, L17, k17, n17⟩, -, X17, ⟨Lc17, hQ17, l17, y17, z17⟩, st17⟩ := X16.virtualBack hx (y := (⟨"com/example/swapdeck/swapdeck/collateral/Party", "other", "()Lcom/example/swapdeck/swapdeck/collateral/Party;"⟩ : MethodName)) (z := (⟨"com/example/swapdeck/swapdeck/collateral/Party", "other", "()Lcom/example/swapdeck/swapdeck/collateral/Party;"⟩ : MethodName)) hown (mvT hZ (hw _ (List.mem_of_getElem? (i := 5) rfl))) (mvT hZ (hw _ (List.mem_of_getElem? (i := 6) rfl))) (notFace_of_selects (args := #[]) (mvT hZ (hw _ (List.mem_of_getElem? (i := 8) rfl)))) (mvT hZ (hw _ (List.mem_of_getElem? (i := 8) rfl))) (mvT hZ (hw _ (List.mem_of_getElem? (i := 7) rfl))) (by decide) (backOf (W := 0) (rm_owB l Z a0 hw [] wA wB hS h0 n0 O) hZ (hw _ (List.mem_of_getElem? (i := 9) rfl)) (hw _ (List.mem_of_getElem? (i := 1) rfl)) (by decide) (by decide)) q17a q17c (g := (mkF m 41 #[.val (.int p1), .val (.int (0 : Int32)), .val (.ref wB), .val (.ref wA), .unset, .unset, .unset, .unset, .unset] [(.ref wB)])) rfl (by rw [hml]; rfl) (Steps.refl _) (argsL := []) (rest := []) (lenOf pd_rm1_0 rfl) rfl (by show 2 * 0 + _ ≤ _; exact Nat.le_of_eq rfl) (hb hby at_41) (fun _ _ => ⟨rfl, e16, (by decide : 0 + 0 ≤ _), (by decide : 0 + 0 ≤ _)⟩)
    dsimp only [Pt.U, Pt.locs, Pt.cells, Pt.slots] at X17 l17 y17 z17 st17 hQ17
    subst l17 y17 z17
    obtain ⟨rfl, Nq17, e17⟩ := hQ17
    replace N := Fr.app N Nq17
    refine Go.by (T' := T17) (f' := (mkF m 44 #[.val (.int p1), .val (.int (0 : Int32)), .val (.ref wB), .val (.ref wA), .unset, .unset, .unset, .unset, .unset] [(.ref wA)])) (fun _ k => st17.trans k) ?_
    refine Go.by (T' := T17) (f' := (mkF m 46 #[.val (.int p1), .val (.int (0 : Int32)), .val (.ref wB), .val (.ref wA), .val (.ref wA), .unset, .unset, .unset, .unset] [])) (fun _ k => XS.astore X17.here hx rfl (hb hby at_44) rfl rfl (l' := #[.val (.int p1), .val (.int (0 : Int32)), .val (.ref wB), .val (.ref wA), .val (.ref wA), .unset, .unset, .unset, .unset]) rfl k) ?_
    refine Go.by (T' := T17) (f' := (mkF m 47 #[.val (.int p1), .val (.int (0 : Int32)), .val (.ref wB), .val (.ref wA), .val (.ref wA), .unset, .unset, .unset, .unset] [(.ref wA)])) (fun _ k => XS.aloadN X17.here hx rfl (hb hby at_46) rfl rfl k) ?_
    obtain ⟨cq18, kq18, q18a, q18b, q18c⟩ := isOf hZ e17 E_A
    obtain ⟨v18, _, ⟨T18, L18, k18, n18⟩, -, X18, ⟨Lc18, hQ18, l18, y18, z18⟩, st18⟩ := X17.virtualBack hx (y := (⟨"com/example/swapdeck/swapdeck/collateral/Party", "other", "()Lcom/example/swapdeck/swapdeck/collateral/Party;"⟩ : MethodName)) (z := (⟨"com/example/swapdeck/swapdeck/collateral/Party", "other", "()Lcom/example/swapdeck/swapdeck/collateral/Party;"⟩ : MethodName)) hown (mvT hZ (hw _ (List.mem_of_getElem? (i := 5) rfl))) (mvT hZ (hw _ (List.mem_of_getElem? (i := 6) rfl))) (notFace_of_selects (args := #[]) (mvT hZ (hw _ (List.mem_of_getElem? (i := 8) rfl)))) (mvT hZ (hw _ (List.mem_of_getElem? (i := 8) rfl))) (mvT hZ (hw _ (List.mem_of_getElem? (i := 7) rfl))) (by decide) (backOf (W := 0) (rm_owA l Z a0 hw [] wA wB hS h0 n0 O) hZ (hw _ (List.mem_of_getElem? (i := 9) rfl)) (hw _ (List.mem_of_getElem? (i := 1) rfl)) (by decide) (by decide)) q18a q18c (g := (mkF m 47 #[.val (.int p1), .val (.int (0 : Int32)), .val (.ref wB), .val (.ref wA), .val (.ref wA), .unset, .unset, .unset, .unset] [(.ref wA)])) rfl (by rw [hml]; rfl) (Steps.refl _) (argsL := []) (rest := []) (lenOf pd_rm1_0 rfl) rfl (by show 2 * 0 + _ ≤ _; exact Nat.le_of_eq rfl) (hb hby at_47) (fun _ _ => ⟨rfl, e17, (by decide : 0 + 0 ≤ _), (by decide : 0 + 0 ≤ _)⟩)
    dsimp only [Pt.U, Pt.locs, Pt.cells, Pt.slots] at X18 l18 y18 z18 st18 hQ18
    subst l18 y18 z18
    obtain ⟨rfl, Nq18, e18⟩ := hQ18
    replace N := Fr.app N Nq18
    refine Go.by (T' := T18) (f' := (mkF m 50 #[.val (.int p1), .val (.int (0 : Int32)), .val (.ref wB), .val (.ref wA), .val (.ref wA), .unset, .unset, .unset, .unset] [(.ref wB)])) (fun _ k => st18.trans k) ?_
    refine Go.by (T' := T18) (f' := (mkF m 52 #[.val (.int p1), .val (.int (0 : Int32)), .val (.ref wB), .val (.ref wA), .val (.ref wA), .val (.ref wB), .unset, .unset, .unset] [])) (fun _ k => XS.astore X18.here hx rfl (hb hby at_50) rfl rfl (l' := #[.val (.int p1), .val (.int (0 : Int32)), .val (.ref wB), .val (.ref wA), .val (.ref wA), .val (.ref wB), .unset, .unset, .unset]) rfl k) ?_
    refine Go.by (T' := T18) (f' := (mkF m 54 #[.val (.int p1), .val (.int (0 : Int32)), .val (.ref wB), .val (.ref wA), .val (.ref wA), .val (.ref wB), .unset, .unset, .unset] [(.ref wA)])) (fun _ k => XS.aload X18.here hx rfl (hb hby at_52) rfl rfl k) ?_
    refine Go.by (T' := T18) (f' := (mkF m 55 #[.val (.int p1), .val (.int (0 : Int32)), .val (.ref wB), .val (.ref wA), .val (.ref wA), .val (.ref wB), .unset, .unset, .unset] [(.ref wB), (.ref wA)])) (fun _ k => XS.aloadN X18.here hx rfl (hb hby at_54) rfl rfl k) ?_
    refine Go.by (T' := T18) (f' := (mkF m 58 #[.val (.int p1), .val (.int (0 : Int32)), .val (.ref wB), .val (.ref wA), .val (.ref wA), .val (.ref wB), .unset, .unset, .unset] [])) (fun _ k => Jvm.RoadKit.acmp (g := (mkF m 55 #[.val (.int p1), .val (.int (0 : Int32)), .val (.ref wB), .val (.ref wA), .val (.ref wA), .val (.ref wB), .unset, .unset, .unset] [(.ref wB), (.ref wA)])) X18 hx rfl rfl rfl (pc0 := 55) (pc' := 58) (same := false) rfl (hb hby at_55) rfl (decide_eq_false fun q => hS.2.2.2.2 (Value.ref.inj q)) (by decide) (by decide) k) ?_
    refine Go.by (T' := T18) (f' := (mkF m 60 #[.val (.int p1), .val (.int (0 : Int32)), .val (.ref wB), .val (.ref wA), .val (.ref wA), .val (.ref wB), .unset, .unset, .unset] [(.ref wB)])) (fun _ k => XS.aload X18.here hx rfl (hb hby at_58) rfl rfl k) ?_
    refine Go.by (T' := T18) (f' := (mkF m 61 #[.val (.int p1), .val (.int (0 : Int32)), .val (.ref wB), .val (.ref wA), .val (.ref wA), .val (.ref wB), .unset, .unset, .unset] [(.ref wA), (.ref wB)])) (fun _ k => XS.aloadN X18.here hx rfl (hb hby at_60) rfl rfl k) ?_
    refine Go.by (T' := T18) (f' := (mkF m 64 #[.val (.int p1), .val (.int (0 : Int32)), .val (.ref wB), .val (.ref wA), .val (.ref wA), .val (.ref wB), .unset, .unset, .unset] [])) (fun _ k => Jvm.RoadKit.acmp (g := (mkF m 61 #[.val (.int p1), .val (.int (0 : Int32)), .val (.ref wB), .val (.ref wA), .val (.ref wA), .val (.ref wB), .unset, .unset, .unset] [(.ref wA), (.ref wB)])) X18 hx rfl rfl rfl (pc0 := 61) (pc' := 64) (same := false) rfl (hb hby at_61) rfl (decide_eq_false fun q => (Ne.symm hS.2.2.2.2) (Value.ref.inj q)) (by decide) (by decide) k) ?_
    refine Go.by (T' := T18) (f' := (mkF m 65 #[.val (.int p1), .val (.int (0 : Int32)), .val (.ref wB), .val (.ref wA), .val (.ref wA), .val (.ref wB), .unset, .unset, .unset] [(.int (1 : Int32))])) (fun _ k => XS.iconst X18.here hx rfl (hb hby at_64) k) ?_
    refine Go.by (T' := T18) (f' := (mkF m 69 #[.val (.int p1), .val (.int (0 : Int32)), .val (.ref wB), .val (.ref wA), .val (.ref wA), .val (.ref wB), .unset, .unset, .unset] [(.int (1 : Int32))])) (fun _ k => XS.goto X18.here hx rfl (pc0 := 65) (pc' := 69) rfl (hb hby at_65) (by decide) (by decide) k) ?_
    refine Go.by (T' := T18) (f' := (mkF m 71 #[.val (.int p1), .val (.int (0 : Int32)), .val (.ref wB), .val (.ref wA), .val (.ref wA), .val (.ref wB), .val (.int (1 : Int32)), .unset, .unset] [])) (fun _ k => XS.istore X18.here hx rfl (hb hby at_69) rfl (l' := #[.val (.int p1), .val (.int (0 : Int32)), .val (.ref wB), .val (.ref wA), .val (.ref wA), .val (.ref wB), .val (.int (1 : Int32)), .unset, .unset]) rfl k) ?_
    refine Go.by (T' := T18) (f' := (mkF m 73 #[.val (.int p1), .val (.int (0 : Int32)), .val (.ref wB), .val (.ref wA), .val (.ref wA), .val (.ref wB), .val (.int (1 : Int32)), .unset, .unset] [(.ref wA)])) (fun _ k => XS.aload X18.here hx rfl (hb hby at_71) rfl rfl k) ?_
    obtain ⟨cq19, kq19, q19a, q19b, q19c⟩ := isOf hZ e18 E_A
    obtain ⟨v19, _, ⟨T19, L19, k19, n19⟩, -, X19, ⟨Lc19, hQ19, l19, y19, z19⟩, st19⟩ := X18.virtualBack hx (y := (⟨"com/example/swapdeck/swapdeck/collateral/Party", "other", "()Lcom/example/swapdeck/swapdeck/collateral/Party;"⟩ : MethodName)) (z := (⟨"com/example/swapdeck/swapdeck/collateral/Party", "other", "()Lcom/example/swapdeck/swapdeck/collateral/Party;"⟩ : MethodName)) hown (mvT hZ (hw _ (List.mem_of_getElem? (i := 5) rfl))) (mvT hZ (hw _ (List.mem_of_getElem? (i := 6) rfl))) (notFace_of_selects (args := #[]) (mvT hZ (hw _ (List.mem_of_getElem? (i := 8) rfl)))) (mvT hZ (hw _ (List.mem_of_getElem? (i := 8) rfl))) (mvT hZ (hw _ (List.mem_of_getElem? (i := 7) rfl))) (by decide) (backOf (W := 0) (rm_owA l Z a0 hw [] wA wB hS h0 n0 O) hZ (hw _ (List.mem_of_getElem? (i := 9) rfl)) (hw _ (List.mem_of_getElem? (i := 1) rfl)) (by decide) (by decide)) q19a q19c (g := (mkF m 73 #[.val (.int p1), .val (.int (0 : Int32)), .val (.ref wB), .val (.ref wA), .val (.ref wA), .val (.ref wB), .val (.int (1 : Int32)), .unset, .unset] [(.ref wA)])) rfl (by rw [hml]; rfl) (Steps.refl _) (argsL := []) (rest := []) (lenOf pd_rm1_0 rfl) rfl (by show 2 * 0 + _ ≤ _; exact Nat.le_of_eq rfl) (hb hby at_73) (fun _ _ => ⟨rfl, e18, (by decide : 0 + 0 ≤ _), (by decide : 0 + 0 ≤ _)⟩)
    dsimp only [Pt.U, Pt.locs, Pt.cells, Pt.slots] at X19 l19 y19 z19 st19 hQ19
    subst l19 y19 z19
    obtain ⟨rfl, Nq19, e19⟩ := hQ19
    replace N := Fr.app N Nq19
    refine Go.by (T' := T19) (f' := (mkF m 76 #[.val (.int p1), .val (.int (0 : Int32)), .val (.ref wB), .val (.ref wA), .val (.ref wA), .val (.ref wB), .val (.int (1 : Int32)), .unset, .unset] [(.ref wB)])) (fun _ k => st19.trans k) ?_
    refine Go.by (T' := T19) (f' := (mkF m 77 #[.val (.int p1), .val (.int (0 : Int32)), .val (.ref wB), .val (.ref wA), .val (.ref wA), .val (.ref wB), .val (.int (1 : Int32)), .unset, .unset] [(.ref wB), (.ref wB)])) (fun _ k => XS.aloadN X19.here hx rfl (hb hby at_76) rfl rfl k) ?_
    refine Go.by (T' := T19) (f' := (mkF m 80 #[.val (.int p1), .val (.int (0 : Int32)), .val (.ref wB), .val (.ref wA), .val (.ref wA), .val (.ref wB), .val (.int (1 : Int32)), .unset, .unset] [])) (fun _ k => Jvm.RoadKit.acmp (g := (mkF m 77 #[.val (.int p1), .val (.int (0 : Int32)), .val (.ref wB), .val (.ref wA), .val (.ref wA), .val (.ref wB), .val (.int (1 : Int32)), .unset, .unset] [(.ref wB), (.ref wB)])) X19 hx rfl rfl rfl (pc0 := 77) (pc' := 80) (same := true) rfl (hb hby at_77) rfl (decide_eq_true rfl) (by decide) (by decide) k) ?_
    refine Go.by (T' := T19) (f' := (mkF m 82 #[.val (.int p1), .val (.int (0 : Int32)), .val (.ref wB), .val (.ref wA), .val (.ref wA), .val (.ref wB), .val (.int (1 : Int32)), .unset, .unset] [(.ref wB)])) (fun _ k => XS.aload X19.here hx rfl (hb hby at_80) rfl rfl k) ?_
    obtain ⟨cq20, kq20, q20a, q20b, q20c⟩ := isOf hZ e19 E_B
    obtain ⟨v20, _, ⟨T20, L20, k20, n20⟩, -, X20, ⟨Lc20, hQ20, l20, y20, z20⟩, st20⟩ := X19.virtualBack hx (y := (⟨"com/example/swapdeck/swapdeck/collateral/Party", "other", "()Lcom/example/swapdeck/swapdeck/collateral/Party;"⟩ : MethodName)) (z := (⟨"com/example/swapdeck/swapdeck/collateral/Party", "other", "()Lcom/example/swapdeck/swapdeck/collateral/Party;"⟩ : MethodName)) hown (mvT hZ (hw _ (List.mem_of_getElem? (i := 5) rfl))) (mvT hZ (hw _ (List.mem_of_getElem? (i := 6) rfl))) (notFace_of_selects (args := #[]) (mvT hZ (hw _ (List.mem_of_getElem? (i := 8) rfl)))) (mvT hZ (hw _ (List.mem_of_getElem? (i := 8) rfl))) (mvT hZ (hw _ (List.mem_of_getElem? (i := 7) rfl))) (by decide) (backOf (W := 0) (rm_owB l Z a0 hw [] wA wB hS h0 n0 O) hZ (hw _ (List.mem_of_getElem? (i := 9) rfl)) (hw _ (List.mem_of_getElem? (i := 1) rfl)) (by decide) (by decide)) q20a q20c (g := (mkF m 82 #[.val (.int p1), .val (.int (0 : Int32)), .val (.ref wB), .val (.ref wA), .val (.ref wA), .val (.ref wB), .val (.int (1 : Int32)), .unset, .unset] [(.ref wB)])) rfl (by rw [hml]; rfl) (Steps.refl _) (argsL := []) (rest := []) (lenOf pd_rm1_0 rfl) rfl (by show 2 * 0 + _ ≤ _; exact Nat.le_of_eq rfl) (hb hby at_82) (fun _ _ => ⟨rfl, e19, (by decide : 0 + 0 ≤ _), (by decide : 0 + 0 ≤ _)⟩)
    dsimp only [Pt.U, Pt.locs, Pt.cells, Pt.slots] at X20 l20 y20 z20 st20 hQ20
    subst l20 y20 z20
    obtain ⟨rfl, Nq20, e20⟩ := hQ20
    replace N := Fr.app N Nq20
    refine Go.by (T' := T20) (f' := (mkF m 85 #[.val (.int p1), .val (.int (0 : Int32)), .val (.ref wB), .val (.ref wA), .val (.ref wA), .val (.ref wB), .val (.int (1 : Int32)), .unset, .unset] [(.ref wA)])) (fun _ k => st20.trans k) ?_
    refine Go.by (T' := T20) (f' := (mkF m 86 #[.val (.int p1), .val (.int (0 : Int32)), .val (.ref wB), .val (.ref wA), .val (.ref wA), .val (.ref wB), .val (.int (1 : Int32)), .unset, .unset] [(.ref wA), (.ref wA)])) (fun _ k => XS.aloadN X20.here hx rfl (hb hby at_85) rfl rfl k) ?_
    refine Go.by (T' := T20) (f' := (mkF m 89 #[.val (.int p1), .val (.int (0 : Int32)), .val (.ref wB), .val (.ref wA), .val (.ref wA), .val (.ref wB), .val (.int (1 : Int32)), .unset, .unset] [])) (fun _ k => Jvm.RoadKit.acmp (g := (mkF m 86 #[.val (.int p1), .val (.int (0 : Int32)), .val (.ref wB), .val (.ref wA), .val (.ref wA), .val (.ref wB), .val (.int (1 : Int32)), .unset, .unset] [(.ref wA), (.ref wA)])) X20 hx rfl rfl rfl (pc0 := 86) (pc' := 89) (same := true) rfl (hb hby at_86) rfl (decide_eq_true rfl) (by decide) (by decide) k) ?_
    refine Go.by (T' := T20) (f' := (mkF m 90 #[.val (.int p1), .val (.int (0 : Int32)), .val (.ref wB), .val (.ref wA), .val (.ref wA), .val (.ref wB), .val (.int (1 : Int32)), .unset, .unset] [(.int (1 : Int32))])) (fun _ k => XS.iconst X20.here hx rfl (hb hby at_89) k) ?_
    refine Go.by (T' := T20) (f' := (mkF m 94 #[.val (.int p1), .val (.int (0 : Int32)), .val (.ref wB), .val (.ref wA), .val (.ref wA), .val (.ref wB), .val (.int (1 : Int32)), .unset, .unset] [(.int (1 : Int32))])) (fun _ k => XS.goto X20.here hx rfl (pc0 := 90) (pc' := 94) rfl (hb hby at_90) (by decide) (by decide) k) ?_
    refine Go.by (T' := T20) (f' := (mkF m 96 #[.val (.int p1), .val (.int (0 : Int32)), .val (.ref wB), .val (.ref wA), .val (.ref wA), .val (.ref wB), .val (.int (1 : Int32)), .val (.int (1 : Int32)), .unset] [])) (fun _ k => XS.istore X20.here hx rfl (hb hby at_94) rfl (l' := #[.val (.int p1), .val (.int (0 : Int32)), .val (.ref wB), .val (.ref wA), .val (.ref wA), .val (.ref wB), .val (.int (1 : Int32)), .val (.int (1 : Int32)), .unset]) rfl k) ?_
    refine Go.by (T' := T20) (f' := (mkF m 98 #[.val (.int p1), .val (.int (0 : Int32)), .val (.ref wB), .val (.ref wA), .val (.ref wA), .val (.ref wB), .val (.int (1 : Int32)), .val (.int (1 : Int32)), .unset] [(.ref wA)])) (fun _ k => XS.aload X20.here hx rfl (hb hby at_96) rfl rfl k) ?_
    refine Go.by (T' := T20) (f' := (mkF m 99 #[.val (.int p1), .val (.int (0 : Int32)), .val (.ref wB), .val (.ref wA), .val (.ref wA), .val (.ref wB), .val (.int (1 : Int32)), .val (.int (1 : Int32)), .unset] [(.ref wA), (.ref wA)])) (fun _ k => XS.aloadN X20.here hx rfl (hb hby at_98) rfl rfl k) ?_
    refine Go.by (T' := T20) (f' := (mkF m 102 #[.val (.int p1), .val (.int (0 : Int32)), .val (.ref wB), .val (.ref wA), .val (.ref wA), .val (.ref wB), .val (.int (1 : Int32)), .val (.int (1 : Int32)), .unset] [])) (fun _ k => Jvm.RoadKit.acmp (g := (mkF m 99 #[.val (.int p1), .val (.int (0 : Int32)), .val (.ref wB), .val (.ref wA), .val (.ref wA), .val (.ref wB), .val (.int (1 : Int32)), .val (.int (1 : Int32)), .unset] [(.ref wA), (.ref wA)])) X20 hx rfl rfl rfl (pc0 := 99) (pc' := 102) (same := true) rfl (hb hby at_99) rfl (decide_eq_true rfl) (by decide) (by decide) k) ?_
    refine Go.by (T' := T20) (f' := (mkF m 104 #[.val (.int p1), .val (.int (0 : Int32)), .val (.ref wB), .val (.ref wA), .val (.ref wA), .val (.ref wB), .val (.int (1 : Int32)), .val (.int (1 : Int32)), .unset] [(.ref wB)])) (fun _ k => XS.aload X20.here hx rfl (hb hby at_102) rfl rfl k) ?_
    refine Go.by (T' := T20) (f' := (mkF m 105 #[.val (.int p1), .val (.int (0 : Int32)), .val (.ref wB), .val (.ref wA), .val (.ref wA), .val (.ref wB), .val (.int (1 : Int32)), .val (.int (1 : Int32)), .unset] [(.ref wB), (.ref wB)])) (fun _ k => XS.aloadN X20.here hx rfl (hb hby at_104) rfl rfl k) ?_
    refine Go.by (T' := T20) (f' := (mkF m 108 #[.val (.int p1), .val (.int (0 : Int32)), .val (.ref wB), .val (.ref wA), .val (.ref wA), .val (.ref wB), .val (.int (1 : Int32)), .val (.int (1 : Int32)), .unset] [])) (fun _ k => Jvm.RoadKit.acmp (g := (mkF m 105 #[.val (.int p1), .val (.int (0 : Int32)), .val (.ref wB), .val (.ref wA), .val (.ref wA), .val (.ref wB), .val (.int (1 : Int32)), .val (.int (1 : Int32)), .unset] [(.ref wB), (.ref wB)])) X20 hx rfl rfl rfl (pc0 := 105) (pc' := 108) (same := true) rfl (hb hby at_105) rfl (decide_eq_true rfl) (by decide) (by decide) k) ?_
    refine Go.by (T' := T20) (f' := (mkF m 109 #[.val (.int p1), .val (.int (0 : Int32)), .val (.ref wB), .val (.ref wA), .val (.ref wA), .val (.ref wB), .val (.int (1 : Int32)), .val (.int (1 : Int32)), .unset] [(.int (1 : Int32))])) (fun _ k => XS.iconst X20.here hx rfl (hb hby at_108) k) ?_
    refine Go.by (T' := T20) (f' := (mkF m 113 #[.val (.int p1), .val (.int (0 : Int32)), .val (.ref wB), .val (.ref wA), .val (.ref wA), .val (.ref wB), .val (.int (1 : Int32)), .val (.int (1 : Int32)), .unset] [(.int (1 : Int32))])) (fun _ k => XS.goto X20.here hx rfl (pc0 := 109) (pc' := 113) rfl (hb hby at_109) (by decide) (by decide) k) ?_
    refine Go.by (T' := T20) (f' := (mkF m 115 #[.val (.int p1), .val (.int (0 : Int32)), .val (.ref wB), .val (.ref wA), .val (.ref wA), .val (.ref wB), .val (.int (1 : Int32)), .val (.int (1 : Int32)), .val (.int (1 : Int32))] [])) (fun _ k => XS.istore X20.here hx rfl (hb hby at_113) rfl (l' := #[.val (.int p1), .val (.int (0 : Int32)), .val (.ref wB), .val (.ref wA), .val (.ref wA), .val (.ref wB), .val (.int (1 : Int32)), .val (.int (1 : Int32)), .val (.int (1 : Int32))]) rfl k) ?_
    refine Go.by (T' := T20) (f' := (mkF m 117 #[.val (.int p1), .val (.int (0 : Int32)), .val (.ref wB), .val (.ref wA), .val (.ref wA), .val (.ref wB), .val (.int (1 : Int32)), .val (.int (1 : Int32)), .val (.int (1 : Int32))] [(.int (1 : Int32))])) (fun _ k => XS.iload X20.here hx rfl (hb hby at_115) rfl k) ?_
    refine Go.by (T' := T20) (f' := (mkF m 120 #[.val (.int p1), .val (.int (0 : Int32)), .val (.ref wB), .val (.ref wA), .val (.ref wA), .val (.ref wB), .val (.int (1 : Int32)), .val (.int (1 : Int32)), .val (.int (1 : Int32))] [])) (fun _ k => XS.ifNo X20.here hx rfl (hb hby at_117) rfl ((if0 _ _).trans (feq (by decide : ¬ ((1 : Int32) = (0 : Int32)))).1) k) ?_
    refine Go.by (T' := T20) (f' := (mkF m 122 #[.val (.int p1), .val (.int (0 : Int32)), .val (.ref wB), .val (.ref wA), .val (.ref wA), .val (.ref wB), .val (.int (1 : Int32)), .val (.int (1 : Int32)), .val (.int (1 : Int32))] [(.int (1 : Int32))])) (fun _ k => XS.iload X20.here hx rfl (hb hby at_120) rfl k) ?_
    refine Go.by (T' := T20) (f' := (mkF m 125 #[.val (.int p1), .val (.int (0 : Int32)), .val (.ref wB), .val (.ref wA), .val (.ref wA), .val (.ref wB), .val (.int (1 : Int32)), .val (.int (1 : Int32)), .val (.int (1 : Int32))] [])) (fun _ k => XS.ifNo X20.here hx rfl (hb hby at_122) rfl ((if0 _ _).trans (feq (by decide : ¬ ((1 : Int32) = (0 : Int32)))).1) k) ?_
    refine Go.by (T' := T20) (f' := (mkF m 127 #[.val (.int p1), .val (.int (0 : Int32)), .val (.ref wB), .val (.ref wA), .val (.ref wA), .val (.ref wB), .val (.int (1 : Int32)), .val (.int (1 : Int32)), .val (.int (1 : Int32))] [(.int (1 : Int32))])) (fun _ k => XS.iload X20.here hx rfl (hb hby at_125) rfl k) ?_
    refine Go.by (T' := T20) (f' := (mkF m 130 #[.val (.int p1), .val (.int (0 : Int32)), .val (.ref wB), .val (.ref wA), .val (.ref wA), .val (.ref wB), .val (.int (1 : Int32)), .val (.int (1 : Int32)), .val (.int (1 : Int32))] [])) (fun _ k => XS.ifNo X20.here hx rfl (hb hby at_127) rfl ((if0 _ _).trans (feq (by decide : ¬ ((1 : Int32) = (0 : Int32)))).1) k) ?_
    refine Go.by (T' := T20) (f' := (mkF m 131 #[.val (.int p1), .val (.int (0 : Int32)), .val (.ref wB), .val (.ref wA), .val (.ref wA), .val (.ref wB), .val (.int (1 : Int32)), .val (.int (1 : Int32)), .val (.int (1 : Int32))] [(.int (1 : Int32))])) (fun _ k => XS.iconst X20.here hx rfl (hb hby at_130) k) ?_
    refine Go.by (T' := T20) (f' := (mkF m 135 #[.val (.int p1), .val (.int (0 : Int32)), .val (.ref wB), .val (.ref wA), .val (.ref wA), .val (.ref wB), .val (.int (1 : Int32)), .val (.int (1 : Int32)), .val (.int (1 : Int32))] [(.int (1 : Int32))])) (fun _ k => XS.goto X20.here hx rfl (pc0 := 131) (pc' := 135) rfl (hb hby at_131) (by decide) (by decide) k) ?_
    obtain ⟨fs, hr, hrun, hended, hW, hsame⟩ := X20.leave (v := some (.int (1 : Int32))) (fun h => by rw [Bd.returns] at h; cases h)
    refine ⟨_, _, retN X20 hx (t := .boolean) Bd.returns (by simp) (hb hby at_135) hr, hrun, hended, _, _, rfl, ?_, ⟨_, rfl⟩, hW, hsame.mono (by decide) (by decide)⟩
    show Q1 n0 (some (.int (1 : Int32))) T20.heap _
    rw [e20]
    exact ⟨rfl, N⟩

set_option maxRecDepth 65536 in
set_option maxHeartbeats 40000000 in
theorem comes_1 {Post : Tables → Env → Array Value → State → Outcome → State → Prop} (hpost : ∀ tb e args s v u, (limb_1_1.after args s (.returned v) u = true ∧ limb_1_2.after args s (.returned v) u = true ∧ True) → FrameEnd s (.returned v) u (Jvm.fieldLocs frame_1_writes args s ++ Jvm.arrayLocs frame_1_arrays args s ++ Jvm.staticLocs frame_1_statics s) 0 0 → Post tb e args s (.returned v) u) :
    ArmFor flags0 classFile x code maxLocals ret World_1 tables_1 room_1 Calls_1 rest_1 Pre_1 Post := by
  intro l hfl _ _ p e ha hc hk s m args below hf hA hF happ hP
  obtain ⟨hcalls, hrest, hpre⟩ := hP
  obtain ⟨-, -, -, hnamed, -, -, -, hat⟩ := (Spec.applies_iff hf).mp happ
  obtain ⟨hg, hn⟩ := and_e (Cond.before_iff.mp (show (Jvm.Cond.and given_1 narrow_1).before args s = true from hpre))
  obtain ⟨hcount, hg⟩ := and_e hg
  obtain ⟨w0, rfl⟩ : ∃ w0 : Value, args = #[w0] := by
    have hs : args.size = 1 := by simpa [Cond.value, given_1] using hcount
    obtain ⟨L⟩ := args
    match L, hs with
    | [w0], _ => exact ⟨w0, rfl⟩
  have hw := fun d (hd : d ∈ tables_1) => atoms_spec (ws := Jvm.Cond.code x code maxLocals ret :: tables_1) hat d (List.mem_cons_of_mem _ hd)
  have hfit : Fit s := fun {y c} hc i hi => by
    obtain ⟨ha, rfl⟩ := Array.getElem?_eq_some_iff.mp hc
    have q := List.all_eq_true.mp ((Array.all_eq_true_iff_forall_mem.mp hF) _ (Array.getElem_mem ha)) i (List.mem_range.mpr hi)
    simpa [Array.getElem?_eq_getElem hi] using q
  have hg0 := hg
  obtain ⟨i0, ei0⟩ := is_v hg0
  obtain rfl : w0 = (.int i0) := Option.some.inj ei0
  obtain ⟨nA, hn⟩ := and_e hn
  obtain ⟨nB, hn⟩ := and_e hn
  obtain ⟨oB, oA⟩ := and_e hn
  obtain ⟨wA, eA⟩ := exa_v nA
  obtain ⟨wB, eB⟩ := exa_v nB
  have hS : Sf s wA wB := ⟨Sta.start eA (Or.inr ⟨(hw _ (List.mem_of_getElem? (i := 1) rfl)), (hw _ (List.mem_of_getElem? (i := 2) rfl))⟩), Sta.start eB (Or.inr ⟨(hw _ (List.mem_of_getElem? (i := 1) rfl)), (hw _ (List.mem_of_getElem? (i := 4) rfl))⟩), Exa.start eA nA, Exa.start eB nB, Fld.ne (ord_fld oA eA) (ord_fld oB eB) (by decide)⟩
  obtain ⟨n, o, h1, h2, h3, _, L, rfl, ⟨rfl, N⟩, hq⟩ := rm1 l s _ hw tables_1 i0 wA wB hS s.heap s.heap.size (Old.start s) p e ha hc hk s m _ below hf ((Spec.applies_iff_loose hf).mp happ).1 ⟨rfl, State.Warmed39.refl s, rfl⟩ trivial
  refine ⟨n, _, h1, h2, h3, hpost _ _ _ _ _ _ ⟨Cond.after_iff.mpr rfl, Cond.after_iff.mpr (eq_i res_at (Term.int_eval (1)) rfl), trivial⟩ ⟨hq.1, hq.2.1, (hq.2.2.sift fun y hy => Or.inr (N y hy)).mono (by decide) (by decide)⟩⟩
theorem main_1_1 : Claimed_1_1 := comes_1 fun _ _ _ _ _ _ h hF => ⟨h.1, hF⟩
theorem main_1_2 : Claimed_1_2 := comes_1 fun _ _ _ _ _ _ h hF => ⟨h.2.1, hF⟩
end Jvm.Pilot.@@N@@
namespace Jvm.Pilot.@@N@@
open Jvm Jvm.ClassFile Sem Op Lib Jvm.Free Jvm.Stand Jvm.Pilot.@@N@@.Jvm.D
/-! MADE BY PROGRAM (witnessworld.py) out of the Statement's table words and the real class files: 12 classes; the members and pool entries that the words name. The judged class is class 1, her method 1. -/
namespace start1
open Jvm.ClassFile
def u (s : String) : CpInfo := .utf8 (stringToUtf16 s)
/-- a pool by its gaps: so many unusable entries, then the entry; so many at the end -/
def gap : Nat → List CpInfo → List CpInfo
  | 0, r => r
  | n + 1, r => .unusable :: gap n r
def poolList (es : List (Nat × CpInfo)) (last : Nat) : List CpInfo := es.foldr (fun e r => gap e.1 (e.2 :: r)) (gap last [])
def pool (es : List (Nat × CpInfo)) (last : Nat) : Array CpInfo := ⟨poolList es last⟩
def fileOf (pool : Array CpInfo) (this : Nat) (attrs : Array Attribute := #[]) (ms : Array MethodInfo := #[]) (fl : Nat := 33) (sup : Nat := 0) (ifs : Array Nat := #[]) (fds : Array FieldInfo := #[]) : ClassFile where
  minorVersion := 0
  majorVersion := 65
  constantPool := pool
  accessFlags := fl
  thisClass := this
  superClass := sup
  interfaces := ifs
  fields := fds
  methods := ms
  attributes := attrs
def plain (name : String) (sup : Option ClassId) : Class where
  name := name
  kind := .ordinary
  loader := none
  accessFlags := 33
  super := sup
  interfaces := #[]
  cf := none
  fields := #[]
  methods := #[]
  instanceTypes := #[]
  staticTypes := #[]
  resolved := #[]
  callSites := []
  init := .initialized
  statics := none
  mirror := none

def pool0 : Array CpInfo := pool [(5, u "<init>"), (0, u "()V"), (1, .class_ 10), (1, u "java/lang/Object")] 113

def k0m0 : Method := { name := "<init>", desc := "()V", sig := { parameters := [], returnType := none }, accessFlags := 1, code := none }
/-- java/lang/Object -/
def k0 : Class := { plain "java/lang/Object" none with
  accessFlags := 33
  interfaces := #[]
  cf := some (fileOf pool0 8 #[] #[{ accessFlags := 1, nameIndex := 5, descriptorIndex := 6, attributes := #[] }] 33 0 #[] #[])
  fields := #[]
  methods := #[k0m0]
  instanceTypes := #[]
  staticTypes := #[]
  resolved := Array.replicate 124 none
  statics := none }

def pool1 : Array CpInfo := pool [(2, .class_ 4), (1, u "java/lang/Object"), (0, u "<init>"), (0, u "()V"), (0, .fieldref 8 9), (0, .class_ 10), (0, .nameAndType 11 12), (0, u "com/example/swapdeck/swapdeck/collateral/Party"), (0, u "A"), (0, u "Lcom/example/swapdeck/swapdeck/collateral/Party;"), (0, .fieldref 8 14), (0, .nameAndType 15 12), (0, u "B"), (0, .methodref 8 17), (0, .nameAndType 18 19), (0, u "other"), (0, u "()Lcom/example/swapdeck/swapdeck/collateral/Party;"), (0, .class_ 21), (0, u "com/example/swapdeck/swapdeck/collateral/PartyOtherPinLaw"), (2, u "law"), (0, u "(I)Z")] 3

def k1m0 : Method := { name := "<init>", desc := "()V", sig := { parameters := [], returnType := none }, accessFlags := 2, code := none }
def k1c1 : Code := { maxStack := 2, maxLocals := 9, code := code, exceptionTable := #[], attributes := #[] }
def k1m1 : Method := { name := "law", desc := "(I)Z", sig := { parameters := [.int], returnType := some .boolean }, accessFlags := 9, code := some k1c1 }
/-- com/example/swapdeck/swapdeck/collateral/PartyOtherPinLaw -/
def k1 : Class := { plain "com/example/swapdeck/swapdeck/collateral/PartyOtherPinLaw" (some 0) with
  accessFlags := 49
  interfaces := #[]
  cf := some (fileOf pool1 20 #[] #[{ accessFlags := 2, nameIndex := 5, descriptorIndex := 6, attributes := #[] }, { accessFlags := 9, nameIndex := 24, descriptorIndex := 25, attributes := #[] }] 49 2 #[] #[])
  fields := #[]
  methods := #[k1m0, k1m1]
  instanceTypes := #[]
  staticTypes := #[]
  resolved := Array.replicate 29 none
  statics := none }

def pool2 : Array CpInfo := pool [(1, .class_ 2), (0, u "java/lang/constant/Constable"), (0, .class_ 4), (0, u "java/lang/Object")] 6

/-- java/lang/constant/Constable -/
def k2 : Class := { plain "java/lang/constant/Constable" (some 0) with
  accessFlags := 1537
  interfaces := #[]
  cf := some (fileOf pool2 1 #[] #[] 1537 3 #[] #[])
  fields := #[]
  methods := #[]
  instanceTypes := #[]
  staticTypes := #[]
  resolved := Array.replicate 11 none
  statics := none }

def pool3 : Array CpInfo := pool [(1, .class_ 2), (0, u "java/lang/Comparable"), (0, .class_ 4), (0, u "java/lang/Object")] 7

/-- java/lang/Comparable -/
def k3 : Class := { plain "java/lang/Comparable" (some 0) with
  accessFlags := 1537
  interfaces := #[]
  cf := some (fileOf pool3 1 #[] #[] 1537 3 #[] #[])
  fields := #[]
  methods := #[]
  instanceTypes := #[]
  staticTypes := #[]
  resolved := Array.replicate 12 none
  statics := none }

def pool4 : Array CpInfo := pool [(1, .class_ 2), (0, u "java/io/Serializable"), (0, .class_ 4), (0, u "java/lang/Object")] 2

/-- java/io/Serializable -/
def k4 : Class := { plain "java/io/Serializable" (some 0) with
  accessFlags := 1537
  interfaces := #[]
  cf := some (fileOf pool4 1 #[] #[] 1537 3 #[] #[])
  fields := #[]
  methods := #[]
  instanceTypes := #[]
  staticTypes := #[]
  resolved := Array.replicate 7 none
  statics := none }

def pool5 : Array CpInfo := pool [(2, .class_ 4), (1, u "java/lang/Enum"), (0, u "name"), (0, u "Ljava/lang/String;"), (2, u "ordinal"), (0, u "I"), (1, .class_ 14), (1, u "java/lang/Object"), (4, u "hash"), (86, .class_ 108), (1, u "java/lang/Enum$EnumDesc"), (2, .class_ 112), (0, u "java/lang/constant/Constable"), (0, .class_ 114), (0, u "java/lang/Comparable"), (0, .class_ 116), (0, u "java/io/Serializable")] 87

/-- java/lang/Enum -/
def k5 : Class := { plain "java/lang/Enum" (some 0) with
  accessFlags := 1057
  interfaces := #[2, 3, 4]
  cf := some (fileOf pool5 2 #[.nestMembers #[106]] #[] 1057 12 #[111, 113, 115] #[{ accessFlags := 18, nameIndex := 5, descriptorIndex := 6, attributes := #[] }, { accessFlags := 18, nameIndex := 9, descriptorIndex := 10, attributes := #[] }, { accessFlags := 2, nameIndex := 19, descriptorIndex := 10, attributes := #[] }])
  fields := #[{ name := "name", type := (.object "java/lang/String"), accessFlags := 18, slot := 0, constantValue := 0 }, { name := "ordinal", type := .int, accessFlags := 18, slot := 1, constantValue := 0 }, { name := "hash", type := .int, accessFlags := 2, slot := 2, constantValue := 0 }]
  methods := #[]
  instanceTypes := #[(.object "java/lang/String"), .int, .int]
  staticTypes := #[]
  resolved := Array.replicate 204 none
  statics := none }

def pool6 : Array CpInfo := pool [(1, .class_ 2), (0, u "com/example/swapdeck/swapdeck/collateral/Party"), (0, .fieldref 1 4), (0, .nameAndType 5 6), (0, u "A"), (0, u "Lcom/example/swapdeck/swapdeck/collateral/Party;"), (0, .fieldref 1 8), (0, .nameAndType 9 6), (0, u "B"), (2, u "$VALUES"), (0, u "[Lcom/example/swapdeck/swapdeck/collateral/Party;"), (6, .class_ 22), (1, u "java/lang/Enum"), (20, u "other"), (0, u "()Lcom/example/swapdeck/swapdeck/collateral/Party;")] 5

def k6c0 : Code := { maxStack := 2, maxLocals := 1, code := prog_30_method_4_code, exceptionTable := #[], attributes := #[] }
def k6m0 : Method := { name := "other", desc := "()Lcom/example/swapdeck/swapdeck/collateral/Party;", sig := { parameters := [], returnType := some (.object "com/example/swapdeck/swapdeck/collateral/Party") }, accessFlags := 1, code := some k6c0 }
/-- com/example/swapdeck/swapdeck/collateral/Party -/
def k6 : Class := { plain "com/example/swapdeck/swapdeck/collateral/Party" (some 5) with
  accessFlags := 16433
  interfaces := #[]
  cf := some (fileOf pool6 1 #[] #[{ accessFlags := 1, nameIndex := 43, descriptorIndex := 44, attributes := #[] }] 16433 20 #[] #[{ accessFlags := 16409, nameIndex := 5, descriptorIndex := 6, attributes := #[] }, { accessFlags := 16409, nameIndex := 9, descriptorIndex := 6, attributes := #[] }, { accessFlags := 4122, nameIndex := 12, descriptorIndex := 13, attributes := #[] }])
  fields := #[{ name := "A", type := (.object "com/example/swapdeck/swapdeck/collateral/Party"), accessFlags := 16409, slot := 0, constantValue := 0 }, { name := "B", type := (.object "com/example/swapdeck/swapdeck/collateral/Party"), accessFlags := 16409, slot := 1, constantValue := 0 }, { name := "$VALUES", type := (.array (.object "com/example/swapdeck/swapdeck/collateral/Party")), accessFlags := 4122, slot := 2, constantValue := 0 }]
  methods := #[k6m0]
  instanceTypes := #[(.object "java/lang/String"), .int, .int]
  staticTypes := #[(.object "com/example/swapdeck/swapdeck/collateral/Party"), (.object "com/example/swapdeck/swapdeck/collateral/Party"), (.array (.object "com/example/swapdeck/swapdeck/collateral/Party"))]
  resolved := Array.replicate 50 none
  statics := some 0 }

def pool7 : Array CpInfo := pool [(1, u "java/lang/Cloneable"), (0, .class_ 1), (0, u "java/lang/Object"), (0, .class_ 3)] 3

/-- java/lang/Cloneable -/
def k7 : Class := { plain "java/lang/Cloneable" (some 0) with
  accessFlags := 1537
  interfaces := #[]
  cf := some (fileOf pool7 2 #[] #[] 1537 4 #[] #[])
  fields := #[]
  methods := #[]
  instanceTypes := #[]
  staticTypes := #[]
  resolved := Array.replicate 8 none
  statics := none }

/-- the primitive byte -/
def k8 : Class := { plain "byte" none with kind := .primitive 'B', accessFlags := 0x411 }
/-- [B -/
def k9 : Class := { plain "[B" (some 0) with kind := .array 8 .byte, interfaces := #[7, 4], accessFlags := 1041 }

/-- the primitive int -/
def k10 : Class := { plain "int" none with kind := .primitive 'I', accessFlags := 0x411 }
/-- [I -/
def k11 : Class := { plain "[I" (some 0) with kind := .array 10 .int, interfaces := #[7, 4], accessFlags := 1041 }

def heap : Heap := #[{ cls := 6, slots := #[.ref 1, .ref 2, .null], vm := .statics 6 },
  { cls := 6, slots := #[.null, .int 0, .int 0], vm := .none },
  { cls := 6, slots := #[.null, .int 1, .int 0], vm := .none }]
def classes : Array Class := #[k0, k1, k2, k3, k4, k5, k6, k7, k8, k9, k10, k11]
def interned : List (Array UInt16 × Addr) := []
def slotsUsed : Nat := 9
def theMethod : MethodId := ⟨1, 1⟩
def args0 : Array Value := #[.int 5]
def aboutOver (below : List Frame) : State where
  vm := { classes := classes, interned := interned.toArray }
  heap := heap
  slotsUsed := slotsUsed
  threads := #[{ frames := .invoking theMethod args0 :: below }]
def below0 : List Frame := [.native { method := ⟨0, 0⟩, args := #[] }]
def about1 : State := aboutOver below0
def p0 : Program := .bare "" "" ""
def e0 : Env := launch0.env 0 0 0
theorem w_frames : about1.frames = Frame.invoking theMethod args0 :: below0 := rfl
set_option maxRecDepth 65536 in
theorem w_args : argsFit about1.vm theMethod args0 = true := by decide +kernel
set_option maxRecDepth 65536 in
theorem w_heap : heapFits about1 = true := by decide +kernel
set_option maxRecDepth 65536 in
theorem w_runnable : about1.curStatus? = some .runnable := by decide +kernel
set_option maxRecDepth 65536 in
theorem w_alone : about1.alone = true := by decide +kernel
set_option maxRecDepth 65536 in
theorem w_named : about1.methodNamed? x = some theMethod := by decide +kernel
set_option maxRecDepth 65536 in
theorem w_hears : about1.hears theMethod below0 = true := by decide +kernel
set_option maxRecDepth 65536 in
theorem w_ripe : about1.ripe theMethod args0 below0 = true := by decide +kernel
theorem w_running : about1.status = .running := rfl
set_option maxRecDepth 65536 in
theorem w_room : about1.hasRoom e0.platform room_1 = true :=
  launch0.hasRoom_least _ room_1 (by decide +kernel) (by decide +kernel) (by decide +kernel) (by decide +kernel) (by decide +kernel) (by decide +kernel)
theorem allAtoms_all (ts : List Jvm.Cond) (a : Array Jvm.Value) (st : Jvm.State) : (allAtoms ts).before a st = ts.all (fun c => c.before a st) := by
  induction ts with
  | nil => rfl
  | cons c t ih =>
    show (Jvm.Cond.and c (allAtoms t)).before a st = _
    rw [Jvm.Cond.before_and, ih, List.all_cons]
def words1 : List Jvm.Cond := Jvm.Cond.code x code maxLocals ret :: tables_1
/-- a 'code' word, met by the world's own term for the bytes: nothing is compared byte by byte -/
theorem code_word {y : MethodName} {bytes : ByteArray} {mx : Nat} {rt : Option FieldType} {a : Array Value} {s : State} {m : MethodId} {meth : Method} {c : Code} (h1 : s.methodNamed? y = some m) (h2 : s.vm.method? m = some meth) (h3 : meth.code = some c) (h4 : c.code = bytes)
    (h5 : (c.maxLocals == mx && c.exceptionTable.isEmpty && decide (c.maxStack ≤ mostOperands) && decide (meth.sig.returnType = rt) && !meth.locks && decide (parseMethodDescriptor y.desc = some meth.sig)) = true) : (Jvm.Cond.code y bytes mx rt).before a s = true := by
  simp only [Bool.and_eq_true, beq_iff_eq, Bool.not_eq_true', decide_eq_true_eq] at h5
  obtain ⟨⟨⟨⟨⟨g1, g2⟩, g3⟩, g4⟩, g5⟩, g6⟩ := h5
  simp [Cond.before, Cond.holds, Cond.value, h1, h2, h3, h4, g1, g2, g3, g4, g5, g6]
def isCode : Jvm.Cond → Bool
  | .code _ _ _ _ => true
  | _ => false
theorem all_split {L : List Jvm.Cond} {P : Jvm.Cond → Bool} (h1 : L.all (fun c => isCode c || P c) = true) (h2 : ∀ c ∈ L.filter isCode, P c = true) : L.all P = true := by
  refine List.all_eq_true.mpr fun c hc => ?_
  have h := List.all_eq_true.mp h1 c hc
  rcases Bool.eq_false_or_eq_true (isCode c) with hi | hi
  · exact h2 c (List.mem_filter.mpr ⟨hc, hi⟩)
  · simpa [hi] using h
set_option maxRecDepth 65536 in
theorem w_c0 : (Jvm.Cond.code x code maxLocals ret).before args0 about1 = true := code_word (m := ⟨1, 1⟩) (meth := k1m1) (c := k1c1) (by decide +kernel) rfl rfl rfl (by decide +kernel)
set_option maxRecDepth 65536 in
theorem w_c1 : (Jvm.Cond.code ({ cls := "com/example/swapdeck/swapdeck/collateral/Party", name := "other", desc := "()Lcom/example/swapdeck/swapdeck/collateral/Party;" } : Jvm.MethodName) prog_30_method_4_code (1 : Nat) (Option.some (Jvm.ClassFile.FieldType.object "com/example/swapdeck/swapdeck/collateral/Party"))).before args0 about1 = true := code_word (m := ⟨6, 0⟩) (meth := k6m0) (c := k6c0) (by decide +kernel) rfl rfl rfl (by decide +kernel)
def codes1 : List Jvm.Cond := [Jvm.Cond.code x code maxLocals ret, Jvm.Cond.code ({ cls := "com/example/swapdeck/swapdeck/collateral/Party", name := "other", desc := "()Lcom/example/swapdeck/swapdeck/collateral/Party;" } : Jvm.MethodName) prog_30_method_4_code (1 : Nat) (Option.some (Jvm.ClassFile.FieldType.object "com/example/swapdeck/swapdeck/collateral/Party"))]
set_option maxRecDepth 65536 in
theorem codes_eq : words1.filter isCode = codes1 := rfl
theorem w_codes : ∀ c ∈ words1.filter isCode, c.before args0 about1 = true := by
  rw [codes_eq]
  intro c hc
  simp only [codes1, List.mem_cons, List.not_mem_nil, or_false] at hc
  rcases hc with rfl | rfl
  · exact w_c0
  · exact w_c1
set_option maxRecDepth 65536 in
theorem w_t1 : words1.all (fun c => isCode c || c.before args0 about1) = true := by decide +kernel
theorem w_tables : (allAtoms (Jvm.Cond.code x code maxLocals ret :: tables_1)).before args0 about1 = true := by
  rw [allAtoms_all]
  show words1.all (fun c => c.before args0 about1) = true
  refine all_split ?_ w_codes
  rw [w_t1]
set_option maxRecDepth 65536 in
theorem w_case : (Jvm.Cond.and given_1 narrow_1).before args0 about1 = true := by decide +kernel
theorem w_applies : (headSpec (Jvm.Cond.code x code maxLocals ret :: tables_1) room_1).applies x e0.platform about1 = true :=
  (Spec.applies_iff w_frames).mpr ⟨w_running, w_runnable, w_alone, w_named, w_hears, w_ripe, w_room, w_tables⟩
theorem atStart : AtStart classFile x code maxLocals ret World_1 tables_1 room_1 Calls_1 rest_1 Pre_1 launch0 p0 e0 about1 theMethod args0 below0 :=
  ⟨lists_1, trivial, launch0.admits_env _ _ _, launch0.least_env, fairChoices_fair.cas, fairChoices_fair.clock, w_frames, w_args, w_heap, w_applies, trivial, trivial, w_case⟩
end start1
theorem witness_1 : WitnessClaimed_1 := ⟨start1.p0, start1.e0, start1.about1, start1.theMethod, start1.args0, start1.below0, start1.atStart⟩
end Jvm.Pilot.@@N@@
