import JvmDerived
import JvmDerived.Pilot.@@N@@Statement
import JvmDerived.Pilot.@@N@@Code
set_option linter.unusedVariables false
set_option linter.unusedSimpArgs false

namespace Jvm.Pilot.@@N@@
open Jvm Jvm.ClassFile Sem Op Lib Jvm.Free Jvm.Stand Jvm.LawKit Jvm.RoadKit Bundle Jvm.Pilot.@@N@@.Jvm.D
/-- from this state and frame the body comes to its end, with what G says -/
def Go (p : Program) (e : Env) (below : List Frame) (G : Outcome → State → Prop) (T : State) (f : JFrame) : Prop :=
  ∃ s₂ o, Steps p.tables e below (T.setTop f) s₂ ∧ s₂.status = .running ∧ Ended s₂ below o ∧ G o s₂
theorem Go.by {p : Program} {e : Env} {below : List Frame} {G : Outcome → State → Prop} {T T' : State} {f f' : JFrame} (k : ∀ t, Steps p.tables e below (T'.setTop f') t → Steps p.tables e below (T.setTop f) t) (g : Go p e below G T' f') : Go p e below G T f := by
  obtain ⟨s₂, o, h1, h2⟩ := g; exact ⟨s₂, o, k _ h1, h2⟩
theorem Old.le {Z : State} {n0 : Nat} {h : Heap} (O : Old Z n0 h) : n0 ≤ h.size := O.1 ▸ O.2.1

theorem ord_fld {args : Array Value} {s : State} {t : Term} {C n d : String} {k : Int32} {a : Addr} (h : (Cond.eq (Term.field t C n d) (Term.int k)).value args s none s [] = some true) (ht : t.eval args s none [] s = some (.ref a)) : Fld s s.heap a C n d (.int k) := by
  obtain ⟨x, y, hx, hy, -, kin⟩ := cmp_v (Or.inl h)
  obtain rfl : y = .int k := (Option.some.inj ((Term.int_eval k).symm.trans hy)).symm
  obtain ⟨z, rfl⟩ := kin
  have e : z = k := by simpa [Cond.value, hx, hy] using h
  subst e
  exact Fld.start (by rw [← fld_at ht]; exact hx)

def Qpure (r : Option Value) (h0 : Heap) (n0 : Nat) (v : Option Value) (h : Heap) (L : List Loc) : Prop := v = r ∧ Fr n0 L ∧ h = h0

def Sf (Z : State)  (wM : Addr) : Prop := Sta Z Z.heap "java/util/ImmutableCollections" "EMPTY_MAP" "Ljava/util/ImmutableCollections$MapN;" (.ref wM) ∧ Exa Z Z.heap wM "java/util/ImmutableCollections$MapN" ∧ Fld Z Z.heap wM "java/util/ImmutableCollections$MapN" "size" "I" (.int 0) ∧ True
theorem d_of_0 : decode jdk_72_method_26_code 0 = .ok (.getstatic 81, 3) := by decide +kernel
theorem d_of_3 : decode jdk_72_method_26_code 3 = .ok (.areturn, 1) := by decide +kernel
theorem pn_of : plainFor (⟨"java/util/Map", "of", "()Ljava/util/Map;"⟩ : MethodName) = true := plainFor_of_name (by first | (simp [plainName, overriddenIn]; done) | decide +kernel)
theorem ef_of (m : MethodId)  : entryFrame m #[] 0 = mkF m 0 #[] [] := by first | (simp [entryFrame, mkF, argsToLocals, Value.category]; done) | rfl
set_option maxRecDepth 65536 in
set_option maxHeartbeats 40000000 in
theorem rm_of (l : Launch) (Z : State) (a0 : Array Value) (hw : ∀ d ∈ tables_1, d.before a0 Z = true) (ws : List Jvm.Cond)  (wM : Addr) (hS : Sf Z wM) (h0 : Heap) (n0 : Nat) (O : Old Z n0 h0)  :
    MetFree l (⟨"java/util/Map", "of", "()Ljava/util/Map;"⟩ : MethodName) (head1 (Jvm.Cond.code (⟨"java/util/Map", "of", "()Ljava/util/Map;"⟩ : MethodName) jdk_72_method_26_code 0 (some (.object "java/util/Map")) :: ws) ({ frames := 0, cells := 0, slots := 0, locals := 0 } : Room)) (fun as_ U => as_ = #[] ∧ Z.Warmed39 U.vm ∧ U.heap = h0) (fun _ _ _ _ _ => True) (fun _ U o U' => ∃ v L, o = .returned v ∧ Qpure (some (.ref wM)) h0 n0 v U'.heap L ∧ FrameEnd U o U' L ({ frames := 0, cells := 0, slots := 0, locals := 0 } : Room).cells ({ frames := 0, cells := 0, slots := 0, locals := 0 } : Room).slots) := by
  refine MetFree.of_bodySF pn_of hisR ?_
  intro p e s m args below meth c s₁ Bd hml0 hP hK
  obtain ⟨rfl, hZ, hh⟩ := hP
  have hx := Bd.exec
  have hby := Bd.bytes
  have hml : c.maxLocals = 0 := hml0
  have hown : s.vm.findClass "java/util/Map" = some m.cls := findClass_of_methodNamed Bd.named
  have hnm := (name_of_methodNamed Bd.named Bd.method).1
  have X0 : Stand p l e ({ frames := 0, cells := 0, slots := 0, locals := 0 } : Room) s m #[] below meth c s₁ [] 0 0 := Stand.of_body Bd
  have e0 : s₁.heap = h0 := by rw [← hh, Bd.state]; rfl
  have N := Fr.nil n0
  have K : Keep h0 h0 [] := Keep.refl _ _
  refine Go.by (T' := s₁) (f' := (mkF m 0 #[] [])) (fun _ k => castTop (ef_of m ) k) ?_
  obtain ⟨T1, X1, e1, st1⟩ := getS2 X0 hx hZ hown (host := "") (Or.inl (hw _ (List.mem_of_getElem? (i := 10) rfl))) Via.refl e0 (Sta.ext O.2 hS.1) (g := (mkF m 0 #[] [])) rfl (hb hby d_of_0)
  refine Go.by (T' := T1) (f' := (mkF m 3 #[] [(.ref wM)])) (st1) ?_
  obtain ⟨fs, hr, hrun, hended, hW, hsame⟩ := X1.leave (v := some (.ref wM)) (fun h => by rw [Bd.returns] at h; cases h)
  refine ⟨_, _, retOut X1 hx Bd.returns rfl (Or.inr (Or.inr (Or.inr (Or.inr ⟨rfl, rfl, rfl⟩)))) (hb hby d_of_3) hr, hrun, hended, _, _, rfl, ?_, ⟨_, rfl⟩, hW, hsame.mono (by decide) (by decide)⟩
  show Qpure (some (.ref wM)) h0 n0 (some (.ref wM)) T1.heap _
  rw [e1]
  exact ⟨rfl, N, rfl⟩

theorem d_rm_rec_0 : decode jdk_30_method_1_code 0 = .ok (.aload_n 0, 1) := by decide +kernel
theorem d_rm_rec_1 : decode jdk_30_method_1_code 1 = .ok (.invokespecial 1, 3) := by decide +kernel
theorem d_rm_rec_4 : decode jdk_30_method_1_code 4 = .ok (.return_, 1) := by decide +kernel
theorem pn_rm_rec : plainFor (⟨"java/lang/Record", "<init>", "()V"⟩ : MethodName) = true := plainFor_of_name (by first | (simp [plainName, overriddenIn]; done) | decide +kernel)
theorem ef_rm_rec (m : MethodId) (x0 : Addr) : entryFrame m #[(.ref x0)] 1 = mkF m 0 #[.val (.ref x0)] [] := by first | (simp [entryFrame, mkF, argsToLocals, Value.category]; done) | rfl
set_option maxRecDepth 65536 in
set_option maxHeartbeats 40000000 in
theorem rm_rec (l : Launch) (Z : State) (a0 : Array Value) (hw : ∀ d ∈ tables_1, d.before a0 Z = true) (ws : List Jvm.Cond) (a : Addr) (h0 : Heap) (n0 : Nat) (O : Old Z n0 h0)  :
    MetFree l (⟨"java/lang/Record", "<init>", "()V"⟩ : MethodName) (head1 (Jvm.Cond.code (⟨"java/lang/Record", "<init>", "()V"⟩ : MethodName) jdk_30_method_1_code 1 none :: ws) ({ frames := 1, cells := 0, slots := 0, locals := 12 } : Room)) (fun as_ U => as_ = #[(.ref a)] ∧ Z.Warmed39 U.vm ∧ U.heap = h0) (fun _ _ _ _ _ => True) (fun _ U o U' => ∃ v L, o = .returned v ∧ Qpure none h0 n0 v U'.heap L ∧ FrameEnd U o U' L ({ frames := 1, cells := 0, slots := 0, locals := 12 } : Room).cells ({ frames := 1, cells := 0, slots := 0, locals := 12 } : Room).slots) := by
  refine MetFree.of_bodySF pn_rm_rec hisR ?_
  intro p e s m args below meth c s₁ Bd hml0 hP hK
  obtain ⟨rfl, hZ, hh⟩ := hP
  have hx := Bd.exec
  have hby := Bd.bytes
  have hml : c.maxLocals = 1 := hml0
  have hown : s.vm.findClass "java/lang/Record" = some m.cls := findClass_of_methodNamed Bd.named
  have hnm := (name_of_methodNamed Bd.named Bd.method).1
  have X0 : Stand p l e ({ frames := 1, cells := 0, slots := 0, locals := 12 } : Room) s m #[(.ref a)] below meth c s₁ [] 0 0 := Stand.of_body Bd
  have e0 : s₁.heap = h0 := by rw [← hh, Bd.state]; rfl
  have N := Fr.nil n0
  have K : Keep h0 h0 [] := Keep.refl _ _
  refine Go.by (T' := s₁) (f' := (mkF m 0 #[.val (.ref a)] [])) (fun _ k => castTop (ef_rm_rec m a) k) ?_
  refine Go.by (T' := s₁) (f' := (mkF m 1 #[.val (.ref a)] [(.ref a)])) (fun _ k => XS.aloadN X0.here hx rfl (hb hby d_rm_rec_0) rfl rfl k) ?_
  obtain ⟨T1, X1, e1, st1⟩ := initO X0 hx hZ hown (hw _ (List.mem_of_getElem? (i := 35) rfl)) (hw _ (List.mem_of_getElem? (i := 23) rfl)) (hw _ (List.mem_of_getElem? (i := 24) rfl)) e0 (g := (mkF m 1 #[.val (.ref a)] [(.ref a)])) rfl (by rw [hml]; rfl) rfl (hb hby d_rm_rec_1) (by decide) (W := 0) (by show 2 * 0 + _ ≤ _; exact Nat.le_of_eq rfl) (by decide)
  refine Go.by (T' := T1) (f' := (mkF m 4 #[.val (.ref a)] [])) (st1) ?_
  obtain ⟨fs, hr, hrun, hended, hW, hsame⟩ := X1.leave (v := none) (fun _ => rfl)
  refine ⟨_, _, X1.returnOut hx Bd.returns (hb hby d_rm_rec_4) hr, hrun, hended, _, _, rfl, ?_, ⟨_, rfl⟩, hW, hsame.mono (by decide) (by decide)⟩
  show Qpure none h0 n0 (none) T1.heap _
  rw [e1]
  exact ⟨rfl, N, rfl⟩

def Qby (Z : State) (a arr : Addr) (h0 : Heap) (n0 : Nat) (v : Option Value) (h : Heap) (L : List Loc) : Prop := v = none ∧ Fr n0 L ∧ Keep h0 h [a] ∧ Fld Z h a "com/example/helvedir/helvedir/HttpResponse$Bytes" "bytes" "[B" (.ref arr)
theorem d_byi_0 : decode prog_10_method_1_code 0 = .ok (.aload_n 0, 1) := by decide +kernel
theorem d_byi_1 : decode prog_10_method_1_code 1 = .ok (.invokespecial 1, 3) := by decide +kernel
theorem d_byi_4 : decode prog_10_method_1_code 4 = .ok (.aload_n 0, 1) := by decide +kernel
theorem d_byi_5 : decode prog_10_method_1_code 5 = .ok (.aload_n 1, 1) := by decide +kernel
theorem d_byi_6 : decode prog_10_method_1_code 6 = .ok (.putfield 7, 3) := by decide +kernel
theorem d_byi_9 : decode prog_10_method_1_code 9 = .ok (.return_, 1) := by decide +kernel
theorem pn_byi : plainFor (⟨"com/example/helvedir/helvedir/HttpResponse$Bytes", "<init>", "([B)V"⟩ : MethodName) = true := plainFor_of_name (by first | (simp [plainName, overriddenIn]; done) | decide +kernel)
theorem ef_byi (m : MethodId) (x0 : Addr) (x1 : Addr) : entryFrame m #[(.ref x0), (.ref x1)] 2 = mkF m 0 #[.val (.ref x0), .val (.ref x1)] [] := by first | (simp [entryFrame, mkF, argsToLocals, Value.category]; done) | rfl
set_option maxRecDepth 65536 in
set_option maxHeartbeats 40000000 in
theorem rm_byi (l : Launch) (Z : State) (a0 : Array Value) (hw : ∀ d ∈ tables_1, d.before a0 Z = true) (ws : List Jvm.Cond) (a arr : Addr) (h0 : Heap) (n0 : Nat) (O : Old Z n0 h0) (E_a : Exa Z h0 a "com/example/helvedir/helvedir/HttpResponse$Bytes") (F_b : Fld Z h0 a "com/example/helvedir/helvedir/HttpResponse$Bytes" "bytes" "[B" .null) (g_a : n0 ≤ a) :
    MetFree l (⟨"com/example/helvedir/helvedir/HttpResponse$Bytes", "<init>", "([B)V"⟩ : MethodName) (head1 (Jvm.Cond.code (⟨"com/example/helvedir/helvedir/HttpResponse$Bytes", "<init>", "([B)V"⟩ : MethodName) prog_10_method_1_code 2 none :: ws) ({ frames := 1, cells := 0, slots := 0, locals := 12 } : Room)) (fun as_ U => as_ = #[(.ref a), (.ref arr)] ∧ Z.Warmed39 U.vm ∧ U.heap = h0) (fun _ _ _ _ _ => True) (fun _ U o U' => ∃ v L, o = .returned v ∧ Qby Z a arr h0 n0 v U'.heap L ∧ FrameEnd U o U' L ({ frames := 1, cells := 0, slots := 0, locals := 12 } : Room).cells ({ frames := 1, cells := 0, slots := 0, locals := 12 } : Room).slots) := by
  refine MetFree.of_bodySF pn_byi hisR ?_
  intro p e s m args below meth c s₁ Bd hml0 hP hK
  obtain ⟨rfl, hZ, hh⟩ := hP
  have hx := Bd.exec
  have hby := Bd.bytes
  have hml : c.maxLocals = 2 := hml0
  have hown : s.vm.findClass "com/example/helvedir/helvedir/HttpResponse$Bytes" = some m.cls := findClass_of_methodNamed Bd.named
  have hnm := (name_of_methodNamed Bd.named Bd.method).1
  have X0 : Stand p l e ({ frames := 1, cells := 0, slots := 0, locals := 12 } : Room) s m #[(.ref a), (.ref arr)] below meth c s₁ [] 0 0 := Stand.of_body Bd
  have e0 : s₁.heap = h0 := by rw [← hh, Bd.state]; rfl
  have N := Fr.nil n0
  have K : Keep h0 h0 [a] := Keep.refl _ _
  refine Go.by (T' := s₁) (f' := (mkF m 0 #[.val (.ref a), .val (.ref arr)] [])) (fun _ k => castTop (ef_byi m a arr) k) ?_
  refine Go.by (T' := s₁) (f' := (mkF m 1 #[.val (.ref a), .val (.ref arr)] [(.ref a)])) (fun _ k => XS.aloadN X0.here hx rfl (hb hby d_byi_0) rfl rfl k) ?_
  obtain ⟨T1, X1, e1, st1⟩ := initO X0 hx hZ hown (hw _ (List.mem_of_getElem? (i := 22) rfl)) (hw _ (List.mem_of_getElem? (i := 23) rfl)) (hw _ (List.mem_of_getElem? (i := 24) rfl)) e0 (g := (mkF m 1 #[.val (.ref a), .val (.ref arr)] [(.ref a)])) rfl (by rw [hml]; rfl) rfl (hb hby d_byi_1) (by decide) (W := 0) (by show 2 * 0 + _ ≤ _; exact Nat.le_of_eq rfl) (by decide)
  refine Go.by (T' := T1) (f' := (mkF m 4 #[.val (.ref a), .val (.ref arr)] [])) (st1) ?_
  refine Go.by (T' := T1) (f' := (mkF m 5 #[.val (.ref a), .val (.ref arr)] [(.ref a)])) (fun _ k => XS.aloadN X1.here hx rfl (hb hby d_byi_4) rfl rfl k) ?_
  refine Go.by (T' := T1) (f' := (mkF m 6 #[.val (.ref a), .val (.ref arr)] [(.ref arr), (.ref a)])) (fun _ k => XS.aloadN X1.here hx rfl (hb hby d_byi_5) rfl rfl k) ?_
  obtain ⟨T2, h2, X2, e2, W2, st2⟩ := putF X1 hx hZ hown (host := "") (Or.inl (hw _ (List.mem_of_getElem? (i := 25) rfl))) Via.refl e1 F_b E_a (Or.inr ⟨(hw _ (List.mem_of_getElem? (i := 26) rfl)), rfl, hnm⟩) (hw _ (List.mem_of_getElem? (i := 17) rfl)) (ty := (.array .byte)) (by decide) rfl rfl (g := (mkF m 6 #[.val (.ref a), .val (.ref arr)] [(.ref arr), (.ref a)])) rfl rfl (hb hby d_byi_6)
  replace E_a := E_a.wr W2
  replace F_b := F_b.same W2
  replace O := O.wr W2 g_a
  replace K := K.wr W2 (Or.inl (by simp))
  replace N := Fr.snoc X2 N g_a
  refine Go.by (T' := T2) (f' := (mkF m 9 #[.val (.ref a), .val (.ref arr)] [])) (st2) ?_
  obtain ⟨fs, hr, hrun, hended, hW, hsame⟩ := X2.leave (v := none) (fun _ => rfl)
  refine ⟨_, _, X2.returnOut hx Bd.returns (hb hby d_byi_9) hr, hrun, hended, _, _, rfl, ?_, ⟨_, rfl⟩, hW, hsame.mono (by decide) (by decide)⟩
  show Qby Z a arr h0 n0 (none) T2.heap _
  rw [e2]
  exact ⟨rfl, N, K, F_b⟩

def Qbs (Z : State) (arr : Addr) (h0 : Heap) (n0 : Nat) (v : Option Value) (h : Heap) (L : List Loc) : Prop := ∃ b : Addr, v = some (.ref b) ∧ Fr n0 L ∧ Keep h0 h [] ∧ h0.size ≤ b ∧ Exa Z h b "com/example/helvedir/helvedir/HttpResponse$Bytes" ∧ Fld Z h b "com/example/helvedir/helvedir/HttpResponse$Bytes" "bytes" "[B" (.ref arr)
theorem d_bys_0 : decode prog_8_method_2_code 0 = .ok (.new 21, 3) := by decide +kernel
theorem d_bys_3 : decode prog_8_method_2_code 3 = .ok (.dup, 1) := by decide +kernel
theorem d_bys_4 : decode prog_8_method_2_code 4 = .ok (.aload_n 0, 1) := by decide +kernel
theorem d_bys_5 : decode prog_8_method_2_code 5 = .ok (.invokespecial 23, 3) := by decide +kernel
theorem d_bys_8 : decode prog_8_method_2_code 8 = .ok (.areturn, 1) := by decide +kernel
theorem pn_bys : plainFor (⟨"com/example/helvedir/helvedir/HttpResponse", "bytes", "([B)Lcom/example/helvedir/helvedir/HttpResponse$Body;"⟩ : MethodName) = true := plainFor_of_name (by first | (simp [plainName, overriddenIn]; done) | decide +kernel)
theorem pd_bys_0 : parseMethodDescriptor "([B)V" = some ⟨[(.array .byte)], none⟩ := by decide +kernel
theorem ef_bys (m : MethodId) (x0 : Addr) : entryFrame m #[(.ref x0)] 1 = mkF m 0 #[.val (.ref x0)] [] := by first | (simp [entryFrame, mkF, argsToLocals, Value.category]; done) | rfl
set_option maxRecDepth 65536 in
set_option maxHeartbeats 40000000 in
theorem rm_bys (l : Launch) (Z : State) (a0 : Array Value) (hw : ∀ d ∈ tables_1, d.before a0 Z = true) (ws : List Jvm.Cond) (arr : Addr) (h0 : Heap) (n0 : Nat) (O : Old Z n0 h0)  :
    MetFree l (⟨"com/example/helvedir/helvedir/HttpResponse", "bytes", "([B)Lcom/example/helvedir/helvedir/HttpResponse$Body;"⟩ : MethodName) (head1 (Jvm.Cond.code (⟨"com/example/helvedir/helvedir/HttpResponse", "bytes", "([B)Lcom/example/helvedir/helvedir/HttpResponse$Body;"⟩ : MethodName) prog_8_method_2_code 1 (some (.object "com/example/helvedir/helvedir/HttpResponse$Body")) :: ws) ({ frames := 2, cells := 1, slots := 2, locals := 26 } : Room)) (fun as_ U => as_ = #[(.ref arr)] ∧ Z.Warmed39 U.vm ∧ U.heap = h0) (fun _ _ _ _ _ => True) (fun _ U o U' => ∃ v L, o = .returned v ∧ Qbs Z arr h0 n0 v U'.heap L ∧ FrameEnd U o U' L ({ frames := 2, cells := 1, slots := 2, locals := 26 } : Room).cells ({ frames := 2, cells := 1, slots := 2, locals := 26 } : Room).slots) := by
  refine MetFree.of_bodySF pn_bys hisR ?_
  intro p e s m args below meth c s₁ Bd hml0 hP hK
  obtain ⟨rfl, hZ, hh⟩ := hP
  have hx := Bd.exec
  have hby := Bd.bytes
  have hml : c.maxLocals = 1 := hml0
  have hown : s.vm.findClass "com/example/helvedir/helvedir/HttpResponse" = some m.cls := findClass_of_methodNamed Bd.named
  have hnm := (name_of_methodNamed Bd.named Bd.method).1
  have X0 : Stand p l e ({ frames := 2, cells := 1, slots := 2, locals := 26 } : Room) s m #[(.ref arr)] below meth c s₁ [] 0 0 := Stand.of_body Bd
  have e0 : s₁.heap = h0 := by rw [← hh, Bd.state]; rfl
  have N := Fr.nil n0
  have K : Keep h0 h0 [] := Keep.refl _ _
  refine Go.by (T' := s₁) (f' := (mkF m 0 #[.val (.ref arr)] [])) (fun _ k => castTop (ef_bys m arr) k) ?_
  obtain ⟨T1, h1, X1, e1, E1, A1, D1, -, st1⟩ := newO X0 hx hZ hown (hw _ (List.mem_of_getElem? (i := 16) rfl)) (hw _ (List.mem_of_getElem? (i := 17) rfl)) (hw _ (List.mem_of_getElem? (i := 18) rfl)) e0 (g := (mkF m 0 #[.val (.ref arr)] [])) rfl (hb hby d_bys_0) (by decide) (by decide)
  obtain ⟨b1, g1⟩ : ∃ z, z = h0.size := ⟨_, rfl⟩
  rw [← g1] at A1 D1 st1
  have g_b1 : n0 ≤ b1 := Nat.le_trans (Old.le O) (Nat.le_of_eq g1.symm)
  have sz_b1 : h0.size ≤ b1 := Nat.le_trans K.1 (Nat.le_of_eq g1.symm)
  replace O := O.ext E1
  replace K := K.ext E1
  have E_b1 := A1
  have F_bytes_b1 : Fld Z h1 b1 "com/example/helvedir/helvedir/HttpResponse$Bytes" "bytes" "[B" .null := D1 (Or.inr (hw _ (List.mem_of_getElem? (i := 26) rfl))) (ty := (.array .byte)) (by decide)
  refine Go.by (T' := T1) (f' := (mkF m 3 #[.val (.ref arr)] [(.ref b1)])) (st1) ?_
  refine Go.by (T' := T1) (f' := (mkF m 4 #[.val (.ref arr)] [(.ref b1), (.ref b1)])) (fun _ k => XS.dup X1.here hx rfl (hb hby d_bys_3) rfl rfl k) ?_
  refine Go.by (T' := T1) (f' := (mkF m 5 #[.val (.ref arr)] [(.ref arr), (.ref b1), (.ref b1)])) (fun _ k => XS.aloadN X1.here hx rfl (hb hby d_bys_4) rfl rfl k) ?_
  obtain ⟨v2, _, ⟨T2, L2, k2, n2⟩, -, X2, ⟨Lc2, hQ2, l2, y2, z2⟩, st2⟩ := X1.specialBack hx (y := (⟨"com/example/helvedir/helvedir/HttpResponse$Bytes", "<init>", "([B)V"⟩ : MethodName)) rfl hown (mvT hZ (hw _ (List.mem_of_getElem? (i := 19) rfl))) (mvT hZ (hw _ (List.mem_of_getElem? (i := 20) rfl))) (mvT hZ (hw _ (List.mem_of_getElem? (i := 21) rfl))) (by decide) (backOf (W := 1) (rm_byi l Z a0 hw [] b1 arr h1 n0 O E_b1 F_bytes_b1 g_b1) hZ (hw _ (List.mem_of_getElem? (i := 21) rfl)) (hw _ (List.mem_of_getElem? (i := 18) rfl)) (by decide) (by decide)) (g := (mkF m 5 #[.val (.ref arr)] [(.ref arr), (.ref b1), (.ref b1)])) rfl (by rw [hml]; rfl) (Steps.refl _) (a := b1) (argsL := [(.ref arr)]) (rest := [(.ref b1)]) (lenOf pd_bys_0 rfl) rfl (by show 2 * 0 + _ ≤ _; exact Nat.le_of_eq rfl) (hb hby d_bys_5) (fun _ _ => ⟨rfl, e1, (by decide : 1 + 0 ≤ _), (by decide : 2 + 0 ≤ _)⟩)
  dsimp only [Pt.U, Pt.locs, Pt.cells, Pt.slots] at X2 l2 y2 z2 st2 hQ2
  subst l2 y2 z2
  obtain ⟨rfl, Nq2, K2, Gb2⟩ := hQ2
  replace N := Fr.app N Nq2
  replace E_b1 := E_b1.keep K2
  replace O := O.keep K2 (allS g_b1 all0)
  replace K := K.trans K2 (allS (Or.inr sz_b1) all0)
  refine Go.by (T' := T2) (f' := (mkF m 8 #[.val (.ref arr)] [(.ref b1)])) (fun _ k => st2.trans k) ?_
  obtain ⟨fs, hr, hrun, hended, hW, hsame⟩ := X2.leave (v := some (.ref b1)) (fun h => by rw [Bd.returns] at h; cases h)
  refine ⟨_, _, retOut X2 hx Bd.returns rfl (Or.inr (Or.inr (Or.inr (Or.inr ⟨rfl, rfl, rfl⟩)))) (hb hby d_bys_8) hr, hrun, hended, _, _, rfl, ?_, ⟨_, rfl⟩, hW, hsame.mono (by decide) (by decide)⟩
  show Qbs Z arr h0 n0 (some (.ref b1)) T2.heap _
  exact ⟨_, rfl, N, K, sz_b1, E_b1, Gb2⟩

def Qhr (Z : State) (a : Addr) (p1 : Int32) (mp bd : Addr) (h0 : Heap) (n0 : Nat) (v : Option Value) (h : Heap) (L : List Loc) : Prop := v = none ∧ Fr n0 L ∧ Keep h0 h [a] ∧ Fld Z h a "com/example/helvedir/helvedir/HttpResponse" "status" "I" (.int p1) ∧ Fld Z h a "com/example/helvedir/helvedir/HttpResponse" "headers" "Ljava/util/Map;" (.ref mp) ∧ Fld Z h a "com/example/helvedir/helvedir/HttpResponse" "body" "Lcom/example/helvedir/helvedir/HttpResponse$Body;" (.ref bd)
theorem d_hri_0 : decode prog_8_method_1_code 0 = .ok (.aload_n 0, 1) := by decide +kernel
theorem d_hri_1 : decode prog_8_method_1_code 1 = .ok (.invokespecial 1, 3) := by decide +kernel
theorem d_hri_4 : decode prog_8_method_1_code 4 = .ok (.aload_n 0, 1) := by decide +kernel
theorem d_hri_5 : decode prog_8_method_1_code 5 = .ok (.iload_n 1, 1) := by decide +kernel
theorem d_hri_6 : decode prog_8_method_1_code 6 = .ok (.putfield 7, 3) := by decide +kernel
theorem d_hri_9 : decode prog_8_method_1_code 9 = .ok (.aload_n 0, 1) := by decide +kernel
theorem d_hri_10 : decode prog_8_method_1_code 10 = .ok (.aload_n 2, 1) := by decide +kernel
theorem d_hri_11 : decode prog_8_method_1_code 11 = .ok (.putfield 13, 3) := by decide +kernel
theorem d_hri_14 : decode prog_8_method_1_code 14 = .ok (.aload_n 0, 1) := by decide +kernel
theorem d_hri_15 : decode prog_8_method_1_code 15 = .ok (.aload_n 3, 1) := by decide +kernel
theorem d_hri_16 : decode prog_8_method_1_code 16 = .ok (.putfield 17, 3) := by decide +kernel
theorem d_hri_19 : decode prog_8_method_1_code 19 = .ok (.return_, 1) := by decide +kernel
theorem pn_hri : plainFor (⟨"com/example/helvedir/helvedir/HttpResponse", "<init>", "(ILjava/util/Map;Lcom/example/helvedir/helvedir/HttpResponse$Body;)V"⟩ : MethodName) = true := plainFor_of_name (by first | (simp [plainName, overriddenIn]; done) | decide +kernel)
theorem pd_hri_0 : parseMethodDescriptor "()V" = some ⟨[], none⟩ := by decide +kernel
theorem ef_hri (m : MethodId) (x0 : Addr) (x1 : Int32) (x2 : Addr) (x3 : Addr) : entryFrame m #[(.ref x0), (.int x1), (.ref x2), (.ref x3)] 4 = mkF m 0 #[.val (.ref x0), .val (.int x1), .val (.ref x2), .val (.ref x3)] [] := by first | (simp [entryFrame, mkF, argsToLocals, Value.category]; done) | rfl
set_option maxRecDepth 65536 in
set_option maxHeartbeats 40000000 in
theorem rm_hri (l : Launch) (Z : State) (a0 : Array Value) (hw : ∀ d ∈ tables_1, d.before a0 Z = true) (ws : List Jvm.Cond) (a : Addr) (p1 : Int32) (mp bd : Addr) (h0 : Heap) (n0 : Nat) (O : Old Z n0 h0) (E_a : Exa Z h0 a "com/example/helvedir/helvedir/HttpResponse") (F_status : Fld Z h0 a "com/example/helvedir/helvedir/HttpResponse" "status" "I" (.int 0)) (F_headers : Fld Z h0 a "com/example/helvedir/helvedir/HttpResponse" "headers" "Ljava/util/Map;" .null) (F_body : Fld Z h0 a "com/example/helvedir/helvedir/HttpResponse" "body" "Lcom/example/helvedir/helvedir/HttpResponse$Body;" .null) (g_a : n0 ≤ a) :
    MetFree l (⟨"com/example/helvedir/helvedir/HttpResponse", "<init>", "(ILjava/util/Map;Lcom/example/helvedir/helvedir/HttpResponse$Body;)V"⟩ : MethodName) (head1 (Jvm.Cond.code (⟨"com/example/helvedir/helvedir/HttpResponse", "<init>", "(ILjava/util/Map;Lcom/example/helvedir/helvedir/HttpResponse$Body;)V"⟩ : MethodName) prog_8_method_1_code 4 none :: ws) ({ frames := 2, cells := 0, slots := 0, locals := 24 } : Room)) (fun as_ U => as_ = #[(.ref a), (.int p1), (.ref mp), (.ref bd)] ∧ Z.Warmed39 U.vm ∧ U.heap = h0) (fun _ _ _ _ _ => True) (fun _ U o U' => ∃ v L, o = .returned v ∧ Qhr Z a p1 mp bd h0 n0 v U'.heap L ∧ FrameEnd U o U' L ({ frames := 2, cells := 0, slots := 0, locals := 24 } : Room).cells ({ frames := 2, cells := 0, slots := 0, locals := 24 } : Room).slots) := by
  refine MetFree.of_bodySF pn_hri hisR ?_
  intro p e s m args below meth c s₁ Bd hml0 hP hK
  obtain ⟨rfl, hZ, hh⟩ := hP
  have hx := Bd.exec
  have hby := Bd.bytes
  have hml : c.maxLocals = 4 := hml0
  have hown : s.vm.findClass "com/example/helvedir/helvedir/HttpResponse" = some m.cls := findClass_of_methodNamed Bd.named
  have hnm := (name_of_methodNamed Bd.named Bd.method).1
  have X0 : Stand p l e ({ frames := 2, cells := 0, slots := 0, locals := 24 } : Room) s m #[(.ref a), (.int p1), (.ref mp), (.ref bd)] below meth c s₁ [] 0 0 := Stand.of_body Bd
  have e0 : s₁.heap = h0 := by rw [← hh, Bd.state]; rfl
  have N := Fr.nil n0
  have K : Keep h0 h0 [a] := Keep.refl _ _
  refine Go.by (T' := s₁) (f' := (mkF m 0 #[.val (.ref a), .val (.int p1), .val (.ref mp), .val (.ref bd)] [])) (fun _ k => castTop (ef_hri m a p1 mp bd) k) ?_
  refine Go.by (T' := s₁) (f' := (mkF m 1 #[.val (.ref a), .val (.int p1), .val (.ref mp), .val (.ref bd)] [(.ref a)])) (fun _ k => XS.aloadN X0.here hx rfl (hb hby d_hri_0) rfl rfl k) ?_
  obtain ⟨v1, _, ⟨T1, L1, k1, n1⟩, -, X1, ⟨Lc1, hQ1, l1, y1, z1⟩, st1⟩ := X0.specialBack hx (y := (⟨"java/lang/Record", "<init>", "()V"⟩ : MethodName)) rfl hown (mvT hZ (hw _ (List.mem_of_getElem? (i := 30) rfl))) (mvT hZ (hw _ (List.mem_of_getElem? (i := 31) rfl))) (mvT hZ (hw _ (List.mem_of_getElem? (i := 34) rfl))) (by decide) (backOf (W := 0) (rm_rec l Z a0 hw [] a h0 n0 O) hZ (hw _ (List.mem_of_getElem? (i := 34) rfl)) (hw _ (List.mem_of_getElem? (i := 33) rfl)) (by decide) (by decide)) (g := (mkF m 1 #[.val (.ref a), .val (.int p1), .val (.ref mp), .val (.ref bd)] [(.ref a)])) rfl (by rw [hml]; rfl) (Steps.refl _) (a := a) (argsL := []) (rest := []) (lenOf pd_hri_0 rfl) rfl (by show 2 * 0 + _ ≤ _; exact Nat.le_of_eq rfl) (hb hby d_hri_1) (fun _ _ => ⟨rfl, e0, (by decide : 0 + 0 ≤ _), (by decide : 0 + 0 ≤ _)⟩)
  dsimp only [Pt.U, Pt.locs, Pt.cells, Pt.slots] at X1 l1 y1 z1 st1 hQ1
  subst l1 y1 z1
  obtain ⟨rfl, Nq1, e1⟩ := hQ1
  replace N := Fr.app N Nq1
  refine Go.by (T' := T1) (f' := (mkF m 4 #[.val (.ref a), .val (.int p1), .val (.ref mp), .val (.ref bd)] [])) (fun _ k => st1.trans k) ?_
  refine Go.by (T' := T1) (f' := (mkF m 5 #[.val (.ref a), .val (.int p1), .val (.ref mp), .val (.ref bd)] [(.ref a)])) (fun _ k => XS.aloadN X1.here hx rfl (hb hby d_hri_4) rfl rfl k) ?_
  refine Go.by (T' := T1) (f' := (mkF m 6 #[.val (.ref a), .val (.int p1), .val (.ref mp), .val (.ref bd)] [(.int p1), (.ref a)])) (fun _ k => XS.iloadN X1.here hx rfl (hb hby d_hri_5) rfl k) ?_
  obtain ⟨T2, h2, X2, e2, W2, st2⟩ := putF X1 hx hZ hown (host := "") (Or.inl (hw _ (List.mem_of_getElem? (i := 36) rfl))) Via.refl e1 F_status E_a (Or.inr ⟨(hw _ (List.mem_of_getElem? (i := 37) rfl)), rfl, hnm⟩) (hw _ (List.mem_of_getElem? (i := 5) rfl)) (ty := .int) (by decide) rfl rfl (g := (mkF m 6 #[.val (.ref a), .val (.int p1), .val (.ref mp), .val (.ref bd)] [(.int p1), (.ref a)])) rfl rfl (hb hby d_hri_6)
  replace E_a := E_a.wr W2
  replace F_headers := F_headers.other W2 (Or.inr (slot_ne (Or.inr (hw _ (List.mem_of_getElem? (i := 39) rfl))) (Or.inr (hw _ (List.mem_of_getElem? (i := 37) rfl))) (by decide) (t := (.object "java/util/Map")) (t' := .int) (by decide) (by decide)))
  replace F_body := F_body.other W2 (Or.inr (slot_ne (Or.inr (hw _ (List.mem_of_getElem? (i := 41) rfl))) (Or.inr (hw _ (List.mem_of_getElem? (i := 37) rfl))) (by decide) (t := (.object "com/example/helvedir/helvedir/HttpResponse$Body")) (t' := .int) (by decide) (by decide)))
  replace F_status := F_status.same W2
  replace O := O.wr W2 g_a
  replace K := K.wr W2 (Or.inl (by simp))
  replace N := Fr.snoc X2 N g_a
  refine Go.by (T' := T2) (f' := (mkF m 9 #[.val (.ref a), .val (.int p1), .val (.ref mp), .val (.ref bd)] [])) (st2) ?_
  refine Go.by (T' := T2) (f' := (mkF m 10 #[.val (.ref a), .val (.int p1), .val (.ref mp), .val (.ref bd)] [(.ref a)])) (fun _ k => XS.aloadN X2.here hx rfl (hb hby d_hri_9) rfl rfl k) ?_
  refine Go.by (T' := T2) (f' := (mkF m 11 #[.val (.ref a), .val (.int p1), .val (.ref mp), .val (.ref bd)] [(.ref mp), (.ref a)])) (fun _ k => XS.aloadN X2.here hx rfl (hb hby d_hri_10) rfl rfl k) ?_
  obtain ⟨T3, h3, X3, e3, W3, st3⟩ := putF X2 hx hZ hown (host := "") (Or.inl (hw _ (List.mem_of_getElem? (i := 38) rfl))) Via.refl e2 F_headers E_a (Or.inr ⟨(hw _ (List.mem_of_getElem? (i := 39) rfl)), rfl, hnm⟩) (hw _ (List.mem_of_getElem? (i := 5) rfl)) (ty := (.object "java/util/Map")) (by decide) rfl rfl (g := (mkF m 11 #[.val (.ref a), .val (.int p1), .val (.ref mp), .val (.ref bd)] [(.ref mp), (.ref a)])) rfl rfl (hb hby d_hri_11)
  replace E_a := E_a.wr W3
  replace F_status := F_status.other W3 (Or.inr (slot_ne (Or.inr (hw _ (List.mem_of_getElem? (i := 37) rfl))) (Or.inr (hw _ (List.mem_of_getElem? (i := 39) rfl))) (by decide) (t := .int) (t' := (.object "java/util/Map")) (by decide) (by decide)))
  replace F_body := F_body.other W3 (Or.inr (slot_ne (Or.inr (hw _ (List.mem_of_getElem? (i := 41) rfl))) (Or.inr (hw _ (List.mem_of_getElem? (i := 39) rfl))) (by decide) (t := (.object "com/example/helvedir/helvedir/HttpResponse$Body")) (t' := (.object "java/util/Map")) (by decide) (by decide)))
  replace F_headers := F_headers.same W3
  replace O := O.wr W3 g_a
  replace K := K.wr W3 (Or.inl (by simp))
  replace N := Fr.snoc X3 N g_a
  refine Go.by (T' := T3) (f' := (mkF m 14 #[.val (.ref a), .val (.int p1), .val (.ref mp), .val (.ref bd)] [])) (st3) ?_
  refine Go.by (T' := T3) (f' := (mkF m 15 #[.val (.ref a), .val (.int p1), .val (.ref mp), .val (.ref bd)] [(.ref a)])) (fun _ k => XS.aloadN X3.here hx rfl (hb hby d_hri_14) rfl rfl k) ?_
  refine Go.by (T' := T3) (f' := (mkF m 16 #[.val (.ref a), .val (.int p1), .val (.ref mp), .val (.ref bd)] [(.ref bd), (.ref a)])) (fun _ k => XS.aloadN X3.here hx rfl (hb hby d_hri_15) rfl rfl k) ?_
  obtain ⟨T4, h4, X4, e4, W4, st4⟩ := putF X3 hx hZ hown (host := "") (Or.inl (hw _ (List.mem_of_getElem? (i := 40) rfl))) Via.refl e3 F_body E_a (Or.inr ⟨(hw _ (List.mem_of_getElem? (i := 41) rfl)), rfl, hnm⟩) (hw _ (List.mem_of_getElem? (i := 5) rfl)) (ty := (.object "com/example/helvedir/helvedir/HttpResponse$Body")) (by decide) rfl rfl (g := (mkF m 16 #[.val (.ref a), .val (.int p1), .val (.ref mp), .val (.ref bd)] [(.ref bd), (.ref a)])) rfl rfl (hb hby d_hri_16)
  replace E_a := E_a.wr W4
  replace F_status := F_status.other W4 (Or.inr (slot_ne (Or.inr (hw _ (List.mem_of_getElem? (i := 37) rfl))) (Or.inr (hw _ (List.mem_of_getElem? (i := 41) rfl))) (by decide) (t := .int) (t' := (.object "com/example/helvedir/helvedir/HttpResponse$Body")) (by decide) (by decide)))
  replace F_headers := F_headers.other W4 (Or.inr (slot_ne (Or.inr (hw _ (List.mem_of_getElem? (i := 39) rfl))) (Or.inr (hw _ (List.mem_of_getElem? (i := 41) rfl))) (by decide) (t := (.object "java/util/Map")) (t' := (.object "com/example/helvedir/helvedir/HttpResponse$Body")) (by decide) (by decide)))
  replace F_body := F_body.same W4
  replace O := O.wr W4 g_a
  replace K := K.wr W4 (Or.inl (by simp))
  replace N := Fr.snoc X4 N g_a
  refine Go.by (T' := T4) (f' := (mkF m 19 #[.val (.ref a), .val (.int p1), .val (.ref mp), .val (.ref bd)] [])) (st4) ?_
  obtain ⟨fs, hr, hrun, hended, hW, hsame⟩ := X4.leave (v := none) (fun _ => rfl)
  refine ⟨_, _, X4.returnOut hx Bd.returns (hb hby d_hri_19) hr, hrun, hended, _, _, rfl, ?_, ⟨_, rfl⟩, hW, hsame.mono (by decide) (by decide)⟩
  show Qhr Z a p1 mp bd h0 n0 (none) T4.heap _
  rw [e4]
  exact ⟨rfl, N, K, F_status, F_headers, F_body⟩

def Qem (Z : State) (p1 : Int32) (wM : Addr) (h0 : Heap) (n0 : Nat) (v : Option Value) (h : Heap) (L : List Loc) : Prop := ∃ (a b c : Addr) (kk : ClassId), v = some (.ref a) ∧ Fr n0 L ∧ Keep h0 h [] ∧ h0.size ≤ a ∧ Exa Z h a "com/example/helvedir/helvedir/HttpResponse" ∧ Fld Z h a "com/example/helvedir/helvedir/HttpResponse" "status" "I" (.int p1) ∧ Fld Z h a "com/example/helvedir/helvedir/HttpResponse" "headers" "Ljava/util/Map;" (.ref wM) ∧ Fld Z h a "com/example/helvedir/helvedir/HttpResponse" "body" "Lcom/example/helvedir/helvedir/HttpResponse$Body;" (.ref b) ∧ Exa Z h b "com/example/helvedir/helvedir/HttpResponse$Bytes" ∧ Fld Z h b "com/example/helvedir/helvedir/HttpResponse$Bytes" "bytes" "[B" (.ref c) ∧ Arv Z h c kk .byte (0 : Int32) [] (.int (0 : Int32))
theorem d_emp_0 : decode prog_8_method_3_code 0 = .ok (.new 8, 3) := by decide +kernel
theorem d_emp_3 : decode prog_8_method_3_code 3 = .ok (.dup, 1) := by decide +kernel
theorem d_emp_4 : decode prog_8_method_3_code 4 = .ok (.iload_n 0, 1) := by decide +kernel
theorem d_emp_5 : decode prog_8_method_3_code 5 = .ok (.invokestatic 26, 3) := by decide +kernel
theorem d_emp_8 : decode prog_8_method_3_code 8 = .ok (.iconst 0, 1) := by decide +kernel
theorem d_emp_9 : decode prog_8_method_3_code 9 = .ok (.newarray .byte, 2) := by decide +kernel
theorem d_emp_11 : decode prog_8_method_3_code 11 = .ok (.invokestatic 32, 3) := by decide +kernel
theorem d_emp_14 : decode prog_8_method_3_code 14 = .ok (.invokespecial 36, 3) := by decide +kernel
theorem d_emp_17 : decode prog_8_method_3_code 17 = .ok (.areturn, 1) := by decide +kernel
theorem pn_emp : plainFor (⟨"com/example/helvedir/helvedir/HttpResponse", "empty", "(I)Lcom/example/helvedir/helvedir/HttpResponse;"⟩ : MethodName) = true := plainFor_of_name (by first | (simp [plainName, overriddenIn]; done) | decide +kernel)
theorem pd_emp_0 : parseMethodDescriptor "()Ljava/util/Map;" = some ⟨[], some (.object "java/util/Map")⟩ := by decide +kernel
theorem pd_emp_1 : parseMethodDescriptor "([B)Lcom/example/helvedir/helvedir/HttpResponse$Body;" = some ⟨[(.array .byte)], some (.object "com/example/helvedir/helvedir/HttpResponse$Body")⟩ := by decide +kernel
theorem pd_emp_2 : parseMethodDescriptor "(ILjava/util/Map;Lcom/example/helvedir/helvedir/HttpResponse$Body;)V" = some ⟨[.int, (.object "java/util/Map"), (.object "com/example/helvedir/helvedir/HttpResponse$Body")], none⟩ := by decide +kernel
theorem ef_emp (m : MethodId) (x0 : Int32) : entryFrame m #[(.int x0)] 1 = mkF m 0 #[.val (.int x0)] [] := by first | (simp [entryFrame, mkF, argsToLocals, Value.category]; done) | rfl
set_option maxRecDepth 65536 in
set_option maxHeartbeats 40000000 in
theorem rm_emp (l : Launch) (Z : State) (a0 : Array Value) (hw : ∀ d ∈ tables_1, d.before a0 Z = true) (ws : List Jvm.Cond) (p1 : Int32)  (wM : Addr) (hS : Sf Z wM) (h0 : Heap) (n0 : Nat) (O : Old Z n0 h0)  :
    MetFree l (⟨"com/example/helvedir/helvedir/HttpResponse", "empty", "(I)Lcom/example/helvedir/helvedir/HttpResponse;"⟩ : MethodName) (head1 (Jvm.Cond.code (⟨"com/example/helvedir/helvedir/HttpResponse", "empty", "(I)Lcom/example/helvedir/helvedir/HttpResponse;"⟩ : MethodName) prog_8_method_3_code 1 (some (.object "com/example/helvedir/helvedir/HttpResponse")) :: ws) ({ frames := 3, cells := 3, slots := 5, locals := 42 } : Room)) (fun as_ U => as_ = #[(.int p1)] ∧ Z.Warmed39 U.vm ∧ U.heap = h0) (fun _ _ _ _ _ => True) (fun _ U o U' => ∃ v L, o = .returned v ∧ Qem Z p1 wM h0 n0 v U'.heap L ∧ FrameEnd U o U' L ({ frames := 3, cells := 3, slots := 5, locals := 42 } : Room).cells ({ frames := 3, cells := 3, slots := 5, locals := 42 } : Room).slots) := by
  refine MetFree.of_bodySF pn_emp hisR ?_
  intro p e s m args below meth c s₁ Bd hml0 hP hK
  obtain ⟨rfl, hZ, hh⟩ := hP
  have hx := Bd.exec
  have hby := Bd.bytes
  have hml : c.maxLocals = 1 := hml0
  have hown : s.vm.findClass "com/example/helvedir/helvedir/HttpResponse" = some m.cls := findClass_of_methodNamed Bd.named
  have hnm := (name_of_methodNamed Bd.named Bd.method).1
  have X0 : Stand p l e ({ frames := 3, cells := 3, slots := 5, locals := 42 } : Room) s m #[(.int p1)] below meth c s₁ [] 0 0 := Stand.of_body Bd
  have e0 : s₁.heap = h0 := by rw [← hh, Bd.state]; rfl
  have N := Fr.nil n0
  have K : Keep h0 h0 [] := Keep.refl _ _
  refine Go.by (T' := s₁) (f' := (mkF m 0 #[.val (.int p1)] [])) (fun _ k => castTop (ef_emp m p1) k) ?_
  obtain ⟨T1, h1, X1, e1, E1, A1, D1, -, st1⟩ := newO X0 hx hZ hown (hw _ (List.mem_of_getElem? (i := 4) rfl)) (hw _ (List.mem_of_getElem? (i := 5) rfl)) (hw _ (List.mem_of_getElem? (i := 2) rfl)) e0 (g := (mkF m 0 #[.val (.int p1)] [])) rfl (hb hby d_emp_0) (by decide) (by decide)
  obtain ⟨b1, g1⟩ : ∃ z, z = h0.size := ⟨_, rfl⟩
  rw [← g1] at A1 D1 st1
  have g_b1 : n0 ≤ b1 := Nat.le_trans (Old.le O) (Nat.le_of_eq g1.symm)
  have sz_b1 : h0.size ≤ b1 := Nat.le_trans K.1 (Nat.le_of_eq g1.symm)
  replace O := O.ext E1
  replace K := K.ext E1
  have E_b1 := A1
  have F_status_b1 : Fld Z h1 b1 "com/example/helvedir/helvedir/HttpResponse" "status" "I" (.int (0 : Int32)) := D1 (Or.inr (hw _ (List.mem_of_getElem? (i := 37) rfl))) (ty := .int) (by decide)
  have F_headers_b1 : Fld Z h1 b1 "com/example/helvedir/helvedir/HttpResponse" "headers" "Ljava/util/Map;" .null := D1 (Or.inr (hw _ (List.mem_of_getElem? (i := 39) rfl))) (ty := (.object "java/util/Map")) (by decide)
  have F_body_b1 : Fld Z h1 b1 "com/example/helvedir/helvedir/HttpResponse" "body" "Lcom/example/helvedir/helvedir/HttpResponse$Body;" .null := D1 (Or.inr (hw _ (List.mem_of_getElem? (i := 41) rfl))) (ty := (.object "com/example/helvedir/helvedir/HttpResponse$Body")) (by decide)
  refine Go.by (T' := T1) (f' := (mkF m 3 #[.val (.int p1)] [(.ref b1)])) (st1) ?_
  refine Go.by (T' := T1) (f' := (mkF m 4 #[.val (.int p1)] [(.ref b1), (.ref b1)])) (fun _ k => XS.dup X1.here hx rfl (hb hby d_emp_3) rfl rfl k) ?_
  refine Go.by (T' := T1) (f' := (mkF m 5 #[.val (.int p1)] [(.int p1), (.ref b1), (.ref b1)])) (fun _ k => XS.iloadN X1.here hx rfl (hb hby d_emp_4) rfl k) ?_
  obtain ⟨v2, _, ⟨T2, L2, k2, n2⟩, -, X2, ⟨Lc2, hQ2, l2, y2, z2⟩, st2⟩ := Jvm.LawKit.callS X1 hx (y := (⟨"java/util/Map", "of", "()Ljava/util/Map;"⟩ : MethodName)) hown (mvT hZ (hw _ (List.mem_of_getElem? (i := 6) rfl))) (mvT hZ (hw _ (List.mem_of_getElem? (i := 7) rfl))) (mvT hZ (hw _ (List.mem_of_getElem? (i := 8) rfl))) (mvT hZ (hw _ (List.mem_of_getElem? (i := 9) rfl))) (by decide) (backOf (W := 3) (rm_of l Z a0 hw [] wM hS h1 n0 O) hZ (hw _ (List.mem_of_getElem? (i := 9) rfl)) (hw _ (List.mem_of_getElem? (i := 8) rfl)) (by decide) (by decide)) (g := (mkF m 5 #[.val (.int p1)] [(.int p1), (.ref b1), (.ref b1)])) rfl (by rw [hml]; rfl) (argsL := []) (rest := [(.int p1), (.ref b1), (.ref b1)]) (lenOf pd_emp_0 rfl) rfl (by show 2 * 0 + _ ≤ _; exact Nat.le_of_eq rfl) (hb hby d_emp_5) (fun _ _ => ⟨rfl, e1, (by decide : 1 + 0 ≤ _), (by decide : 3 + 0 ≤ _)⟩)
  dsimp only [Pt.U, Pt.locs, Pt.cells, Pt.slots] at X2 l2 y2 z2 st2 hQ2
  subst l2 y2 z2
  obtain ⟨rfl, Nq2, e2⟩ := hQ2
  replace N := Fr.app N Nq2
  refine Go.by (T' := T2) (f' := (mkF m 8 #[.val (.int p1)] [(.ref wM), (.int p1), (.ref b1), (.ref b1)])) (st2) ?_
  refine Go.by (T' := T2) (f' := (mkF m 9 #[.val (.int p1)] [(.int (0 : Int32)), (.ref wM), (.int p1), (.ref b1), (.ref b1)])) (fun _ k => XS.iconst X2.here hx rfl (hb hby d_emp_8) k) ?_
  obtain ⟨T3, h3, k3, X3, e3, E3, A3, st3⟩ := newP X2 hx hZ (hw _ (List.mem_of_getElem? (i := 12) rfl)) e2 (g := (mkF m 9 #[.val (.int p1)] [(.int (0 : Int32)), (.ref wM), (.int p1), (.ref b1), (.ref b1)])) rfl (hb hby d_emp_9) rfl (by decide) (cap := 0) (by decide) (by decide) (by decide) (by decide)
  obtain ⟨b3, g3⟩ : ∃ z, z = h1.size := ⟨_, rfl⟩
  rw [← g3] at A3 st3
  have ne_b1_b3 : b1 ≠ b3 := Nat.ne_of_lt (Nat.lt_of_lt_of_le E_b1.lt (Nat.le_of_eq g3.symm))
  have g_b3 : n0 ≤ b3 := Nat.le_trans (Old.le O) (Nat.le_of_eq g3.symm)
  have sz_b3 : h0.size ≤ b3 := Nat.le_trans K.1 (Nat.le_of_eq g3.symm)
  replace E_b1 := E_b1.ext E3
  replace F_status_b1 := F_status_b1.ext E3
  replace F_headers_b1 := F_headers_b1.ext E3
  replace F_body_b1 := F_body_b1.ext E3
  replace O := O.ext E3
  replace K := K.ext E3
  have V_b3 : Arv Z h3 b3 k3 .byte (0 : Int32) [] (.int (0 : Int32)) := (Arv.new A3 (by decide)).pad (pad_rep [] (.int (0 : Int32)) 0)
  refine Go.by (T' := T3) (f' := (mkF m 11 #[.val (.int p1)] [(.ref b3), (.ref wM), (.int p1), (.ref b1), (.ref b1)])) (st3) ?_
  obtain ⟨v4, _, ⟨T4, L4, k4, n4⟩, -, X4, ⟨Lc4, hQ4, l4, y4, z4⟩, st4⟩ := Jvm.LawKit.callS X3 hx (y := (⟨"com/example/helvedir/helvedir/HttpResponse", "bytes", "([B)Lcom/example/helvedir/helvedir/HttpResponse$Body;"⟩ : MethodName)) hown (mvT hZ (hw _ (List.mem_of_getElem? (i := 13) rfl))) (mvT hZ (hw _ (List.mem_of_getElem? (i := 14) rfl))) (mvT hZ (hw _ (List.mem_of_getElem? (i := 2) rfl))) (mvT hZ (hw _ (List.mem_of_getElem? (i := 15) rfl))) (by decide) (backOf (W := 4) (rm_bys l Z a0 hw [] b3 h3 n0 O) hZ (hw _ (List.mem_of_getElem? (i := 15) rfl)) (hw _ (List.mem_of_getElem? (i := 2) rfl)) (by decide) (by decide)) (g := (mkF m 11 #[.val (.int p1)] [(.ref b3), (.ref wM), (.int p1), (.ref b1), (.ref b1)])) rfl (by rw [hml]; rfl) (argsL := [(.ref b3)]) (rest := [(.ref wM), (.int p1), (.ref b1), (.ref b1)]) (lenOf pd_emp_1 rfl) rfl (by show 2 * 0 + _ ≤ _; exact Nat.le_of_eq rfl) (hb hby d_emp_11) (fun _ _ => ⟨rfl, e3, (by decide : 2 + 1 ≤ _), (by decide : 3 + 2 ≤ _)⟩)
  dsimp only [Pt.U, Pt.locs, Pt.cells, Pt.slots] at X4 l4 y4 z4 st4 hQ4
  subst l4 y4 z4
  obtain ⟨bb4, rfl, Nq4, K4, ge4, Eb4, Gb4⟩ := hQ4
  replace N := Fr.app N Nq4
  have ne_b1_bb4 : b1 ≠ bb4 := Nat.ne_of_lt (Nat.lt_of_lt_of_le E_b1.lt ge4)
  have ne_b3_bb4 : b3 ≠ bb4 := Nat.ne_of_lt (Nat.lt_of_lt_of_le V_b3.lt ge4)
  have g_bb4 : n0 ≤ bb4 := Nat.le_trans (Old.le O) ge4
  have sz_bb4 : h0.size ≤ bb4 := Nat.le_trans K.1 ge4
  replace E_b1 := E_b1.keep K4
  replace F_status_b1 := F_status_b1.keep K4 nin0
  replace F_headers_b1 := F_headers_b1.keep K4 nin0
  replace F_body_b1 := F_body_b1.keep K4 nin0
  replace V_b3 := V_b3.keep K4 nin0
  replace O := O.keep K4 all0
  replace K := K.trans K4 all0
  refine Go.by (T' := T4) (f' := (mkF m 14 #[.val (.int p1)] [(.ref bb4), (.ref wM), (.int p1), (.ref b1), (.ref b1)])) (st4) ?_
  obtain ⟨v5, _, ⟨T5, L5, k5, n5⟩, -, X5, ⟨Lc5, hQ5, l5, y5, z5⟩, st5⟩ := X4.specialBack hx (y := (⟨"com/example/helvedir/helvedir/HttpResponse", "<init>", "(ILjava/util/Map;Lcom/example/helvedir/helvedir/HttpResponse$Body;)V"⟩ : MethodName)) rfl hown (mvT hZ (hw _ (List.mem_of_getElem? (i := 27) rfl))) (mvT hZ (hw _ (List.mem_of_getElem? (i := 28) rfl))) (mvT hZ (hw _ (List.mem_of_getElem? (i := 29) rfl))) (by decide) (backOf (W := 1) (rm_hri l Z a0 hw [] b1 p1 wM bb4 T4.heap n0 O E_b1 F_status_b1 F_headers_b1 F_body_b1 g_b1) hZ (hw _ (List.mem_of_getElem? (i := 29) rfl)) (hw _ (List.mem_of_getElem? (i := 2) rfl)) (by decide) (by decide)) (g := (mkF m 14 #[.val (.int p1)] [(.ref bb4), (.ref wM), (.int p1), (.ref b1), (.ref b1)])) rfl (by rw [hml]; rfl) (Steps.refl _) (a := b1) (argsL := [(.int p1), (.ref wM), (.ref bb4)]) (rest := [(.ref b1)]) (lenOf pd_emp_2 rfl) rfl (by show 2 * 0 + _ ≤ _; exact Nat.le_of_eq rfl) (hb hby d_emp_14) (fun _ _ => ⟨rfl, rfl, (by decide : 3 + 0 ≤ _), (by decide : 5 + 0 ≤ _)⟩)
  dsimp only [Pt.U, Pt.locs, Pt.cells, Pt.slots] at X5 l5 y5 z5 st5 hQ5
  subst l5 y5 z5
  obtain ⟨rfl, Nq5, K5, Gs5, Gh5, Gb5⟩ := hQ5
  replace N := Fr.app N Nq5
  replace E_b1 := E_b1.keep K5
  replace V_b3 := V_b3.keep K5 (ninS (Ne.symm ne_b1_b3) nin0)
  replace Eb4 := Eb4.keep K5
  replace Gb4 := Gb4.keep K5 (ninS (Ne.symm ne_b1_bb4) nin0)
  replace O := O.keep K5 (allS g_b1 all0)
  replace K := K.trans K5 (allS (Or.inr sz_b1) all0)
  refine Go.by (T' := T5) (f' := (mkF m 17 #[.val (.int p1)] [(.ref b1)])) (fun _ k => st5.trans k) ?_
  obtain ⟨fs, hr, hrun, hended, hW, hsame⟩ := X5.leave (v := some (.ref b1)) (fun h => by rw [Bd.returns] at h; cases h)
  refine ⟨_, _, retOut X5 hx Bd.returns rfl (Or.inr (Or.inr (Or.inr (Or.inr ⟨rfl, rfl, rfl⟩)))) (hb hby d_emp_17) hr, hrun, hended, _, _, rfl, ?_, ⟨_, rfl⟩, hW, hsame.mono (by decide) (by decide)⟩
  show Qem Z p1 wM h0 n0 (some (.ref b1)) T5.heap _
  exact ⟨_, _, _, _, rfl, N, K, sz_b1, E_b1, Gs5, Gh5, Gb5, Eb4, Gb4, V_b3⟩

theorem d_rm_st_0 : decode prog_8_method_9_code 0 = .ok (.aload_n 0, 1) := by decide +kernel
theorem d_rm_st_1 : decode prog_8_method_9_code 1 = .ok (.getfield 7, 3) := by decide +kernel
theorem d_rm_st_4 : decode prog_8_method_9_code 4 = .ok (.ireturn, 1) := by decide +kernel
theorem pn_rm_st : plainFor (⟨"com/example/helvedir/helvedir/HttpResponse", "status", "()I"⟩ : MethodName) = true := plainFor_of_name (by first | (simp [plainName, overriddenIn]; done) | decide +kernel)
theorem ef_rm_st (m : MethodId) (x0 : Addr) : entryFrame m #[(.ref x0)] 1 = mkF m 0 #[.val (.ref x0)] [] := by first | (simp [entryFrame, mkF, argsToLocals, Value.category]; done) | rfl
set_option maxRecDepth 65536 in
set_option maxHeartbeats 40000000 in
theorem rm_st (l : Launch) (Z : State) (a0 : Array Value) (hw : ∀ d ∈ tables_1, d.before a0 Z = true) (ws : List Jvm.Cond) (a : Addr) (vv : Int32) (h0 : Heap) (n0 : Nat) (O : Old Z n0 h0) (F : Fld Z h0 a "com/example/helvedir/helvedir/HttpResponse" "status" "I" (.int vv)) :
    MetFree l (⟨"com/example/helvedir/helvedir/HttpResponse", "status", "()I"⟩ : MethodName) (head1 (Jvm.Cond.code (⟨"com/example/helvedir/helvedir/HttpResponse", "status", "()I"⟩ : MethodName) prog_8_method_9_code 1 (some .int) :: ws) ({ frames := 0, cells := 0, slots := 0, locals := 0 } : Room)) (fun as_ U => as_ = #[(.ref a)] ∧ Z.Warmed39 U.vm ∧ U.heap = h0) (fun _ _ _ _ _ => True) (fun _ U o U' => ∃ v L, o = .returned v ∧ Qpure (some (.int vv)) h0 n0 v U'.heap L ∧ FrameEnd U o U' L ({ frames := 0, cells := 0, slots := 0, locals := 0 } : Room).cells ({ frames := 0, cells := 0, slots := 0, locals := 0 } : Room).slots) := by
  refine MetFree.of_bodySF pn_rm_st hisR ?_
  intro p e s m args below meth c s₁ Bd hml0 hP hK
  obtain ⟨rfl, hZ, hh⟩ := hP
  have hx := Bd.exec
  have hby := Bd.bytes
  have hml : c.maxLocals = 1 := hml0
  have hown : s.vm.findClass "com/example/helvedir/helvedir/HttpResponse" = some m.cls := findClass_of_methodNamed Bd.named
  have hnm := (name_of_methodNamed Bd.named Bd.method).1
  have X0 : Stand p l e ({ frames := 0, cells := 0, slots := 0, locals := 0 } : Room) s m #[(.ref a)] below meth c s₁ [] 0 0 := Stand.of_body Bd
  have e0 : s₁.heap = h0 := by rw [← hh, Bd.state]; rfl
  have N := Fr.nil n0
  have K : Keep h0 h0 [] := Keep.refl _ _
  refine Go.by (T' := s₁) (f' := (mkF m 0 #[.val (.ref a)] [])) (fun _ k => castTop (ef_rm_st m a) k) ?_
  refine Go.by (T' := s₁) (f' := (mkF m 1 #[.val (.ref a)] [(.ref a)])) (fun _ k => XS.aloadN X0.here hx rfl (hb hby d_rm_st_0) rfl rfl k) ?_
  obtain ⟨T1, X1, e1, st1⟩ := getF X0 hx hZ hown (host := "") (Or.inl (hw _ (List.mem_of_getElem? (i := 36) rfl))) Via.refl e0 F (g := (mkF m 1 #[.val (.ref a)] [(.ref a)])) rfl rfl (hb hby d_rm_st_1)
  refine Go.by (T' := T1) (f' := (mkF m 4 #[.val (.ref a)] [(.int vv)])) (st1) ?_
  obtain ⟨fs, hr, hrun, hended, hW, hsame⟩ := X1.leave (v := some (.int vv)) (fun h => by rw [Bd.returns] at h; cases h)
  refine ⟨_, _, retOut X1 hx Bd.returns rfl (Or.inl ⟨rfl, Or.inl rfl, _, rfl⟩) (hb hby d_rm_st_4) hr, hrun, hended, _, _, rfl, ?_, ⟨_, rfl⟩, hW, hsame.mono (by decide) (by decide)⟩
  show Qpure (some (.int vv)) h0 n0 (some (.int vv)) T1.heap _
  rw [e1]
  exact ⟨rfl, N, rfl⟩

theorem d_rm_hd_0 : decode prog_8_method_10_code 0 = .ok (.aload_n 0, 1) := by decide +kernel
theorem d_rm_hd_1 : decode prog_8_method_10_code 1 = .ok (.getfield 13, 3) := by decide +kernel
theorem d_rm_hd_4 : decode prog_8_method_10_code 4 = .ok (.areturn, 1) := by decide +kernel
theorem pn_rm_hd : plainFor (⟨"com/example/helvedir/helvedir/HttpResponse", "headers", "()Ljava/util/Map;"⟩ : MethodName) = true := plainFor_of_name (by first | (simp [plainName, overriddenIn]; done) | decide +kernel)
theorem ef_rm_hd (m : MethodId) (x0 : Addr) : entryFrame m #[(.ref x0)] 1 = mkF m 0 #[.val (.ref x0)] [] := by first | (simp [entryFrame, mkF, argsToLocals, Value.category]; done) | rfl
set_option maxRecDepth 65536 in
set_option maxHeartbeats 40000000 in
theorem rm_hd (l : Launch) (Z : State) (a0 : Array Value) (hw : ∀ d ∈ tables_1, d.before a0 Z = true) (ws : List Jvm.Cond) (a : Addr) (vv : Addr) (h0 : Heap) (n0 : Nat) (O : Old Z n0 h0) (F : Fld Z h0 a "com/example/helvedir/helvedir/HttpResponse" "headers" "Ljava/util/Map;" (.ref vv)) :
    MetFree l (⟨"com/example/helvedir/helvedir/HttpResponse", "headers", "()Ljava/util/Map;"⟩ : MethodName) (head1 (Jvm.Cond.code (⟨"com/example/helvedir/helvedir/HttpResponse", "headers", "()Ljava/util/Map;"⟩ : MethodName) prog_8_method_10_code 1 (some (.object "java/util/Map")) :: ws) ({ frames := 0, cells := 0, slots := 0, locals := 0 } : Room)) (fun as_ U => as_ = #[(.ref a)] ∧ Z.Warmed39 U.vm ∧ U.heap = h0) (fun _ _ _ _ _ => True) (fun _ U o U' => ∃ v L, o = .returned v ∧ Qpure (some (.ref vv)) h0 n0 v U'.heap L ∧ FrameEnd U o U' L ({ frames := 0, cells := 0, slots := 0, locals := 0 } : Room).cells ({ frames := 0, cells := 0, slots := 0, locals := 0 } : Room).slots) := by
  refine MetFree.of_bodySF pn_rm_hd hisR ?_
  intro p e s m args below meth c s₁ Bd hml0 hP hK
  obtain ⟨rfl, hZ, hh⟩ := hP
  have hx := Bd.exec
  have hby := Bd.bytes
  have hml : c.maxLocals = 1 := hml0
  have hown : s.vm.findClass "com/example/helvedir/helvedir/HttpResponse" = some m.cls := findClass_of_methodNamed Bd.named
  have hnm := (name_of_methodNamed Bd.named Bd.method).1
  have X0 : Stand p l e ({ frames := 0, cells := 0, slots := 0, locals := 0 } : Room) s m #[(.ref a)] below meth c s₁ [] 0 0 := Stand.of_body Bd
  have e0 : s₁.heap = h0 := by rw [← hh, Bd.state]; rfl
  have N := Fr.nil n0
  have K : Keep h0 h0 [] := Keep.refl _ _
  refine Go.by (T' := s₁) (f' := (mkF m 0 #[.val (.ref a)] [])) (fun _ k => castTop (ef_rm_hd m a) k) ?_
  refine Go.by (T' := s₁) (f' := (mkF m 1 #[.val (.ref a)] [(.ref a)])) (fun _ k => XS.aloadN X0.here hx rfl (hb hby d_rm_hd_0) rfl rfl k) ?_
  obtain ⟨T1, X1, e1, st1⟩ := getF X0 hx hZ hown (host := "") (Or.inl (hw _ (List.mem_of_getElem? (i := 38) rfl))) Via.refl e0 F (g := (mkF m 1 #[.val (.ref a)] [(.ref a)])) rfl rfl (hb hby d_rm_hd_1)
  refine Go.by (T' := T1) (f' := (mkF m 4 #[.val (.ref a)] [(.ref vv)])) (st1) ?_
  obtain ⟨fs, hr, hrun, hended, hW, hsame⟩ := X1.leave (v := some (.ref vv)) (fun h => by rw [Bd.returns] at h; cases h)
  refine ⟨_, _, retOut X1 hx Bd.returns rfl (Or.inr (Or.inr (Or.inr (Or.inr ⟨rfl, rfl, rfl⟩)))) (hb hby d_rm_hd_4) hr, hrun, hended, _, _, rfl, ?_, ⟨_, rfl⟩, hW, hsame.mono (by decide) (by decide)⟩
  show Qpure (some (.ref vv)) h0 n0 (some (.ref vv)) T1.heap _
  rw [e1]
  exact ⟨rfl, N, rfl⟩

theorem d_rm_bd_0 : decode prog_8_method_11_code 0 = .ok (.aload_n 0, 1) := by decide +kernel
theorem d_rm_bd_1 : decode prog_8_method_11_code 1 = .ok (.getfield 17, 3) := by decide +kernel
theorem d_rm_bd_4 : decode prog_8_method_11_code 4 = .ok (.areturn, 1) := by decide +kernel
theorem pn_rm_bd : plainFor (⟨"com/example/helvedir/helvedir/HttpResponse", "body", "()Lcom/example/helvedir/helvedir/HttpResponse$Body;"⟩ : MethodName) = true := plainFor_of_name (by first | (simp [plainName, overriddenIn]; done) | decide +kernel)
theorem ef_rm_bd (m : MethodId) (x0 : Addr) : entryFrame m #[(.ref x0)] 1 = mkF m 0 #[.val (.ref x0)] [] := by first | (simp [entryFrame, mkF, argsToLocals, Value.category]; done) | rfl
set_option maxRecDepth 65536 in
set_option maxHeartbeats 40000000 in
theorem rm_bd (l : Launch) (Z : State) (a0 : Array Value) (hw : ∀ d ∈ tables_1, d.before a0 Z = true) (ws : List Jvm.Cond) (a : Addr) (vv : Addr) (h0 : Heap) (n0 : Nat) (O : Old Z n0 h0) (F : Fld Z h0 a "com/example/helvedir/helvedir/HttpResponse" "body" "Lcom/example/helvedir/helvedir/HttpResponse$Body;" (.ref vv)) :
    MetFree l (⟨"com/example/helvedir/helvedir/HttpResponse", "body", "()Lcom/example/helvedir/helvedir/HttpResponse$Body;"⟩ : MethodName) (head1 (Jvm.Cond.code (⟨"com/example/helvedir/helvedir/HttpResponse", "body", "()Lcom/example/helvedir/helvedir/HttpResponse$Body;"⟩ : MethodName) prog_8_method_11_code 1 (some (.object "com/example/helvedir/helvedir/HttpResponse$Body")) :: ws) ({ frames := 0, cells := 0, slots := 0, locals := 0 } : Room)) (fun as_ U => as_ = #[(.ref a)] ∧ Z.Warmed39 U.vm ∧ U.heap = h0) (fun _ _ _ _ _ => True) (fun _ U o U' => ∃ v L, o = .returned v ∧ Qpure (some (.ref vv)) h0 n0 v U'.heap L ∧ FrameEnd U o U' L ({ frames := 0, cells := 0, slots := 0, locals := 0 } : Room).cells ({ frames := 0, cells := 0, slots := 0, locals := 0 } : Room).slots) := by
  refine MetFree.of_bodySF pn_rm_bd hisR ?_
  intro p e s m args below meth c s₁ Bd hml0 hP hK
  obtain ⟨rfl, hZ, hh⟩ := hP
  have hx := Bd.exec
  have hby := Bd.bytes
  have hml : c.maxLocals = 1 := hml0
  have hown : s.vm.findClass "com/example/helvedir/helvedir/HttpResponse" = some m.cls := findClass_of_methodNamed Bd.named
  have hnm := (name_of_methodNamed Bd.named Bd.method).1
  have X0 : Stand p l e ({ frames := 0, cells := 0, slots := 0, locals := 0 } : Room) s m #[(.ref a)] below meth c s₁ [] 0 0 := Stand.of_body Bd
  have e0 : s₁.heap = h0 := by rw [← hh, Bd.state]; rfl
  have N := Fr.nil n0
  have K : Keep h0 h0 [] := Keep.refl _ _
  refine Go.by (T' := s₁) (f' := (mkF m 0 #[.val (.ref a)] [])) (fun _ k => castTop (ef_rm_bd m a) k) ?_
  refine Go.by (T' := s₁) (f' := (mkF m 1 #[.val (.ref a)] [(.ref a)])) (fun _ k => XS.aloadN X0.here hx rfl (hb hby d_rm_bd_0) rfl rfl k) ?_
  obtain ⟨T1, X1, e1, st1⟩ := getF X0 hx hZ hown (host := "") (Or.inl (hw _ (List.mem_of_getElem? (i := 40) rfl))) Via.refl e0 F (g := (mkF m 1 #[.val (.ref a)] [(.ref a)])) rfl rfl (hb hby d_rm_bd_1)
  refine Go.by (T' := T1) (f' := (mkF m 4 #[.val (.ref a)] [(.ref vv)])) (st1) ?_
  obtain ⟨fs, hr, hrun, hended, hW, hsame⟩ := X1.leave (v := some (.ref vv)) (fun h => by rw [Bd.returns] at h; cases h)
  refine ⟨_, _, retOut X1 hx Bd.returns rfl (Or.inr (Or.inr (Or.inr (Or.inr ⟨rfl, rfl, rfl⟩)))) (hb hby d_rm_bd_4) hr, hrun, hended, _, _, rfl, ?_, ⟨_, rfl⟩, hW, hsame.mono (by decide) (by decide)⟩
  show Qpure (some (.ref vv)) h0 n0 (some (.ref vv)) T1.heap _
  rw [e1]
  exact ⟨rfl, N, rfl⟩

theorem d_ise_0 : decode jdk_2605_method_7_code 0 = .ok (.aload_n 0, 1) := by decide +kernel
theorem d_ise_1 : decode jdk_2605_method_7_code 1 = .ok (.getfield 16, 3) := by decide +kernel
theorem d_ise_4 : decode jdk_2605_method_7_code 4 = .ok (.ifCond .ne 7, 3) := by decide +kernel
theorem d_ise_7 : decode jdk_2605_method_7_code 7 = .ok (.iconst 1, 1) := by decide +kernel
theorem d_ise_8 : decode jdk_2605_method_7_code 8 = .ok (.goto 4, 3) := by decide +kernel
theorem d_ise_12 : decode jdk_2605_method_7_code 12 = .ok (.ireturn, 1) := by decide +kernel
theorem pn_ise : plainFor (⟨"java/util/ImmutableCollections$MapN", "isEmpty", "()Z"⟩ : MethodName) = true := plainFor_of_name (by first | (simp [plainName, overriddenIn]; done) | decide +kernel)
theorem ef_ise (m : MethodId) (x0 : Addr) : entryFrame m #[(.ref x0)] 1 = mkF m 0 #[.val (.ref x0)] [] := by first | (simp [entryFrame, mkF, argsToLocals, Value.category]; done) | rfl
set_option maxRecDepth 65536 in
set_option maxHeartbeats 40000000 in
theorem rm_ise (l : Launch) (Z : State) (a0 : Array Value) (hw : ∀ d ∈ tables_1, d.before a0 Z = true) (ws : List Jvm.Cond) (a : Addr) (h0 : Heap) (n0 : Nat) (O : Old Z n0 h0) (F : Fld Z h0 a "java/util/ImmutableCollections$MapN" "size" "I" (.int 0)) :
    MetFree l (⟨"java/util/ImmutableCollections$MapN", "isEmpty", "()Z"⟩ : MethodName) (head1 (Jvm.Cond.code (⟨"java/util/ImmutableCollections$MapN", "isEmpty", "()Z"⟩ : MethodName) jdk_2605_method_7_code 1 (some .boolean) :: ws) ({ frames := 0, cells := 0, slots := 0, locals := 0 } : Room)) (fun as_ U => as_ = #[(.ref a)] ∧ Z.Warmed39 U.vm ∧ U.heap = h0) (fun _ _ _ _ _ => True) (fun _ U o U' => ∃ v L, o = .returned v ∧ Qpure (some (.int 1)) h0 n0 v U'.heap L ∧ FrameEnd U o U' L ({ frames := 0, cells := 0, slots := 0, locals := 0 } : Room).cells ({ frames := 0, cells := 0, slots := 0, locals := 0 } : Room).slots) := by
  refine MetFree.of_bodySF pn_ise hisR ?_
  intro p e s m args below meth c s₁ Bd hml0 hP hK
  obtain ⟨rfl, hZ, hh⟩ := hP
  have hx := Bd.exec
  have hby := Bd.bytes
  have hml : c.maxLocals = 1 := hml0
  have hown : s.vm.findClass "java/util/ImmutableCollections$MapN" = some m.cls := findClass_of_methodNamed Bd.named
  have hnm := (name_of_methodNamed Bd.named Bd.method).1
  have X0 : Stand p l e ({ frames := 0, cells := 0, slots := 0, locals := 0 } : Room) s m #[(.ref a)] below meth c s₁ [] 0 0 := Stand.of_body Bd
  have e0 : s₁.heap = h0 := by rw [← hh, Bd.state]; rfl
  have N := Fr.nil n0
  have K : Keep h0 h0 [] := Keep.refl _ _
  refine Go.by (T' := s₁) (f' := (mkF m 0 #[.val (.ref a)] [])) (fun _ k => castTop (ef_ise m a) k) ?_
  refine Go.by (T' := s₁) (f' := (mkF m 1 #[.val (.ref a)] [(.ref a)])) (fun _ k => XS.aloadN X0.here hx rfl (hb hby d_ise_0) rfl rfl k) ?_
  obtain ⟨T1, X1, e1, st1⟩ := getF X0 hx hZ hown (host := "") (Or.inl (hw _ (List.mem_of_getElem? (i := 62) rfl))) Via.refl e0 F (g := (mkF m 1 #[.val (.ref a)] [(.ref a)])) rfl rfl (hb hby d_ise_1)
  refine Go.by (T' := T1) (f' := (mkF m 4 #[.val (.ref a)] [(.int (0 : Int32))])) (st1) ?_
  refine Go.by (T' := T1) (f' := (mkF m 7 #[.val (.ref a)] [])) (fun _ k => XS.ifNo X1.here hx rfl (hb hby d_ise_4) rfl ((if0 _ _).trans (teq (by decide : (0 : Int32) = (0 : Int32))).2) k) ?_
  refine Go.by (T' := T1) (f' := (mkF m 8 #[.val (.ref a)] [(.int (1 : Int32))])) (fun _ k => XS.iconst X1.here hx rfl (hb hby d_ise_7) k) ?_
  refine Go.by (T' := T1) (f' := (mkF m 12 #[.val (.ref a)] [(.int (1 : Int32))])) (fun _ k => XS.goto X1.here hx rfl (pc0 := 8) (pc' := 12) rfl (hb hby d_ise_8) (by decide) (by decide) k) ?_
  obtain ⟨fs, hr, hrun, hended, hW, hsame⟩ := X1.leave (v := some (.int (1 : Int32))) (fun h => by rw [Bd.returns] at h; cases h)
  refine ⟨_, _, retN X1 hx (t := .boolean) Bd.returns (by simp) (hb hby d_ise_12) hr, hrun, hended, _, _, rfl, ?_, ⟨_, rfl⟩, hW, hsame.mono (by decide) (by decide)⟩
  show Qpure (some (.int 1)) h0 n0 (some (.int (1 : Int32))) T1.heap _
  rw [e1]
  exact ⟨rfl, N, rfl⟩

theorem d_ln_0 : decode prog_10_method_2_code 0 = .ok (.aload_n 0, 1) := by decide +kernel
theorem d_ln_1 : decode prog_10_method_2_code 1 = .ok (.getfield 7, 3) := by decide +kernel
theorem d_ln_4 : decode prog_10_method_2_code 4 = .ok (.arraylength, 1) := by decide +kernel
theorem d_ln_5 : decode prog_10_method_2_code 5 = .ok (.i2l, 1) := by decide +kernel
theorem d_ln_6 : decode prog_10_method_2_code 6 = .ok (.lreturn, 1) := by decide +kernel
theorem pn_ln : plainFor (⟨"com/example/helvedir/helvedir/HttpResponse$Bytes", "length", "()J"⟩ : MethodName) = true := plainFor_of_name (by first | (simp [plainName, overriddenIn]; done) | decide +kernel)
theorem ef_ln (m : MethodId) (x0 : Addr) : entryFrame m #[(.ref x0)] 1 = mkF m 0 #[.val (.ref x0)] [] := by first | (simp [entryFrame, mkF, argsToLocals, Value.category]; done) | rfl
set_option maxRecDepth 65536 in
set_option maxHeartbeats 40000000 in
theorem rm_ln (l : Launch) (Z : State) (a0 : Array Value) (hw : ∀ d ∈ tables_1, d.before a0 Z = true) (ws : List Jvm.Cond) (a c1 : Addr) (kk : ClassId) (h0 : Heap) (n0 : Nat) (O : Old Z n0 h0) (F : Fld Z h0 a "com/example/helvedir/helvedir/HttpResponse$Bytes" "bytes" "[B" (.ref c1)) (V1 : Arv Z h0 c1 kk .byte (0 : Int32) [] (.int (0 : Int32))) :
    MetFree l (⟨"com/example/helvedir/helvedir/HttpResponse$Bytes", "length", "()J"⟩ : MethodName) (head1 (Jvm.Cond.code (⟨"com/example/helvedir/helvedir/HttpResponse$Bytes", "length", "()J"⟩ : MethodName) prog_10_method_2_code 1 (some .long) :: ws) ({ frames := 0, cells := 0, slots := 0, locals := 0 } : Room)) (fun as_ U => as_ = #[(.ref a)] ∧ Z.Warmed39 U.vm ∧ U.heap = h0) (fun _ _ _ _ _ => True) (fun _ U o U' => ∃ v L, o = .returned v ∧ Qpure (some (.long ((0 : Int32).toInt64))) h0 n0 v U'.heap L ∧ FrameEnd U o U' L ({ frames := 0, cells := 0, slots := 0, locals := 0 } : Room).cells ({ frames := 0, cells := 0, slots := 0, locals := 0 } : Room).slots) := by
  refine MetFree.of_bodySF pn_ln hisR ?_
  intro p e s m args below meth c s₁ Bd hml0 hP hK
  obtain ⟨rfl, hZ, hh⟩ := hP
  have hx := Bd.exec
  have hby := Bd.bytes
  have hml : c.maxLocals = 1 := hml0
  have hown : s.vm.findClass "com/example/helvedir/helvedir/HttpResponse$Bytes" = some m.cls := findClass_of_methodNamed Bd.named
  have hnm := (name_of_methodNamed Bd.named Bd.method).1
  have X0 : Stand p l e ({ frames := 0, cells := 0, slots := 0, locals := 0 } : Room) s m #[(.ref a)] below meth c s₁ [] 0 0 := Stand.of_body Bd
  have e0 : s₁.heap = h0 := by rw [← hh, Bd.state]; rfl
  have N := Fr.nil n0
  have K : Keep h0 h0 [] := Keep.refl _ _
  refine Go.by (T' := s₁) (f' := (mkF m 0 #[.val (.ref a)] [])) (fun _ k => castTop (ef_ln m a) k) ?_
  refine Go.by (T' := s₁) (f' := (mkF m 1 #[.val (.ref a)] [(.ref a)])) (fun _ k => XS.aloadN X0.here hx rfl (hb hby d_ln_0) rfl rfl k) ?_
  obtain ⟨T1, X1, e1, st1⟩ := getF X0 hx hZ hown (host := "") (Or.inl (hw _ (List.mem_of_getElem? (i := 25) rfl))) Via.refl e0 F (g := (mkF m 1 #[.val (.ref a)] [(.ref a)])) rfl rfl (hb hby d_ln_1)
  refine Go.by (T' := T1) (f' := (mkF m 4 #[.val (.ref a)] [(.ref c1)])) (st1) ?_
  obtain ⟨cl2, Ar2, q2, S2, N2', H2, G2⟩ := id V1
  refine Go.by (T' := T1) (f' := (mkF m 5 #[.val (.ref a)] [(.int (0 : Int32))])) (fun t k => X1.arraylength hx (by rw [e1]; exact Ar2.1) (State.isArrayOf_alike hZ.alike Ar2.2.1) (g := (mkF m 4 #[.val (.ref a)] [(.ref c1)])) rfl rfl (hb hby d_ln_4) t (by rw [len_of S2 N2']; exact k)) ?_
  refine Go.by (T' := T1) (f' := (mkF m 6 #[.val (.ref a)] [(.long ((0 : Int32).toInt64))])) (fun _ k => XS.i2l X1.here hx rfl (hb hby d_ln_5) rfl k) ?_
  obtain ⟨fs, hr, hrun, hended, hW, hsame⟩ := X1.leave (v := some (.long ((0 : Int32).toInt64))) (fun h => by rw [Bd.returns] at h; cases h)
  refine ⟨_, _, retOut X1 hx Bd.returns rfl (Or.inr (Or.inl ⟨rfl, rfl, _, rfl⟩)) (hb hby d_ln_6) hr, hrun, hended, _, _, rfl, ?_, ⟨_, rfl⟩, hW, hsame.mono (by decide) (by decide)⟩
  show Qpure (some (.long ((0 : Int32).toInt64))) h0 n0 (some (.long ((0 : Int32).toInt64))) T1.heap _
  rw [e1]
  exact ⟨rfl, N, rfl⟩

def Q1 (n0 : Nat) (v : Option Value) (h : Heap) (L : List Loc) : Prop := v = some (.int 1) ∧ Fr n0 L
theorem pn_rm1 : plainFor (⟨"com/example/helvedir/helvedir/HttpResponseEmptyPinLaw", "law", "(I)Z"⟩ : MethodName) = true := plainFor_of_name (by first | (simp [plainName, overriddenIn]; done) | decide +kernel)
theorem pd_rm1_0 : parseMethodDescriptor "(I)Lcom/example/helvedir/helvedir/HttpResponse;" = some ⟨[.int], some (.object "com/example/helvedir/helvedir/HttpResponse")⟩ := by decide +kernel
theorem pd_rm1_1 : parseMethodDescriptor "()I" = some ⟨[], some .int⟩ := by decide +kernel
theorem pd_rm1_2 : parseMethodDescriptor "()Ljava/util/Map;" = some ⟨[], some (.object "java/util/Map")⟩ := by decide +kernel
theorem pd_rm1_3 : parseMethodDescriptor "()Z" = some ⟨[], some .boolean⟩ := by decide +kernel
theorem pd_rm1_4 : parseMethodDescriptor "()Lcom/example/helvedir/helvedir/HttpResponse$Body;" = some ⟨[], some (.object "com/example/helvedir/helvedir/HttpResponse$Body")⟩ := by decide +kernel
theorem pd_rm1_5 : parseMethodDescriptor "()J" = some ⟨[], some .long⟩ := by decide +kernel
theorem ef_rm1 (m : MethodId) (x0 : Int32) : entryFrame m #[(.int x0)] maxLocals = mkF m 0 #[.val (.int x0), .unset] [] := by first | (simp [entryFrame, mkF, argsToLocals, Value.category, maxLocals]; done) | rfl
set_option maxRecDepth 65536 in
set_option maxHeartbeats 40000000 in
theorem rm1 (l : Launch) (Z : State) (a0 : Array Value) (hw : ∀ d ∈ tables_1, d.before a0 Z = true) (ws : List Jvm.Cond) (p1 : Int32)  (wM : Addr) (hS : Sf Z wM) (h0 : Heap) (n0 : Nat) (O : Old Z n0 h0)  :
    MetFree l x (head1 (Jvm.Cond.code x code maxLocals ret :: ws) room_1) (fun as_ U => as_ = #[(.int p1)] ∧ Z.Warmed39 U.vm ∧ U.heap = h0) (fun _ _ _ _ _ => True) (fun _ U o U' => ∃ v L, o = .returned v ∧ Q1 n0 v U'.heap L ∧ FrameEnd U o U' L 16 128) := by
  refine MetFree.of_bodySF pn_rm1 hisR ?_
  intro p e s m args below meth c s₁ Bd hml0 hP hK
  obtain ⟨rfl, hZ, hh⟩ := hP
  have hx := Bd.exec
  have hby := Bd.bytes
  have hml : c.maxLocals = 2 := hml0
  have hown : s.vm.findClass "com/example/helvedir/helvedir/HttpResponseEmptyPinLaw" = some m.cls := findClass_of_methodNamed Bd.named
  have hnm := (name_of_methodNamed Bd.named Bd.method).1
  have X0 : Stand p l e room_1 s m #[(.int p1)] below meth c s₁ [] 0 0 := Stand.of_body Bd
  have e0 : s₁.heap = h0 := by rw [← hh, Bd.state]; rfl
  have N := Fr.nil n0
  have K : Keep h0 h0 [] := Keep.refl _ _
  refine Go.by (T' := s₁) (f' := (mkF m 0 #[.val (.int p1), .unset] [])) (fun _ k => castTop (ef_rm1 m p1) k) ?_
  have E_wM := hS.2.1.ext O.2
  refine Go.by (T' := s₁) (f' := (mkF m 1 #[.val (.int p1), .unset] [(.int p1)])) (fun _ k => XS.iloadN X0.here hx rfl (hb hby at_0) rfl k) ?_
  obtain ⟨v1, _, ⟨T1, L1, k1, n1⟩, -, X1, ⟨Lc1, hQ1, l1, y1, z1⟩, st1⟩ := Jvm.LawKit.callS X0 hx (y := (⟨"com/example/helvedir/helvedir/HttpResponse", "empty", "(I)Lcom/example/helvedir/helvedir/HttpResponse;"⟩ : MethodName)) hown (mvT hZ (hw _ (List.mem_of_getElem? (i := 0) rfl))) (mvT hZ (hw _ (List.mem_of_getElem? (i := 1) rfl))) (mvT hZ (hw _ (List.mem_of_getElem? (i := 2) rfl))) (mvT hZ (hw _ (List.mem_of_getElem? (i := 3) rfl))) (by decide) (backOf (W := 0) (rm_emp l Z a0 hw [] p1 wM hS h0 n0 O) hZ (hw _ (List.mem_of_getElem? (i := 3) rfl)) (hw _ (List.mem_of_getElem? (i := 2) rfl)) (by decide) (by decide)) (g := (mkF m 1 #[.val (.int p1), .unset] [(.int p1)])) rfl (by rw [hml]; rfl) (argsL := [(.int p1)]) (rest := []) (lenOf pd_rm1_0 rfl) rfl (by show 2 * 0 + _ ≤ _; exact Nat.le_of_eq rfl) (hb hby at_1) (fun _ _ => ⟨rfl, e0, (by decide : 0 + 3 ≤ _), (by decide : 0 + 5 ≤ _)⟩)
  dsimp only [Pt.U, Pt.locs, Pt.cells, Pt.slots] at X1 l1 y1 z1 st1 hQ1
  subst l1 y1 z1
  obtain ⟨ra1, rb1, rc1, kk1, rfl, Nq1, K1, ge1, Ea1, Gs1, Gh1, Gb1, Eb1, Gy1, Vc1⟩ := hQ1
  replace N := Fr.app N Nq1
  replace E_wM := E_wM.keep K1
  replace O := O.keep K1 all0
  replace K := K.trans K1 all0
  refine Go.by (T' := T1) (f' := (mkF m 4 #[.val (.int p1), .unset] [(.ref ra1)])) (st1) ?_
  refine Go.by (T' := T1) (f' := (mkF m 5 #[.val (.int p1), .val (.ref ra1)] [])) (fun _ k => XS.astoreN X1.here hx rfl (hb hby at_4) rfl rfl (l' := #[.val (.int p1), .val (.ref ra1)]) rfl k) ?_
  refine Go.by (T' := T1) (f' := (mkF m 6 #[.val (.int p1), .val (.ref ra1)] [(.ref ra1)])) (fun _ k => XS.aloadN X1.here hx rfl (hb hby at_5) rfl rfl k) ?_
  obtain ⟨cq2, kq2, q2a, q2b, q2c⟩ := isOf hZ rfl Ea1
  obtain ⟨v2, _, ⟨T2, L2, k2, n2⟩, -, X2, ⟨Lc2, hQ2, l2, y2, z2⟩, st2⟩ := X1.virtualBack hx (y := (⟨"com/example/helvedir/helvedir/HttpResponse", "status", "()I"⟩ : MethodName)) (z := (⟨"com/example/helvedir/helvedir/HttpResponse", "status", "()I"⟩ : MethodName)) hown (mvT hZ (hw _ (List.mem_of_getElem? (i := 42) rfl))) (mvT hZ (hw _ (List.mem_of_getElem? (i := 43) rfl))) (notFace_of_selects (args := #[]) (mvT hZ (hw _ (List.mem_of_getElem? (i := 45) rfl)))) (mvT hZ (hw _ (List.mem_of_getElem? (i := 45) rfl))) (mvT hZ (hw _ (List.mem_of_getElem? (i := 44) rfl))) (by decide) (backOf (W := 0) (rm_st l Z a0 hw [] ra1 p1 T1.heap n0 O Gs1) hZ (hw _ (List.mem_of_getElem? (i := 46) rfl)) (hw _ (List.mem_of_getElem? (i := 2) rfl)) (by decide) (by decide)) q2a q2c (g := (mkF m 6 #[.val (.int p1), .val (.ref ra1)] [(.ref ra1)])) rfl (by rw [hml]; rfl) (Steps.refl _) (argsL := []) (rest := []) (lenOf pd_rm1_1 rfl) rfl (by show 2 * 0 + _ ≤ _; exact Nat.le_of_eq rfl) (hb hby at_6) (fun _ _ => ⟨rfl, rfl, (by decide : 3 + 0 ≤ _), (by decide : 5 + 0 ≤ _)⟩)
  dsimp only [Pt.U, Pt.locs, Pt.cells, Pt.slots] at X2 l2 y2 z2 st2 hQ2
  subst l2 y2 z2
  obtain ⟨rfl, Nq2, e2⟩ := hQ2
  replace N := Fr.app N Nq2
  refine Go.by (T' := T2) (f' := (mkF m 9 #[.val (.int p1), .val (.ref ra1)] [(.int p1)])) (fun _ k => st2.trans k) ?_
  refine Go.by (T' := T2) (f' := (mkF m 10 #[.val (.int p1), .val (.ref ra1)] [(.int p1), (.int p1)])) (fun _ k => XS.iloadN X2.here hx rfl (hb hby at_9) rfl k) ?_
  refine Go.by (T' := T2) (f' := (mkF m 15 #[.val (.int p1), .val (.ref ra1)] [])) (fun _ k => XS.icmpYes X2.here hx rfl (pc0 := 10) (pc' := 15) rfl (hb hby at_10) rfl (teq rfl).1 (by decide) (by decide) k) ?_
  refine Go.by (T' := T2) (f' := (mkF m 16 #[.val (.int p1), .val (.ref ra1)] [(.ref ra1)])) (fun _ k => XS.aloadN X2.here hx rfl (hb hby at_15) rfl rfl k) ?_
  obtain ⟨cq4, kq4, q4a, q4b, q4c⟩ := isOf hZ e2 Ea1
  obtain ⟨v4, _, ⟨T4, L4, k4, n4⟩, -, X4, ⟨Lc4, hQ4, l4, y4, z4⟩, st4⟩ := X2.virtualBack hx (y := (⟨"com/example/helvedir/helvedir/HttpResponse", "headers", "()Ljava/util/Map;"⟩ : MethodName)) (z := (⟨"com/example/helvedir/helvedir/HttpResponse", "headers", "()Ljava/util/Map;"⟩ : MethodName)) hown (mvT hZ (hw _ (List.mem_of_getElem? (i := 47) rfl))) (mvT hZ (hw _ (List.mem_of_getElem? (i := 48) rfl))) (notFace_of_selects (args := #[]) (mvT hZ (hw _ (List.mem_of_getElem? (i := 50) rfl)))) (mvT hZ (hw _ (List.mem_of_getElem? (i := 50) rfl))) (mvT hZ (hw _ (List.mem_of_getElem? (i := 49) rfl))) (by decide) (backOf (W := 0) (rm_hd l Z a0 hw [] ra1 wM T1.heap n0 O Gh1) hZ (hw _ (List.mem_of_getElem? (i := 51) rfl)) (hw _ (List.mem_of_getElem? (i := 2) rfl)) (by decide) (by decide)) q4a q4c (g := (mkF m 16 #[.val (.int p1), .val (.ref ra1)] [(.ref ra1)])) rfl (by rw [hml]; rfl) (Steps.refl _) (argsL := []) (rest := []) (lenOf pd_rm1_2 rfl) rfl (by show 2 * 0 + _ ≤ _; exact Nat.le_of_eq rfl) (hb hby at_16) (fun _ _ => ⟨rfl, e2, (by decide : 3 + 0 ≤ _), (by decide : 5 + 0 ≤ _)⟩)
  dsimp only [Pt.U, Pt.locs, Pt.cells, Pt.slots] at X4 l4 y4 z4 st4 hQ4
  subst l4 y4 z4
  obtain ⟨rfl, Nq4, e4⟩ := hQ4
  replace N := Fr.app N Nq4
  refine Go.by (T' := T4) (f' := (mkF m 19 #[.val (.int p1), .val (.ref ra1)] [(.ref wM)])) (fun _ k => st4.trans k) ?_
  refine Go.by (T' := T4) (f' := (mkF m 22 #[.val (.int p1), .val (.ref ra1)] [])) (fun _ k => XS.ifnullNo X4.here hx rfl (hb hby at_19) rfl k) ?_
  refine Go.by (T' := T4) (f' := (mkF m 23 #[.val (.int p1), .val (.ref ra1)] [(.ref ra1)])) (fun _ k => XS.aloadN X4.here hx rfl (hb hby at_22) rfl rfl k) ?_
  obtain ⟨cq5, kq5, q5a, q5b, q5c⟩ := isOf hZ e4 Ea1
  obtain ⟨v5, _, ⟨T5, L5, k5, n5⟩, -, X5, ⟨Lc5, hQ5, l5, y5, z5⟩, st5⟩ := X4.virtualBack hx (y := (⟨"com/example/helvedir/helvedir/HttpResponse", "headers", "()Ljava/util/Map;"⟩ : MethodName)) (z := (⟨"com/example/helvedir/helvedir/HttpResponse", "headers", "()Ljava/util/Map;"⟩ : MethodName)) hown (mvT hZ (hw _ (List.mem_of_getElem? (i := 47) rfl))) (mvT hZ (hw _ (List.mem_of_getElem? (i := 48) rfl))) (notFace_of_selects (args := #[]) (mvT hZ (hw _ (List.mem_of_getElem? (i := 50) rfl)))) (mvT hZ (hw _ (List.mem_of_getElem? (i := 50) rfl))) (mvT hZ (hw _ (List.mem_of_getElem? (i := 49) rfl))) (by decide) (backOf (W := 0) (rm_hd l Z a0 hw [] ra1 wM T1.heap n0 O Gh1) hZ (hw _ (List.mem_of_getElem? (i := 51) rfl)) (hw _ (List.mem_of_getElem? (i := 2) rfl)) (by decide) (by decide)) q5a q5c (g := (mkF m 23 #[.val (.int p1), .val (.ref ra1)] [(.ref ra1)])) rfl (by rw [hml]; rfl) (Steps.refl _) (argsL := []) (rest := []) (lenOf pd_rm1_2 rfl) rfl (by show 2 * 0 + _ ≤ _; exact Nat.le_of_eq rfl) (hb hby at_23) (fun _ _ => ⟨rfl, e4, (by decide : 3 + 0 ≤ _), (by decide : 5 + 0 ≤ _)⟩)
  dsimp only [Pt.U, Pt.locs, Pt.cells, Pt.slots] at X5 l5 y5 z5 st5 hQ5
  subst l5 y5 z5
  obtain ⟨rfl, Nq5, e5⟩ := hQ5
  replace N := Fr.app N Nq5
  refine Go.by (T' := T5) (f' := (mkF m 26 #[.val (.int p1), .val (.ref ra1)] [(.ref wM)])) (fun _ k => st5.trans k) ?_
  obtain ⟨cq6, kq6, q6a, q6b, q6c⟩ := isOf hZ e5 E_wM
  obtain ⟨v6, _, ⟨T6, L6, k6, n6⟩, -, X6, ⟨Lc6, hQ6, l6, y6, z6⟩, st6⟩ := X5.interfaceBack hx (xi := (⟨"java/util/Map", "isEmpty", "()Z"⟩ : MethodName)) (y := (⟨"java/util/ImmutableCollections$MapN", "isEmpty", "()Z"⟩ : MethodName)) hown (mvT hZ (hw _ (List.mem_of_getElem? (i := 52) rfl))) (mvT hZ (hw _ (List.mem_of_getElem? (i := 53) rfl))) (mvT hZ (hw _ (List.mem_of_getElem? (i := 54) rfl))) (mvT hZ (hw _ (List.mem_of_getElem? (i := 55) rfl))) (mvT hZ (hw _ (List.mem_of_getElem? (i := 56) rfl))) (mvT hZ (hw _ (List.mem_of_getElem? (i := 57) rfl))) (mvT hZ (hw _ (List.mem_of_getElem? (i := 58) rfl))) (mvT hZ (hw _ (List.mem_of_getElem? (i := 59) rfl))) (by decide) (backOf (W := 0) (rm_ise l Z a0 hw [] wM T1.heap n0 O (hS.2.2.1.ext O.2)) hZ (hw _ (List.mem_of_getElem? (i := 61) rfl)) (hw _ (List.mem_of_getElem? (i := 60) rfl)) (by decide) (by decide)) q6a q6b q6c (g := (mkF m 26 #[.val (.int p1), .val (.ref ra1)] [(.ref wM)])) rfl (by rw [hml]; rfl) (Steps.refl _) (argsL := []) (rest := []) (lenOf pd_rm1_3 rfl) rfl (by show 2 * 0 + _ ≤ _; exact Nat.le_of_eq rfl) (hb hby at_26) (fun _ _ => ⟨rfl, e5, (by decide : 3 + 0 ≤ _), (by decide : 5 + 0 ≤ _)⟩)
  dsimp only [Pt.U, Pt.locs, Pt.cells, Pt.slots] at X6 l6 y6 z6 st6 hQ6
  subst l6 y6 z6
  obtain ⟨rfl, Nq6, e6⟩ := hQ6
  replace N := Fr.app N Nq6
  refine Go.by (T' := T6) (f' := (mkF m 31 #[.val (.int p1), .val (.ref ra1)] [(.int (1 : Int32))])) (fun _ k => st6.trans k) ?_
  refine Go.by (T' := T6) (f' := (mkF m 36 #[.val (.int p1), .val (.ref ra1)] [])) (fun _ k => XS.ifYes X6.here hx rfl (pc0 := 31) (pc' := 36) rfl (hb hby at_31) rfl ((if0 _ _).trans (feq (by decide : ¬ ((1 : Int32) = (0 : Int32)))).2) (by decide) (by decide) k) ?_
  refine Go.by (T' := T6) (f' := (mkF m 37 #[.val (.int p1), .val (.ref ra1)] [(.ref ra1)])) (fun _ k => XS.aloadN X6.here hx rfl (hb hby at_36) rfl rfl k) ?_
  obtain ⟨cq8, kq8, q8a, q8b, q8c⟩ := isOf hZ e6 Ea1
  obtain ⟨v8, _, ⟨T8, L8, k8, n8⟩, -, X8, ⟨Lc8, hQ8, l8, y8, z8⟩, st8⟩ := X6.virtualBack hx (y := (⟨"com/example/helvedir/helvedir/HttpResponse", "body", "()Lcom/example/helvedir/helvedir/HttpResponse$Body;"⟩ : MethodName)) (z := (⟨"com/example/helvedir/helvedir/HttpResponse", "body", "()Lcom/example/helvedir/helvedir/HttpResponse$Body;"⟩ : MethodName)) hown (mvT hZ (hw _ (List.mem_of_getElem? (i := 64) rfl))) (mvT hZ (hw _ (List.mem_of_getElem? (i := 65) rfl))) (notFace_of_selects (args := #[]) (mvT hZ (hw _ (List.mem_of_getElem? (i := 67) rfl)))) (mvT hZ (hw _ (List.mem_of_getElem? (i := 67) rfl))) (mvT hZ (hw _ (List.mem_of_getElem? (i := 66) rfl))) (by decide) (backOf (W := 0) (rm_bd l Z a0 hw [] ra1 rb1 T1.heap n0 O Gb1) hZ (hw _ (List.mem_of_getElem? (i := 68) rfl)) (hw _ (List.mem_of_getElem? (i := 2) rfl)) (by decide) (by decide)) q8a q8c (g := (mkF m 37 #[.val (.int p1), .val (.ref ra1)] [(.ref ra1)])) rfl (by rw [hml]; rfl) (Steps.refl _) (argsL := []) (rest := []) (lenOf pd_rm1_4 rfl) rfl (by show 2 * 0 + _ ≤ _; exact Nat.le_of_eq rfl) (hb hby at_37) (fun _ _ => ⟨rfl, e6, (by decide : 3 + 0 ≤ _), (by decide : 5 + 0 ≤ _)⟩)
  dsimp only [Pt.U, Pt.locs, Pt.cells, Pt.slots] at X8 l8 y8 z8 st8 hQ8
  subst l8 y8 z8
  obtain ⟨rfl, Nq8, e8⟩ := hQ8
  replace N := Fr.app N Nq8
  refine Go.by (T' := T8) (f' := (mkF m 40 #[.val (.int p1), .val (.ref ra1)] [(.ref rb1)])) (fun _ k => st8.trans k) ?_
  refine Go.by (T' := T8) (f' := (mkF m 45 #[.val (.int p1), .val (.ref ra1)] [])) (fun _ k => XS.ifnonnullYes X8.here hx rfl (pc0 := 40) (pc' := 45) rfl (hb hby at_40) rfl (by decide) (by decide) k) ?_
  refine Go.by (T' := T8) (f' := (mkF m 46 #[.val (.int p1), .val (.ref ra1)] [(.ref ra1)])) (fun _ k => XS.aloadN X8.here hx rfl (hb hby at_45) rfl rfl k) ?_
  obtain ⟨cq9, kq9, q9a, q9b, q9c⟩ := isOf hZ e8 Ea1
  obtain ⟨v9, _, ⟨T9, L9, k9, n9⟩, -, X9, ⟨Lc9, hQ9, l9, y9, z9⟩, st9⟩ := X8.virtualBack hx (y := (⟨"com/example/helvedir/helvedir/HttpResponse", "body", "()Lcom/example/helvedir/helvedir/HttpResponse$Body;"⟩ : MethodName)) (z := (⟨"com/example/helvedir/helvedir/HttpResponse", "body", "()Lcom/example/helvedir/helvedir/HttpResponse$Body;"⟩ : MethodName)) hown (mvT hZ (hw _ (List.mem_of_getElem? (i := 64) rfl))) (mvT hZ (hw _ (List.mem_of_getElem? (i := 65) rfl))) (notFace_of_selects (args := #[]) (mvT hZ (hw _ (List.mem_of_getElem? (i := 67) rfl)))) (mvT hZ (hw _ (List.mem_of_getElem? (i := 67) rfl))) (mvT hZ (hw _ (List.mem_of_getElem? (i := 66) rfl))) (by decide) (backOf (W := 0) (rm_bd l Z a0 hw [] ra1 rb1 T1.heap n0 O Gb1) hZ (hw _ (List.mem_of_getElem? (i := 68) rfl)) (hw _ (List.mem_of_getElem? (i := 2) rfl)) (by decide) (by decide)) q9a q9c (g := (mkF m 46 #[.val (.int p1), .val (.ref ra1)] [(.ref ra1)])) rfl (by rw [hml]; rfl) (Steps.refl _) (argsL := []) (rest := []) (lenOf pd_rm1_4 rfl) rfl (by show 2 * 0 + _ ≤ _; exact Nat.le_of_eq rfl) (hb hby at_46) (fun _ _ => ⟨rfl, e8, (by decide : 3 + 0 ≤ _), (by decide : 5 + 0 ≤ _)⟩)
  dsimp only [Pt.U, Pt.locs, Pt.cells, Pt.slots] at X9 l9 y9 z9 st9 hQ9
  subst l9 y9 z9
  obtain ⟨rfl, Nq9, e9⟩ := hQ9
  replace N := Fr.app N Nq9
  refine Go.by (T' := T9) (f' := (mkF m 49 #[.val (.int p1), .val (.ref ra1)] [(.ref rb1)])) (fun _ k => st9.trans k) ?_
  obtain ⟨cq10, kq10, q10a, q10b, q10c⟩ := isOf hZ e9 Eb1
  obtain ⟨v10, _, ⟨T10, L10, k10, n10⟩, -, X10, ⟨Lc10, hQ10, l10, y10, z10⟩, st10⟩ := X9.interfaceBack hx (xi := (⟨"com/example/helvedir/helvedir/HttpResponse$Body", "length", "()J"⟩ : MethodName)) (y := (⟨"com/example/helvedir/helvedir/HttpResponse$Bytes", "length", "()J"⟩ : MethodName)) hown (mvT hZ (hw _ (List.mem_of_getElem? (i := 69) rfl))) (mvT hZ (hw _ (List.mem_of_getElem? (i := 70) rfl))) (mvT hZ (hw _ (List.mem_of_getElem? (i := 71) rfl))) (mvT hZ (hw _ (List.mem_of_getElem? (i := 72) rfl))) (mvT hZ (hw _ (List.mem_of_getElem? (i := 73) rfl))) (mvT hZ (hw _ (List.mem_of_getElem? (i := 74) rfl))) (mvT hZ (hw _ (List.mem_of_getElem? (i := 75) rfl))) (mvT hZ (hw _ (List.mem_of_getElem? (i := 76) rfl))) (by decide) (backOf (W := 0) (rm_ln l Z a0 hw [] rb1 rc1 kk1 T1.heap n0 O Gy1 Vc1) hZ (hw _ (List.mem_of_getElem? (i := 77) rfl)) (hw _ (List.mem_of_getElem? (i := 18) rfl)) (by decide) (by decide)) q10a q10b q10c (g := (mkF m 49 #[.val (.int p1), .val (.ref ra1)] [(.ref rb1)])) rfl (by rw [hml]; rfl) (Steps.refl _) (argsL := []) (rest := []) (lenOf pd_rm1_5 rfl) rfl (by show 2 * 0 + _ ≤ _; exact Nat.le_of_eq rfl) (hb hby at_49) (fun _ _ => ⟨rfl, e9, (by decide : 3 + 0 ≤ _), (by decide : 5 + 0 ≤ _)⟩)
  dsimp only [Pt.U, Pt.locs, Pt.cells, Pt.slots] at X10 l10 y10 z10 st10 hQ10
  subst l10 y10 z10
  obtain ⟨rfl, Nq10, e10⟩ := hQ10
  replace N := Fr.app N Nq10
  refine Go.by (T' := T10) (f' := (mkF m 54 #[.val (.int p1), .val (.ref ra1)] [(.long ((0 : Int32).toInt64))])) (fun _ k => st10.trans k) ?_
  refine Go.by (T' := T10) (f' := (mkF m 55 #[.val (.int p1), .val (.ref ra1)] [(.long (0 : Int64)), (.long ((0 : Int32).toInt64))])) (fun _ k => XS.lconst X10.here hx rfl (hb hby at_54) k) ?_
  refine Go.by (T' := T10) (f' := (mkF m 56 #[.val (.int p1), .val (.ref ra1)] [(.int (lcmpW ((0 : Int32).toInt64) (0 : Int64)))])) (fun _ k => XS.lcmp X10.here hx rfl (hb hby at_55) rfl k) ?_
  refine Go.by (T' := T10) (f' := (mkF m 59 #[.val (.int p1), .val (.ref ra1)] [])) (fun _ k => XS.ifNo X10.here hx rfl (hb hby at_56) rfl ((if0 _ _).trans (teq (by decide)).2) k) ?_
  refine Go.by (T' := T10) (f' := (mkF m 60 #[.val (.int p1), .val (.ref ra1)] [(.int (1 : Int32))])) (fun _ k => XS.iconst X10.here hx rfl (hb hby at_59) k) ?_
  refine Go.by (T' := T10) (f' := (mkF m 64 #[.val (.int p1), .val (.ref ra1)] [(.int (1 : Int32))])) (fun _ k => XS.goto X10.here hx rfl (pc0 := 60) (pc' := 64) rfl (hb hby at_60) (by decide) (by decide) k) ?_
  obtain ⟨fs, hr, hrun, hended, hW, hsame⟩ := X10.leave (v := some (.int (1 : Int32))) (fun h => by rw [Bd.returns] at h; cases h)
  refine ⟨_, _, retN X10 hx (t := .boolean) Bd.returns (by simp) (hb hby at_64) hr, hrun, hended, _, _, rfl, ?_, ⟨_, rfl⟩, hW, hsame.mono (by decide) (by decide)⟩
  show Q1 n0 (some (.int (1 : Int32))) T10.heap _
  rw [e10]
  exact ⟨rfl, N⟩

set_option maxRecDepth 65536 in
set_option maxHeartbeats 40000000 in
theorem comes_1 {Post : Tables → Env → Array Value → State → Outcome → State → Prop} (hpost : ∀ tb e args s v u, (limb_1_1.after args s (.returned v) u = true ∧ limb_1_2.after args s (.returned v) u = true ∧ True) → FrameEnd s (.returned v) u (Jvm.fieldLocs frame_1_writes args s ++ Jvm.arrayLocs frame_1_arrays args s ++ Jvm.staticLocs frame_1_statics s) 16 128 → Post tb e args s (.returned v) u) :
    ArmFor flags0 classFile x code maxLocals ret World_1 tables_1 room_1 Calls_1 rest_1 Pre_1 Post := by
  intro l hfl _ _ p e ha hc hk s m args below hf hA hF happ hP
  obtain ⟨hcalls, hrest, hpre⟩ := hP
  obtain ⟨-, -, -, hnamed, -, -, -, hat⟩ := (Spec.applies_iff hf).mp happ
  obtain ⟨hg, hn⟩ := and_e (Cond.before_iff.mp (show (Jvm.Cond.and given_1 narrow_1).before args s = true from hpre))
  obtain ⟨hcount, hg⟩ := and_e hg
  obtain ⟨w0, rfl⟩ : ∃ w0 : Value, args = #[w0] := by
    have hs : args.size = 1 := by simpa [Cond.value, given_1] using hcount
    obtain ⟨L⟩ := args
    match L, hs with
    | [w0], _ => exact ⟨w0, rfl⟩
  have hw := fun d (hd : d ∈ tables_1) => atoms_spec (ws := Jvm.Cond.code x code maxLocals ret :: tables_1) hat d (List.mem_cons_of_mem _ hd)
  have hfit : Fit s := fun {y c} hc i hi => by
    obtain ⟨ha, rfl⟩ := Array.getElem?_eq_some_iff.mp hc
    have q := List.all_eq_true.mp ((Array.all_eq_true_iff_forall_mem.mp hF) _ (Array.getElem_mem ha)) i (List.mem_range.mpr hi)
    simpa [Array.getElem?_eq_getElem hi] using q
  have hg0 := hg
  obtain ⟨i0, ei0⟩ := is_v hg0
  obtain rfl : w0 = (.int i0) := Option.some.inj ei0
  have hs : ∀ d ∈ jdkStatics_1, d.before #[.int i0] s = true := (atoms_of jdkStatics_1 (own := restOwn_1) (rest_1_c_eq ▸ hrest)).1
  obtain ⟨wM, eM⟩ := exa_v (Cond.before_iff.mp (hs _ (List.mem_of_getElem? (i := 2) rfl)))
  have S_m : Sta s s.heap "java/util/ImmutableCollections" "EMPTY_MAP" "Ljava/util/ImmutableCollections$MapN;" (.ref wM) := Sta.start eM (Or.inl (hs _ (List.mem_of_getElem? (i := 1) rfl)))
  have E_m := Exa.start eM (Cond.before_iff.mp (hs _ (List.mem_of_getElem? (i := 2) rfl)))
  have F_m := ord_fld (Cond.before_iff.mp (hs _ (List.mem_of_getElem? (i := 6) rfl))) eM
  have hS : Sf s wM := ⟨S_m, E_m, F_m, trivial⟩
  obtain ⟨n, o, h1, h2, h3, _, L, rfl, ⟨rfl, N⟩, hq⟩ := rm1 l s _ hw tables_1 i0 wM hS s.heap s.heap.size (Old.start s) p e ha hc hk s m _ below hf ((Spec.applies_iff_loose hf).mp happ).1 ⟨rfl, State.Warmed39.refl s, rfl⟩ trivial
  refine ⟨n, _, h1, h2, h3, hpost _ _ _ _ _ _ ⟨Cond.after_iff.mpr rfl, Cond.after_iff.mpr (eq_i res_at (Term.int_eval (1)) rfl), trivial⟩ ⟨hq.1, hq.2.1, (hq.2.2.sift fun y hy => Or.inr (N y hy)).mono (by decide) (by decide)⟩⟩
theorem main_1_1 : Claimed_1_1 := comes_1 fun _ _ _ _ _ _ h hF => ⟨h.1, hF⟩
theorem main_1_2 : Claimed_1_2 := comes_1 fun _ _ _ _ _ _ h hF => ⟨h.2.1, hF⟩
end Jvm.Pilot.@@N@@
namespace Jvm.Pilot.@@N@@
open Jvm Jvm.ClassFile Sem Op Lib Jvm.Free Jvm.Stand Jvm.Pilot.@@N@@.Jvm.D
/-! MADE BY PROGRAM (witnessworld.py) out of the Statement's table words and the real class files: 19 classes; the members and pool entries that the words name. The judged class is class 1, her method 1. -/
namespace start1
open Jvm.ClassFile
def u (s : String) : CpInfo := .utf8 (stringToUtf16 s)
/-- a pool by its gaps: so many unusable entries, then the entry; so many at the end -/
def gap : Nat → List CpInfo → List CpInfo
  | 0, r => r
  | n + 1, r => .unusable :: gap n r
def poolList (es : List (Nat × CpInfo)) (last : Nat) : List CpInfo := es.foldr (fun e r => gap e.1 (e.2 :: r)) (gap last [])
def pool (es : List (Nat × CpInfo)) (last : Nat) : Array CpInfo := ⟨poolList es last⟩
def fileOf (pool : Array CpInfo) (this : Nat) (attrs : Array Attribute := #[]) (ms : Array MethodInfo := #[]) (fl : Nat := 33) (sup : Nat := 0) (ifs : Array Nat := #[]) (fds : Array FieldInfo := #[]) : ClassFile where
  minorVersion := 0
  majorVersion := 65
  constantPool := pool
  accessFlags := fl
  thisClass := this
  superClass := sup
  interfaces := ifs
  fields := fds
  methods := ms
  attributes := attrs
def plain (name : String) (sup : Option ClassId) : Class where
  name := name
  kind := .ordinary
  loader := none
  accessFlags := 33
  super := sup
  interfaces := #[]
  cf := none
  fields := #[]
  methods := #[]
  instanceTypes := #[]
  staticTypes := #[]
  resolved := #[]
  callSites := []
  init := .initialized
  statics := none
  mirror := none

def pool0 : Array CpInfo := pool [(5, u "<init>"), (0, u "()V"), (1, .class_ 10), (1, u "java/lang/Object")] 113

def k0c0 : Code := { maxStack := 0, maxLocals := 1, code := object_method_1_code, exceptionTable := #[], attributes := #[] }
def k0m0 : Method := { name := "<init>", desc := "()V", sig := { parameters := [], returnType := none }, accessFlags := 1, code := some k0c0 }
/-- java/lang/Object -/
def k0 : Class := { plain "java/lang/Object" none with
  accessFlags := 33
  interfaces := #[]
  cf := some (fileOf pool0 8 #[] #[{ accessFlags := 1, nameIndex := 5, descriptorIndex := 6, attributes := #[] }] 33 0 #[] #[])
  fields := #[]
  methods := #[k0m0]
  instanceTypes := #[]
  staticTypes := #[]
  resolved := Array.replicate 124 none
  statics := none }

def pool1 : Array CpInfo := pool [(2, .class_ 4), (1, u "java/lang/Object"), (0, u "<init>"), (0, u "()V"), (0, .methodref 8 9), (0, .class_ 10), (0, .nameAndType 11 12), (0, u "com/example/helvedir/helvedir/HttpResponse"), (0, u "empty"), (0, u "(I)Lcom/example/helvedir/helvedir/HttpResponse;"), (0, .methodref 8 14), (0, .nameAndType 15 16), (0, u "status"), (0, u "()I"), (0, .methodref 8 18), (0, .nameAndType 19 20), (0, u "headers"), (0, u "()Ljava/util/Map;"), (0, .interfaceMethodref 22 23), (0, .class_ 24), (0, .nameAndType 25 26), (0, u "java/util/Map"), (0, u "isEmpty"), (0, u "()Z"), (0, .methodref 8 28), (0, .nameAndType 29 30), (0, u "body"), (0, u "()Lcom/example/helvedir/helvedir/HttpResponse$Body;"), (0, .interfaceMethodref 32 33), (0, .class_ 34), (0, .nameAndType 35 36), (0, u "com/example/helvedir/helvedir/HttpResponse$Body"), (0, u "length"), (0, u "()J"), (0, .class_ 38), (0, u "com/example/helvedir/helvedir/HttpResponseEmptyPinLaw"), (2, u "law"), (0, u "(I)Z")] 5

def k1m0 : Method := { name := "<init>", desc := "()V", sig := { parameters := [], returnType := none }, accessFlags := 2, code := none }
def k1c1 : Code := { maxStack := 4, maxLocals := 2, code := code, exceptionTable := #[], attributes := #[] }
def k1m1 : Method := { name := "law", desc := "(I)Z", sig := { parameters := [.int], returnType := some .boolean }, accessFlags := 9, code := some k1c1 }
/-- com/example/helvedir/helvedir/HttpResponseEmptyPinLaw -/
def k1 : Class := { plain "com/example/helvedir/helvedir/HttpResponseEmptyPinLaw" (some 0) with
  accessFlags := 49
  interfaces := #[]
  cf := some (fileOf pool1 37 #[] #[{ accessFlags := 2, nameIndex := 5, descriptorIndex := 6, attributes := #[] }, { accessFlags := 9, nameIndex := 41, descriptorIndex := 42, attributes := #[] }] 49 2 #[] #[])
  fields := #[]
  methods := #[k1m0, k1m1]
  instanceTypes := #[]
  staticTypes := #[]
  resolved := Array.replicate 48 none
  statics := none }

def pool2 : Array CpInfo := pool [(1, .methodref 2 3), (0, .class_ 4), (0, .nameAndType 5 6), (0, u "java/lang/Object"), (0, u "<init>"), (0, u "()V"), (0, .class_ 8), (0, u "java/lang/Record")] 13

def k2c0 : Code := { maxStack := 1, maxLocals := 1, code := jdk_30_method_1_code, exceptionTable := #[], attributes := #[] }
def k2m0 : Method := { name := "<init>", desc := "()V", sig := { parameters := [], returnType := none }, accessFlags := 4, code := some k2c0 }
/-- java/lang/Record -/
def k2 : Class := { plain "java/lang/Record" (some 0) with
  accessFlags := 1057
  interfaces := #[]
  cf := some (fileOf pool2 7 #[] #[{ accessFlags := 4, nameIndex := 5, descriptorIndex := 6, attributes := #[] }] 1057 2 #[] #[])
  fields := #[]
  methods := #[k2m0]
  instanceTypes := #[]
  staticTypes := #[]
  resolved := Array.replicate 22 none
  statics := none }

def pool3 : Array CpInfo := pool [(1, .methodref 2 3), (0, .class_ 4), (0, .nameAndType 5 6), (0, u "java/lang/Record"), (0, u "<init>"), (0, u "()V"), (0, .fieldref 8 9), (0, .class_ 10), (0, .nameAndType 11 12), (0, u "com/example/helvedir/helvedir/HttpResponse"), (0, u "status"), (0, u "I"), (0, .fieldref 8 14), (0, .nameAndType 15 16), (0, u "headers"), (0, u "Ljava/util/Map;"), (0, .fieldref 8 18), (0, .nameAndType 19 20), (0, u "body"), (0, u "Lcom/example/helvedir/helvedir/HttpResponse$Body;"), (0, .class_ 22), (0, u "com/example/helvedir/helvedir/HttpResponse$Bytes"), (0, .methodref 21 24), (0, .nameAndType 5 25), (0, u "([B)V"), (0, .interfaceMethodref 27 28), (0, .class_ 29), (0, .nameAndType 30 31), (0, u "java/util/Map"), (0, u "of"), (0, u "()Ljava/util/Map;"), (0, .methodref 8 33), (0, .nameAndType 34 35), (0, u "bytes"), (0, u "([B)Lcom/example/helvedir/helvedir/HttpResponse$Body;"), (0, .methodref 8 37), (0, .nameAndType 5 38), (0, u "(ILjava/util/Map;Lcom/example/helvedir/helvedir/HttpResponse$Body;)V"), (26, u "empty"), (0, u "(I)Lcom/example/helvedir/helvedir/HttpResponse;"), (2, u "()I"), (2, u "()Lcom/example/helvedir/helvedir/HttpResponse$Body;"), (3, .class_ 77), (0, u "com/example/helvedir/helvedir/HttpResponse$Body")] 22

def k3c0 : Code := { maxStack := 2, maxLocals := 4, code := prog_8_method_1_code, exceptionTable := #[], attributes := #[] }
def k3m0 : Method := { name := "<init>", desc := "(ILjava/util/Map;Lcom/example/helvedir/helvedir/HttpResponse$Body;)V", sig := { parameters := [.int, (.object "java/util/Map"), (.object "com/example/helvedir/helvedir/HttpResponse$Body")], returnType := none }, accessFlags := 0, code := some k3c0 }
def k3c1 : Code := { maxStack := 3, maxLocals := 1, code := prog_8_method_2_code, exceptionTable := #[], attributes := #[] }
def k3m1 : Method := { name := "bytes", desc := "([B)Lcom/example/helvedir/helvedir/HttpResponse$Body;", sig := { parameters := [(.array .byte)], returnType := some (.object "com/example/helvedir/helvedir/HttpResponse$Body") }, accessFlags := 8, code := some k3c1 }
def k3c2 : Code := { maxStack := 5, maxLocals := 1, code := prog_8_method_3_code, exceptionTable := #[], attributes := #[] }
def k3m2 : Method := { name := "empty", desc := "(I)Lcom/example/helvedir/helvedir/HttpResponse;", sig := { parameters := [.int], returnType := some (.object "com/example/helvedir/helvedir/HttpResponse") }, accessFlags := 8, code := some k3c2 }
def k3c3 : Code := { maxStack := 1, maxLocals := 1, code := prog_8_method_9_code, exceptionTable := #[], attributes := #[] }
def k3m3 : Method := { name := "status", desc := "()I", sig := { parameters := [], returnType := some .int }, accessFlags := 1, code := some k3c3 }
def k3c4 : Code := { maxStack := 1, maxLocals := 1, code := prog_8_method_10_code, exceptionTable := #[], attributes := #[] }
def k3m4 : Method := { name := "headers", desc := "()Ljava/util/Map;", sig := { parameters := [], returnType := some (.object "java/util/Map") }, accessFlags := 1, code := some k3c4 }
def k3c5 : Code := { maxStack := 1, maxLocals := 1, code := prog_8_method_11_code, exceptionTable := #[], attributes := #[] }
def k3m5 : Method := { name := "body", desc := "()Lcom/example/helvedir/helvedir/HttpResponse$Body;", sig := { parameters := [], returnType := some (.object "com/example/helvedir/helvedir/HttpResponse$Body") }, accessFlags := 1, code := some k3c5 }
/-- com/example/helvedir/helvedir/HttpResponse -/
def k3 : Class := { plain "com/example/helvedir/helvedir/HttpResponse" (some 2) with
  accessFlags := 48
  interfaces := #[]
  cf := some (fileOf pool3 8 #[.nestMembers #[21, 76]] #[{ accessFlags := 0, nameIndex := 5, descriptorIndex := 38, attributes := #[] }, { accessFlags := 8, nameIndex := 34, descriptorIndex := 35, attributes := #[] }, { accessFlags := 8, nameIndex := 65, descriptorIndex := 66, attributes := #[] }, { accessFlags := 1, nameIndex := 11, descriptorIndex := 69, attributes := #[] }, { accessFlags := 1, nameIndex := 15, descriptorIndex := 31, attributes := #[] }, { accessFlags := 1, nameIndex := 19, descriptorIndex := 72, attributes := #[] }] 48 2 #[] #[{ accessFlags := 18, nameIndex := 11, descriptorIndex := 12, attributes := #[] }, { accessFlags := 18, nameIndex := 15, descriptorIndex := 16, attributes := #[] }, { accessFlags := 18, nameIndex := 19, descriptorIndex := 20, attributes := #[] }])
  fields := #[{ name := "status", type := .int, accessFlags := 18, slot := 0, constantValue := 0 }, { name := "headers", type := (.object "java/util/Map"), accessFlags := 18, slot := 1, constantValue := 0 }, { name := "body", type := (.object "com/example/helvedir/helvedir/HttpResponse$Body"), accessFlags := 18, slot := 2, constantValue := 0 }]
  methods := #[k3m0, k3m1, k3m2, k3m3, k3m4, k3m5]
  instanceTypes := #[.int, (.object "java/util/Map"), (.object "com/example/helvedir/helvedir/HttpResponse$Body")]
  staticTypes := #[]
  resolved := Array.replicate 100 none
  statics := none }

def pool4 : Array CpInfo := pool [(2, .class_ 4), (1, u "java/util/Map"), (26, u "()Z"), (4, .class_ 37), (0, u "java/util/Map$Entry"), (43, .fieldref 82 83), (0, .class_ 84), (0, .nameAndType 85 86), (0, u "java/util/ImmutableCollections"), (0, u "EMPTY_MAP"), (0, u "Ljava/util/ImmutableCollections$MapN;"), (6, .class_ 94), (0, u "java/lang/Object"), (10, u "isEmpty"), (2, u "of"), (0, u "()Ljava/util/Map;")] 153

def k4m0 : Method := { name := "isEmpty", desc := "()Z", sig := { parameters := [], returnType := some .boolean }, accessFlags := 1025, code := none }
def k4c1 : Code := { maxStack := 1, maxLocals := 0, code := jdk_72_method_26_code, exceptionTable := #[], attributes := #[] }
def k4m1 : Method := { name := "of", desc := "()Ljava/util/Map;", sig := { parameters := [], returnType := some (.object "java/util/Map") }, accessFlags := 9, code := some k4c1 }
/-- java/util/Map -/
def k4 : Class := { plain "java/util/Map" (some 0) with
  accessFlags := 1537
  interfaces := #[]
  cf := some (fileOf pool4 2 #[.nestMembers #[36]] #[{ accessFlags := 1025, nameIndex := 105, descriptorIndex := 31, attributes := #[] }, { accessFlags := 9, nameIndex := 108, descriptorIndex := 109, attributes := #[] }] 1537 93 #[] #[])
  fields := #[]
  methods := #[k4m0, k4m1]
  instanceTypes := #[]
  staticTypes := #[]
  resolved := Array.replicate 263 none
  statics := none }

def pool5 : Array CpInfo := pool [(2, .class_ 4), (1, u "java/lang/Object"), (0, u "<init>"), (0, u "()V"), (3, .class_ 11), (0, u "java/util/ImmutableCollections$List12"), (0, .class_ 13), (0, u "java/util/ImmutableCollections$ListN"), (3, u "Z"), (29, .class_ 49), (1, u "java/util/ImmutableCollections"), (0, u "$assertionsDisabled"), (5, u "[Ljava/lang/Object;"), (5, u "EMPTY_LIST"), (0, u "Ljava/util/ImmutableCollections$ListN;"), (8, u "EMPTY_LIST_NULLS"), (22, u "SALT32L"), (0, u "J"), (2, u "REVERSE"), (6, u "archivedObjects"), (2, u "EMPTY"), (0, u "Ljava/lang/Object;"), (0, .class_ 112), (0, u "java/util/ImmutableCollections$SetN"), (5, u "EMPTY_SET"), (0, u "Ljava/util/ImmutableCollections$SetN;"), (0, .class_ 121), (0, u "java/util/ImmutableCollections$MapN"), (3, u "EMPTY_MAP"), (0, u "Ljava/util/ImmutableCollections$MapN;"), (4, u "EXPAND_FACTOR"), (0, u "I"), (36, .class_ 170), (0, u "java/util/ImmutableCollections$MapN$MapNIterator"), (0, .class_ 172), (0, u "java/util/ImmutableCollections$MapN$1"), (0, .class_ 174), (0, u "java/util/ImmutableCollections$Map1"), (0, .class_ 176), (0, u "java/util/ImmutableCollections$AbstractImmutableMap"), (0, .class_ 178), (0, u "java/util/ImmutableCollections$SetN$SetNIterator"), (0, .class_ 180), (0, u "java/util/ImmutableCollections$Set12"), (0, .class_ 182), (0, u "java/util/ImmutableCollections$Set12$1"), (0, .class_ 184), (0, u "java/util/ImmutableCollections$AbstractImmutableSet"), (0, .class_ 186), (0, u "java/util/ImmutableCollections$SubList"), (0, .class_ 188), (0, u "java/util/ImmutableCollections$ListItr"), (0, .class_ 190), (0, u "java/util/ImmutableCollections$AbstractImmutableList"), (0, .class_ 192), (0, u "java/util/ImmutableCollections$AbstractImmutableCollection"), (0, .class_ 194), (0, u "java/util/ImmutableCollections$Access"), (0, .class_ 196), (0, u "java/util/ImmutableCollections$Access$1")] 16

def k5m0 : Method := { name := "<init>", desc := "()V", sig := { parameters := [], returnType := none }, accessFlags := 2, code := none }
/-- java/util/ImmutableCollections -/
def k5 : Class := { plain "java/util/ImmutableCollections" (some 0) with
  accessFlags := 32
  interfaces := #[]
  cf := some (fileOf pool5 47 #[.nestMembers #[120, 169, 171, 173, 175, 111, 177, 179, 181, 183, 12, 10, 185, 187, 189, 191, 193, 195]] #[{ accessFlags := 2, nameIndex := 5, descriptorIndex := 6, attributes := #[] }] 32 2 #[] #[{ accessFlags := 26, nameIndex := 95, descriptorIndex := 96, attributes := #[] }, { accessFlags := 26, nameIndex := 99, descriptorIndex := 17, attributes := #[] }, { accessFlags := 10, nameIndex := 106, descriptorIndex := 56, attributes := #[] }, { accessFlags := 26, nameIndex := 109, descriptorIndex := 110, attributes := #[] }, { accessFlags := 24, nameIndex := 62, descriptorIndex := 63, attributes := #[] }, { accessFlags := 24, nameIndex := 72, descriptorIndex := 63, attributes := #[] }, { accessFlags := 24, nameIndex := 118, descriptorIndex := 119, attributes := #[] }, { accessFlags := 24, nameIndex := 125, descriptorIndex := 126, attributes := #[] }, { accessFlags := 24, nameIndex := 131, descriptorIndex := 132, attributes := #[] }, { accessFlags := 4120, nameIndex := 50, descriptorIndex := 17, attributes := #[] }])
  fields := #[{ name := "SALT32L", type := .long, accessFlags := 26, slot := 0, constantValue := 0 }, { name := "REVERSE", type := .boolean, accessFlags := 26, slot := 1, constantValue := 0 }, { name := "archivedObjects", type := (.array (.object "java/lang/Object")), accessFlags := 10, slot := 2, constantValue := 0 }, { name := "EMPTY", type := (.object "java/lang/Object"), accessFlags := 26, slot := 3, constantValue := 0 }, { name := "EMPTY_LIST", type := (.object "java/util/ImmutableCollections$ListN"), accessFlags := 24, slot := 4, constantValue := 0 }, { name := "EMPTY_LIST_NULLS", type := (.object "java/util/ImmutableCollections$ListN"), accessFlags := 24, slot := 5, constantValue := 0 }, { name := "EMPTY_SET", type := (.object "java/util/ImmutableCollections$SetN"), accessFlags := 24, slot := 6, constantValue := 0 }, { name := "EMPTY_MAP", type := (.object "java/util/ImmutableCollections$MapN"), accessFlags := 24, slot := 7, constantValue := 0 }, { name := "EXPAND_FACTOR", type := .int, accessFlags := 24, slot := 8, constantValue := 0 }, { name := "$assertionsDisabled", type := .boolean, accessFlags := 4120, slot := 9, constantValue := 0 }]
  methods := #[k5m0]
  instanceTypes := #[]
  staticTypes := #[.long, .boolean, (.array (.object "java/lang/Object")), (.object "java/lang/Object"), (.object "java/util/ImmutableCollections$ListN"), (.object "java/util/ImmutableCollections$ListN"), (.object "java/util/ImmutableCollections$SetN"), (.object "java/util/ImmutableCollections$MapN"), .int, .boolean]
  resolved := Array.replicate 213 none
  statics := some 0 }

def pool6 : Array CpInfo := pool [(1, .class_ 2), (0, u "java/lang/AutoCloseable"), (0, .class_ 4), (0, u "java/lang/Object")] 7

/-- java/lang/AutoCloseable -/
def k6 : Class := { plain "java/lang/AutoCloseable" (some 0) with
  accessFlags := 1537
  interfaces := #[]
  cf := some (fileOf pool6 1 #[] #[] 1537 3 #[] #[])
  fields := #[]
  methods := #[]
  instanceTypes := #[]
  staticTypes := #[]
  resolved := Array.replicate 12 none
  statics := none }

def pool7 : Array CpInfo := pool [(1, .class_ 2), (0, u "com/example/helvedir/helvedir/HttpResponse$Body"), (0, .class_ 4), (0, u "java/lang/Object"), (0, .class_ 6), (0, u "java/lang/AutoCloseable"), (0, u "length"), (0, u "()J"), (12, .class_ 22), (0, u "com/example/helvedir/helvedir/HttpResponse")] 2

def k7m0 : Method := { name := "length", desc := "()J", sig := { parameters := [], returnType := some .long }, accessFlags := 1025, code := none }
/-- com/example/helvedir/helvedir/HttpResponse$Body -/
def k7 : Class := { plain "com/example/helvedir/helvedir/HttpResponse$Body" (some 0) with
  accessFlags := 1536
  interfaces := #[6]
  cf := some (fileOf pool7 1 #[.nestHost 21] #[{ accessFlags := 1025, nameIndex := 7, descriptorIndex := 8, attributes := #[] }] 1536 3 #[5] #[])
  fields := #[]
  methods := #[k7m0]
  instanceTypes := #[]
  staticTypes := #[]
  resolved := Array.replicate 25 none
  statics := none }

def pool8 : Array CpInfo := pool [(1, .methodref 2 3), (0, .class_ 4), (0, .nameAndType 5 6), (0, u "java/lang/Object"), (0, u "<init>"), (0, u "()V"), (0, .fieldref 8 9), (0, .class_ 10), (0, .nameAndType 11 12), (0, u "com/example/helvedir/helvedir/HttpResponse$Bytes"), (0, u "bytes"), (0, u "[B"), (2, u "written"), (0, u "I"), (12, .class_ 30), (0, u "com/example/helvedir/helvedir/HttpResponse$Body"), (0, u "PIECE"), (2, u "([B)V"), (2, u "length"), (0, u "()J"), (9, .class_ 49), (0, u "com/example/helvedir/helvedir/HttpResponse")] 3

def k8c0 : Code := { maxStack := 2, maxLocals := 2, code := prog_10_method_1_code, exceptionTable := #[], attributes := #[] }
def k8m0 : Method := { name := "<init>", desc := "([B)V", sig := { parameters := [(.array .byte)], returnType := none }, accessFlags := 0, code := some k8c0 }
def k8c1 : Code := { maxStack := 2, maxLocals := 1, code := prog_10_method_2_code, exceptionTable := #[], attributes := #[] }
def k8m1 : Method := { name := "length", desc := "()J", sig := { parameters := [], returnType := some .long }, accessFlags := 1, code := some k8c1 }
/-- com/example/helvedir/helvedir/HttpResponse$Bytes -/
def k8 : Class := { plain "com/example/helvedir/helvedir/HttpResponse$Bytes" (some 0) with
  accessFlags := 48
  interfaces := #[7]
  cf := some (fileOf pool8 8 #[.nestHost 48] #[{ accessFlags := 0, nameIndex := 5, descriptorIndex := 34, attributes := #[] }, { accessFlags := 1, nameIndex := 37, descriptorIndex := 38, attributes := #[] }] 48 2 #[29] #[{ accessFlags := 26, nameIndex := 31, descriptorIndex := 16, attributes := #[] }, { accessFlags := 18, nameIndex := 11, descriptorIndex := 12, attributes := #[] }, { accessFlags := 2, nameIndex := 15, descriptorIndex := 16, attributes := #[] }])
  fields := #[{ name := "PIECE", type := .int, accessFlags := 26, slot := 0, constantValue := 0 }, { name := "bytes", type := (.array .byte), accessFlags := 18, slot := 0, constantValue := 0 }, { name := "written", type := .int, accessFlags := 2, slot := 1, constantValue := 0 }]
  methods := #[k8m0, k8m1]
  instanceTypes := #[(.array .byte), .int]
  staticTypes := #[.int]
  resolved := Array.replicate 53 none
  statics := none }

def pool9 : Array CpInfo := pool [(2, .class_ 4), (1, u "java/lang/Object"), (0, u "<init>"), (0, u "()V"), (1, .class_ 10), (1, u "java/util/AbstractMap"), (42, .class_ 54), (0, u "java/util/Map"), (9, u "keySet"), (0, u "Ljava/util/Set;"), (0, .class_ 67), (0, u "java/util/AbstractMap$1"), (5, u "values"), (0, u "Ljava/util/Collection;"), (0, .class_ 76), (0, u "java/util/AbstractMap$2"), (104, .class_ 182), (0, u "java/util/AbstractMap$ViewCollection"), (0, .class_ 184), (0, u "java/util/AbstractMap$SimpleImmutableEntry"), (0, .class_ 186), (0, u "java/util/AbstractMap$SimpleEntry"), (0, .class_ 188), (0, u "java/util/AbstractMap$2$1"), (0, .class_ 190), (0, u "java/util/AbstractMap$1$1")] 5

def k9m0 : Method := { name := "<init>", desc := "()V", sig := { parameters := [], returnType := none }, accessFlags := 4, code := none }
/-- java/util/AbstractMap -/
def k9 : Class := { plain "java/util/AbstractMap" (some 0) with
  accessFlags := 1057
  interfaces := #[4]
  cf := some (fileOf pool9 8 #[.nestMembers #[181, 183, 185, 75, 187, 66, 189]] #[{ accessFlags := 4, nameIndex := 5, descriptorIndex := 6, attributes := #[] }] 1057 2 #[53] #[{ accessFlags := 128, nameIndex := 64, descriptorIndex := 65, attributes := #[] }, { accessFlags := 128, nameIndex := 73, descriptorIndex := 74, attributes := #[] }])
  fields := #[{ name := "keySet", type := (.object "java/util/Set"), accessFlags := 128, slot := 0, constantValue := 0 }, { name := "values", type := (.object "java/util/Collection"), accessFlags := 128, slot := 1, constantValue := 0 }]
  methods := #[k9m0]
  instanceTypes := #[(.object "java/util/Set"), (.object "java/util/Collection")]
  staticTypes := #[]
  resolved := Array.replicate 196 none
  statics := none }

def pool10 : Array CpInfo := pool [(1, .class_ 2), (0, u "java/io/Serializable"), (0, .class_ 4), (0, u "java/lang/Object")] 2

/-- java/io/Serializable -/
def k10 : Class := { plain "java/io/Serializable" (some 0) with
  accessFlags := 1537
  interfaces := #[]
  cf := some (fileOf pool10 1 #[] #[] 1537 3 #[] #[])
  fields := #[]
  methods := #[]
  instanceTypes := #[]
  staticTypes := #[]
  resolved := Array.replicate 7 none
  statics := none }

def pool11 : Array CpInfo := pool [(2, .class_ 4), (1, u "java/util/AbstractMap"), (0, u "<init>"), (0, u "()V"), (1, .class_ 10), (1, u "java/util/ImmutableCollections"), (3, .class_ 16), (1, u "java/util/ImmutableCollections$AbstractImmutableMap"), (2, .class_ 20), (0, u "java/io/Serializable")] 66

def k11m0 : Method := { name := "<init>", desc := "()V", sig := { parameters := [], returnType := none }, accessFlags := 0, code := none }
/-- java/util/ImmutableCollections$AbstractImmutableMap -/
def k11 : Class := { plain "java/util/ImmutableCollections$AbstractImmutableMap" (some 9) with
  accessFlags := 1056
  interfaces := #[10]
  cf := some (fileOf pool11 14 #[.nestHost 8] #[{ accessFlags := 0, nameIndex := 5, descriptorIndex := 6, attributes := #[] }] 1056 2 #[19] #[])
  fields := #[]
  methods := #[k11m0]
  instanceTypes := #[(.object "java/util/Set"), (.object "java/util/Collection")]
  staticTypes := #[]
  resolved := Array.replicate 87 none
  statics := none }

def pool12 : Array CpInfo := pool [(1, .class_ 2), (0, u "java/util/ImmutableCollections"), (1, .class_ 6), (1, u "java/util/ImmutableCollections$AbstractImmutableMap"), (9, .fieldref 17 18), (0, .class_ 19), (0, .nameAndType 20 21), (0, u "java/util/ImmutableCollections$MapN"), (0, u "size"), (0, u "I"), (4, u "table"), (0, u "[Ljava/lang/Object;"), (87, u "isEmpty"), (0, u "()Z")] 32

def k12c0 : Code := { maxStack := 1, maxLocals := 1, code := jdk_2605_method_7_code, exceptionTable := #[], attributes := #[] }
def k12m0 : Method := { name := "isEmpty", desc := "()Z", sig := { parameters := [], returnType := some .boolean }, accessFlags := 1, code := some k12c0 }
/-- java/util/ImmutableCollections$MapN -/
def k12 : Class := { plain "java/util/ImmutableCollections$MapN" (some 11) with
  accessFlags := 48
  interfaces := #[]
  cf := some (fileOf pool12 17 #[.nestHost 1] #[{ accessFlags := 1, nameIndex := 115, descriptorIndex := 116, attributes := #[] }] 48 4 #[] #[{ accessFlags := 16, nameIndex := 26, descriptorIndex := 27, attributes := #[] }, { accessFlags := 16, nameIndex := 20, descriptorIndex := 21, attributes := #[] }])
  fields := #[{ name := "table", type := (.array (.object "java/lang/Object")), accessFlags := 16, slot := 2, constantValue := 0 }, { name := "size", type := .int, accessFlags := 16, slot := 3, constantValue := 0 }]
  methods := #[k12m0]
  instanceTypes := #[(.object "java/util/Set"), (.object "java/util/Collection"), (.array (.object "java/lang/Object")), .int]
  staticTypes := #[]
  resolved := Array.replicate 149 none
  statics := none }

def pool13 : Array CpInfo := pool [(1, u "java/lang/Cloneable"), (0, .class_ 1), (0, u "java/lang/Object"), (0, .class_ 3)] 3

/-- java/lang/Cloneable -/
def k13 : Class := { plain "java/lang/Cloneable" (some 0) with
  accessFlags := 1537
  interfaces := #[]
  cf := some (fileOf pool13 2 #[] #[] 1537 4 #[] #[])
  fields := #[]
  methods := #[]
  instanceTypes := #[]
  staticTypes := #[]
  resolved := Array.replicate 8 none
  statics := none }

/-- the primitive byte -/
def k14 : Class := { plain "byte" none with kind := .primitive 'B', accessFlags := 0x411 }
/-- [B -/
def k15 : Class := { plain "[B" (some 0) with kind := .array 14 .byte, interfaces := #[13, 10], accessFlags := 1041 }

/-- the primitive int -/
def k16 : Class := { plain "int" none with kind := .primitive 'I', accessFlags := 0x411 }
/-- [I -/
def k17 : Class := { plain "[I" (some 0) with kind := .array 16 .int, interfaces := #[13, 10], accessFlags := 1041 }

/-- [Ljava/lang/Object; -/
def k18 : Class := { plain "[Ljava/lang/Object;" (some 0) with kind := .array 0 (.object "java/lang/Object"), interfaces := #[13, 10], accessFlags := 1041 }

def heap : Heap := #[{ cls := 5, slots := #[.long 0, .int 0, .null, .null, .null, .null, .null, .ref 2, .int 0, .int 0], vm := .statics 5 },
  { cls := 18, slots := #[], vm := .none },
  { cls := 12, slots := #[.null, .null, .ref 1, .int 0], vm := .none }]
def classes : Array Class := #[k0, k1, k2, k3, k4, k5, k6, k7, k8, k9, k10, k11, k12, k13, k14, k15, k16, k17, k18]
def interned : List (Array UInt16 × Addr) := []
def slotsUsed : Nat := 14
def theMethod : MethodId := ⟨1, 1⟩
def args0 : Array Value := #[.int 5]
def aboutOver (below : List Frame) : State where
  vm := { classes := classes, interned := interned.toArray }
  heap := heap
  slotsUsed := slotsUsed
  threads := #[{ frames := .invoking theMethod args0 :: below }]
def below0 : List Frame := [.native { method := ⟨0, 0⟩, args := #[] }]
def about1 : State := aboutOver below0
def p0 : Program := .bare "" "" ""
def e0 : Env := launch0.env 0 0 0
theorem w_frames : about1.frames = Frame.invoking theMethod args0 :: below0 := rfl
set_option maxRecDepth 65536 in
theorem w_args : argsFit about1.vm theMethod args0 = true := by decide +kernel
set_option maxRecDepth 65536 in
theorem w_heap : heapFits about1 = true := by decide +kernel
set_option maxRecDepth 65536 in
theorem w_runnable : about1.curStatus? = some .runnable := by decide +kernel
set_option maxRecDepth 65536 in
theorem w_alone : about1.alone = true := by decide +kernel
set_option maxRecDepth 65536 in
theorem w_named : about1.methodNamed? x = some theMethod := by decide +kernel
set_option maxRecDepth 65536 in
theorem w_hears : about1.hears theMethod below0 = true := by decide +kernel
set_option maxRecDepth 65536 in
theorem w_ripe : about1.ripe theMethod args0 below0 = true := by decide +kernel
theorem w_running : about1.status = .running := rfl
set_option maxRecDepth 65536 in
theorem w_room : about1.hasRoom e0.platform room_1 = true :=
  launch0.hasRoom_least _ room_1 (by decide +kernel) (by decide +kernel) (by decide +kernel) (by decide +kernel) (by decide +kernel) (by decide +kernel)
theorem allAtoms_all (ts : List Jvm.Cond) (a : Array Jvm.Value) (st : Jvm.State) : (allAtoms ts).before a st = ts.all (fun c => c.before a st) := by
  induction ts with
  | nil => rfl
  | cons c t ih =>
    show (Jvm.Cond.and c (allAtoms t)).before a st = _
    rw [Jvm.Cond.before_and, ih, List.all_cons]
def words1 : List Jvm.Cond := Jvm.Cond.code x code maxLocals ret :: tables_1
/-- a 'code' word, met by the world's own term for the bytes: nothing is compared byte by byte -/
theorem code_word {y : MethodName} {bytes : ByteArray} {mx : Nat} {rt : Option FieldType} {a : Array Value} {s : State} {m : MethodId} {meth : Method} {c : Code} (h1 : s.methodNamed? y = some m) (h2 : s.vm.method? m = some meth) (h3 : meth.code = some c) (h4 : c.code = bytes)
    (h5 : (c.maxLocals == mx && c.exceptionTable.isEmpty && decide (c.maxStack ≤ mostOperands) && decide (meth.sig.returnType = rt) && !meth.locks && decide (parseMethodDescriptor y.desc = some meth.sig)) = true) : (Jvm.Cond.code y bytes mx rt).before a s = true := by
  simp only [Bool.and_eq_true, beq_iff_eq, Bool.not_eq_true', decide_eq_true_eq] at h5
  obtain ⟨⟨⟨⟨⟨g1, g2⟩, g3⟩, g4⟩, g5⟩, g6⟩ := h5
  simp [Cond.before, Cond.holds, Cond.value, h1, h2, h3, h4, g1, g2, g3, g4, g5, g6]
def isCode : Jvm.Cond → Bool
  | .code _ _ _ _ => true
  | _ => false
theorem all_split {L : List Jvm.Cond} {P : Jvm.Cond → Bool} (h1 : L.all (fun c => isCode c || P c) = true) (h2 : ∀ c ∈ L.filter isCode, P c = true) : L.all P = true := by
  refine List.all_eq_true.mpr fun c hc => ?_
  have h := List.all_eq_true.mp h1 c hc
  rcases Bool.eq_false_or_eq_true (isCode c) with hi | hi
  · exact h2 c (List.mem_filter.mpr ⟨hc, hi⟩)
  · simpa [hi] using h
set_option maxRecDepth 65536 in
theorem w_c0 : (Jvm.Cond.code x code maxLocals ret).before args0 about1 = true := code_word (m := ⟨1, 1⟩) (meth := k1m1) (c := k1c1) (by decide +kernel) rfl rfl rfl (by decide +kernel)
set_option maxRecDepth 65536 in
theorem w_c1 : (Jvm.Cond.code ({ cls := "com/example/helvedir/helvedir/HttpResponse", name := "empty", desc := "(I)Lcom/example/helvedir/helvedir/HttpResponse;" } : Jvm.MethodName) prog_8_method_3_code (1 : Nat) (Option.some (Jvm.ClassFile.FieldType.object "com/example/helvedir/helvedir/HttpResponse"))).before args0 about1 = true := code_word (m := ⟨3, 2⟩) (meth := k3m2) (c := k3c2) (by decide +kernel) rfl rfl rfl (by decide +kernel)
set_option maxRecDepth 65536 in
theorem w_c2 : (Jvm.Cond.code ({ cls := "java/util/Map", name := "of", desc := "()Ljava/util/Map;" } : Jvm.MethodName) jdk_72_method_26_code (0 : Nat) (Option.some (Jvm.ClassFile.FieldType.object "java/util/Map"))).before args0 about1 = true := code_word (m := ⟨4, 1⟩) (meth := k4m1) (c := k4c1) (by decide +kernel) rfl rfl rfl (by decide +kernel)
set_option maxRecDepth 65536 in
theorem w_c3 : (Jvm.Cond.code ({ cls := "com/example/helvedir/helvedir/HttpResponse", name := "bytes", desc := "([B)Lcom/example/helvedir/helvedir/HttpResponse$Body;" } : Jvm.MethodName) prog_8_method_2_code (1 : Nat) (Option.some (Jvm.ClassFile.FieldType.object "com/example/helvedir/helvedir/HttpResponse$Body"))).before args0 about1 = true := code_word (m := ⟨3, 1⟩) (meth := k3m1) (c := k3c1) (by decide +kernel) rfl rfl rfl (by decide +kernel)
set_option maxRecDepth 65536 in
theorem w_c4 : (Jvm.Cond.code ({ cls := "com/example/helvedir/helvedir/HttpResponse$Bytes", name := "<init>", desc := "([B)V" } : Jvm.MethodName) prog_10_method_1_code (2 : Nat) (Option.none : Option Jvm.ClassFile.FieldType)).before args0 about1 = true := code_word (m := ⟨8, 0⟩) (meth := k8m0) (c := k8c0) (by decide +kernel) rfl rfl rfl (by decide +kernel)
set_option maxRecDepth 65536 in
theorem w_c5 : (Jvm.Cond.code ({ cls := "java/lang/Object", name := "<init>", desc := "()V" } : Jvm.MethodName) object_method_1_code (1 : Nat) (Option.none : Option Jvm.ClassFile.FieldType)).before args0 about1 = true := code_word (m := ⟨0, 0⟩) (meth := k0m0) (c := k0c0) (by decide +kernel) rfl rfl rfl (by decide +kernel)
set_option maxRecDepth 65536 in
theorem w_c6 : (Jvm.Cond.code ({ cls := "com/example/helvedir/helvedir/HttpResponse", name := "<init>", desc := "(ILjava/util/Map;Lcom/example/helvedir/helvedir/HttpResponse$Body;)V" } : Jvm.MethodName) prog_8_method_1_code (4 : Nat) (Option.none : Option Jvm.ClassFile.FieldType)).before args0 about1 = true := code_word (m := ⟨3, 0⟩) (meth := k3m0) (c := k3c0) (by decide +kernel) rfl rfl rfl (by decide +kernel)
set_option maxRecDepth 65536 in
theorem w_c7 : (Jvm.Cond.code ({ cls := "java/lang/Record", name := "<init>", desc := "()V" } : Jvm.MethodName) jdk_30_method_1_code (1 : Nat) (Option.none : Option Jvm.ClassFile.FieldType)).before args0 about1 = true := code_word (m := ⟨2, 0⟩) (meth := k2m0) (c := k2c0) (by decide +kernel) rfl rfl rfl (by decide +kernel)
set_option maxRecDepth 65536 in
theorem w_c8 : (Jvm.Cond.code ({ cls := "com/example/helvedir/helvedir/HttpResponse", name := "status", desc := "()I" } : Jvm.MethodName) prog_8_method_9_code (1 : Nat) (Option.some Jvm.ClassFile.FieldType.int)).before args0 about1 = true := code_word (m := ⟨3, 3⟩) (meth := k3m3) (c := k3c3) (by decide +kernel) rfl rfl rfl (by decide +kernel)
set_option maxRecDepth 65536 in
theorem w_c9 : (Jvm.Cond.code ({ cls := "com/example/helvedir/helvedir/HttpResponse", name := "headers", desc := "()Ljava/util/Map;" } : Jvm.MethodName) prog_8_method_10_code (1 : Nat) (Option.some (Jvm.ClassFile.FieldType.object "java/util/Map"))).before args0 about1 = true := code_word (m := ⟨3, 4⟩) (meth := k3m4) (c := k3c4) (by decide +kernel) rfl rfl rfl (by decide +kernel)
set_option maxRecDepth 65536 in
theorem w_c10 : (Jvm.Cond.code ({ cls := "java/util/ImmutableCollections$MapN", name := "isEmpty", desc := "()Z" } : Jvm.MethodName) jdk_2605_method_7_code (1 : Nat) (Option.some Jvm.ClassFile.FieldType.boolean)).before args0 about1 = true := code_word (m := ⟨12, 0⟩) (meth := k12m0) (c := k12c0) (by decide +kernel) rfl rfl rfl (by decide +kernel)
set_option maxRecDepth 65536 in
theorem w_c11 : (Jvm.Cond.code ({ cls := "com/example/helvedir/helvedir/HttpResponse", name := "body", desc := "()Lcom/example/helvedir/helvedir/HttpResponse$Body;" } : Jvm.MethodName) prog_8_method_11_code (1 : Nat) (Option.some (Jvm.ClassFile.FieldType.object "com/example/helvedir/helvedir/HttpResponse$Body"))).before args0 about1 = true := code_word (m := ⟨3, 5⟩) (meth := k3m5) (c := k3c5) (by decide +kernel) rfl rfl rfl (by decide +kernel)
set_option maxRecDepth 65536 in
theorem w_c12 : (Jvm.Cond.code ({ cls := "com/example/helvedir/helvedir/HttpResponse$Bytes", name := "length", desc := "()J" } : Jvm.MethodName) prog_10_method_2_code (1 : Nat) (Option.some Jvm.ClassFile.FieldType.long)).before args0 about1 = true := code_word (m := ⟨8, 1⟩) (meth := k8m1) (c := k8c1) (by decide +kernel) rfl rfl rfl (by decide +kernel)
def codes1 : List Jvm.Cond := [Jvm.Cond.code x code maxLocals ret, Jvm.Cond.code ({ cls := "com/example/helvedir/helvedir/HttpResponse", name := "empty", desc := "(I)Lcom/example/helvedir/helvedir/HttpResponse;" } : Jvm.MethodName) prog_8_method_3_code (1 : Nat) (Option.some (Jvm.ClassFile.FieldType.object "com/example/helvedir/helvedir/HttpResponse")), Jvm.Cond.code ({ cls := "java/util/Map", name := "of", desc := "()Ljava/util/Map;" } : Jvm.MethodName) jdk_72_method_26_code (0 : Nat) (Option.some (Jvm.ClassFile.FieldType.object "java/util/Map")), Jvm.Cond.code ({ cls := "com/example/helvedir/helvedir/HttpResponse", name := "bytes", desc := "([B)Lcom/example/helvedir/helvedir/HttpResponse$Body;" } : Jvm.MethodName) prog_8_method_2_code (1 : Nat) (Option.some (Jvm.ClassFile.FieldType.object "com/example/helvedir/helvedir/HttpResponse$Body")), Jvm.Cond.code ({ cls := "com/example/helvedir/helvedir/HttpResponse$Bytes", name := "<init>", desc := "([B)V" } : Jvm.MethodName) prog_10_method_1_code (2 : Nat) (Option.none : Option Jvm.ClassFile.FieldType), Jvm.Cond.code ({ cls := "java/lang/Object", name := "<init>", desc := "()V" } : Jvm.MethodName) object_method_1_code (1 : Nat) (Option.none : Option Jvm.ClassFile.FieldType), Jvm.Cond.code ({ cls := "com/example/helvedir/helvedir/HttpResponse", name := "<init>", desc := "(ILjava/util/Map;Lcom/example/helvedir/helvedir/HttpResponse$Body;)V" } : Jvm.MethodName) prog_8_method_1_code (4 : Nat) (Option.none : Option Jvm.ClassFile.FieldType), Jvm.Cond.code ({ cls := "java/lang/Record", name := "<init>", desc := "()V" } : Jvm.MethodName) jdk_30_method_1_code (1 : Nat) (Option.none : Option Jvm.ClassFile.FieldType), Jvm.Cond.code ({ cls := "com/example/helvedir/helvedir/HttpResponse", name := "status", desc := "()I" } : Jvm.MethodName) prog_8_method_9_code (1 : Nat) (Option.some Jvm.ClassFile.FieldType.int), Jvm.Cond.code ({ cls := "com/example/helvedir/helvedir/HttpResponse", name := "headers", desc := "()Ljava/util/Map;" } : Jvm.MethodName) prog_8_method_10_code (1 : Nat) (Option.some (Jvm.ClassFile.FieldType.object "java/util/Map")), Jvm.Cond.code ({ cls := "java/util/ImmutableCollections$MapN", name := "isEmpty", desc := "()Z" } : Jvm.MethodName) jdk_2605_method_7_code (1 : Nat) (Option.some Jvm.ClassFile.FieldType.boolean), Jvm.Cond.code ({ cls := "com/example/helvedir/helvedir/HttpResponse", name := "body", desc := "()Lcom/example/helvedir/helvedir/HttpResponse$Body;" } : Jvm.MethodName) prog_8_method_11_code (1 : Nat) (Option.some (Jvm.ClassFile.FieldType.object "com/example/helvedir/helvedir/HttpResponse$Body")), Jvm.Cond.code ({ cls := "com/example/helvedir/helvedir/HttpResponse$Bytes", name := "length", desc := "()J" } : Jvm.MethodName) prog_10_method_2_code (1 : Nat) (Option.some Jvm.ClassFile.FieldType.long)]
set_option maxRecDepth 65536 in
theorem codes_eq : words1.filter isCode = codes1 := rfl
theorem w_codes : ∀ c ∈ words1.filter isCode, c.before args0 about1 = true := by
  rw [codes_eq]
  intro c hc
  simp only [codes1, List.mem_cons, List.not_mem_nil, or_false] at hc
  rcases hc with rfl | rfl | rfl | rfl | rfl | rfl | rfl | rfl | rfl | rfl | rfl | rfl | rfl
  · exact w_c0
  · exact w_c1
  · exact w_c2
  · exact w_c3
  · exact w_c4
  · exact w_c5
  · exact w_c6
  · exact w_c7
  · exact w_c8
  · exact w_c9
  · exact w_c10
  · exact w_c11
  · exact w_c12
set_option maxRecDepth 65536 in
theorem w_t1 : (words1.take 24).all (fun c => isCode c || c.before args0 about1) = true := by decide +kernel
set_option maxRecDepth 65536 in
theorem w_t2 : ((words1.drop 24).take 24).all (fun c => isCode c || c.before args0 about1) = true := by decide +kernel
set_option maxRecDepth 65536 in
theorem w_t3 : (((words1.drop 24).drop 24).take 24).all (fun c => isCode c || c.before args0 about1) = true := by decide +kernel
set_option maxRecDepth 65536 in
theorem w_t4 : (((words1.drop 24).drop 24).drop 24).all (fun c => isCode c || c.before args0 about1) = true := by decide +kernel
theorem w_tables : (allAtoms (Jvm.Cond.code x code maxLocals ret :: tables_1)).before args0 about1 = true := by
  rw [allAtoms_all]
  show words1.all (fun c => c.before args0 about1) = true
  refine all_split ?_ w_codes
  rw [← List.take_append_drop 24 words1, List.all_append, w_t1, ← List.take_append_drop 24 (words1.drop 24), List.all_append, w_t2, ← List.take_append_drop 24 ((words1.drop 24).drop 24), List.all_append, w_t3, w_t4]
  rfl
set_option maxRecDepth 65536 in
theorem w_rest : rest_1_c.before args0 about1 = true := by decide +kernel
set_option maxRecDepth 65536 in
theorem w_case : (Jvm.Cond.and given_1 narrow_1).before args0 about1 = true := by decide +kernel
theorem w_applies : (headSpec (Jvm.Cond.code x code maxLocals ret :: tables_1) room_1).applies x e0.platform about1 = true :=
  (Spec.applies_iff w_frames).mpr ⟨w_running, w_runnable, w_alone, w_named, w_hears, w_ripe, w_room, w_tables⟩
theorem atStart : AtStart classFile x code maxLocals ret World_1 tables_1 room_1 Calls_1 rest_1 Pre_1 launch0 p0 e0 about1 theMethod args0 below0 :=
  ⟨lists_1, trivial, launch0.admits_env _ _ _, launch0.least_env, fairChoices_fair.cas, fairChoices_fair.clock, w_frames, w_args, w_heap, w_applies, trivial, w_rest, w_case⟩
end start1
theorem witness_1 : WitnessClaimed_1 := ⟨start1.p0, start1.e0, start1.about1, start1.theMethod, start1.args0, start1.below0, start1.atStart⟩
end Jvm.Pilot.@@N@@
