import JvmDerived
import JvmDerived.Pilot.@@N@@Statement
import JvmDerived.Pilot.@@N@@Code
set_option linter.unusedVariables false
set_option linter.unusedSimpArgs false
namespace Jvm.Pilot.@@N@@
open Jvm Jvm.ClassFile Sem Op Lib Jvm.Free Jvm.Stand Jvm.LawKit Jvm.RoadKit Bundle Jvm.Pilot.@@N@@.Jvm.D
section OwnKit
variable {p : Program} {l : Launch} {e : Env} {R : Room} {s : State} {m : MethodId} {args : Array Value} {below : List Frame} {meth : Method} {c : Code} {T S S' : State} {locs : List Loc} {cells slots : Nat} {F : Outcome → State → Prop}
def Go (p : Program) (e : Env) (below : List Frame) (S : State) (F : Outcome → State → Prop) : Prop := ∃ (U : State) (o : Outcome), Steps p.tables e below S U ∧ U.status = .running ∧ Ended U below o ∧ F o U
theorem goIn {g g' : JFrame} (q : g = g') (k : Go p e below (T.setTop g') F) : ∃ (U : State) (o : Outcome), Steps p.tables e below (T.setTop g) U ∧ U.status = .running ∧ Ended U below o ∧ F o U := q ▸ k
theorem Go.by (st : ∀ t, Steps p.tables e below S' t → Steps p.tables e below S t) (k : Go p e below S' F) : Go p e below S F := by
  obtain ⟨U, o, h1, h2⟩ := k
  exact ⟨U, o, st _ h1, h2⟩
theorem Go.at (st : Steps p.tables e below S S') (k : Go p e below S' F) : Go p e below S F := by
  obtain ⟨U, o, h1, h2⟩ := k
  exact ⟨U, o, st.trans h1, h2⟩
theorem goRet {W : Option Value → Heap → List Loc → Prop} {C N : Nat} {v : Option Value} {g : JFrame} (X : Stand p l e R s m args below meth c T locs cells slots) (hv : meth.sig.returnType = none → v = none) (hlk : meth.locks = false)
    (hst : ∀ fs, (∀ (f : JFrame) (acts : List Action), f.method = m → f.locked = none → f.entered = [] → (doReturn e (T.setTop f) acts v).1 = T.setFrames fs) → Steps p.tables e below (T.setTop g) (T.setFrames fs))
    (hc : cells ≤ C) (hs : slots ≤ N) (hq : W v T.heap locs) : Go p e below (T.setTop g) (fun o U => ∃ v L, o = .returned v ∧ W v U.heap L ∧ FrameEnd s o U L C N) := by
  obtain ⟨fs, hr, hrun, hended, hW, hsame⟩ := X.leave (v := v) hv hlk
  exact ⟨_, _, hst fs hr, hrun, hended, _, _, rfl, hq, ⟨_, rfl⟩, hW, hsame.mono hc hs⟩
theorem goRetW {W : Option Value → Heap → List Loc → Prop} {C N n : Nat} {v : Option Value} {g : JFrame} {vm₁ : Vm} (X : Stand p l e R (s.setVm vm₁) m args below meth c T locs cells slots) (hS : s.Since vm₁ n) (hn : n ≤ T.heap.size) (hv : meth.sig.returnType = none → v = none) (hlk : meth.locks = false)
    (hst : ∀ fs, (∀ (f : JFrame) (acts : List Action), f.method = m → f.locked = none → f.entered = [] → (doReturn e (T.setTop f) acts v).1 = T.setFrames fs) → Steps p.tables e below (T.setTop g) (T.setFrames fs))
    (hc : cells ≤ C) (hs : slots ≤ N) (hq : W v T.heap locs) : Go p e below (T.setTop g) (fun o U => ∃ v L, o = .returned v ∧ W v U.heap L ∧ ReturnedEndW s o U L C N) := by
  obtain ⟨fs, hr, hrun, hended, h1, h2, h3, h4⟩ := X.leaveW hS hn (v := v) hv hlk
  exact ⟨_, _, hst fs hr, hrun, hended, _, _, rfl, hq, h1, h2, h3, h4.mono hc hs⟩
/-- it returns w; nothing old is written; the heap is h0 -/
def PureQ (w : Option Value) (h0 : Heap) (n0 : Nat) (v : Option Value) (h : Heap) (L : List Loc) : Prop := v = w ∧ Fr n0 L ∧ h = h0
end OwnKit
theorem pd_0 : parseMethodDescriptor "()Z" = some ⟨[], some .boolean⟩ := by decide +kernel
theorem own_enum {s : State} {args : Array Value} {C n d O f : String} {k : Int32} (hx : (Jvm.Cond.exactly (Jvm.Term.static C n d) C).value args s none s [] = some true)
    (he : (Jvm.Cond.eq (Jvm.Term.field (Jvm.Term.static C n d) O f "I") (Jvm.Term.int k)).value args s none s [] = some true)
    (hi : (Jvm.Cond.initialized C).before args s = true) (hl : (Jvm.Cond.laysStatic C n d).before args s = true) :
    ∃ a, Sta s s.heap C n d (.ref a) ∧ Exa s s.heap a C ∧ Fld s s.heap a O f "I" (.int k) := by
  obtain ⟨a, ea⟩ := exa_v hx
  exact ⟨a, Sta.start ea (Or.inr ⟨hi, hl⟩), Exa.start ea hx, Fld.start ((fld_at ea).symm.trans (eqv_i (F := Jvm.Term.int k) rfl he))⟩
theorem own_n1 : nar .boolean (1 : Int32) = 1 := by decide
theorem own_n0 : nar .boolean (0 : Int32) = 0 := by decide
theorem ef_rm1 (m : MethodId) (x0 : Addr) : entryFrame m #[(.ref x0)] 1 = mkF m 0 #[.val (.ref x0)] [] := by first | (simp [entryFrame, mkF, argsToLocals, Value.category]; done) | rfl
theorem pn_rm1 : plainName "com/example/runafter/runafter/Status" = true := by first | (simp [plainName, overriddenIn]; done) | decide +kernel
theorem d1_0 : decode prog_21_method_5_code 0 = .ok (.aload_n 0, 1) := by decide +kernel
theorem d1_1 : decode prog_21_method_5_code 1 = .ok (.getstatic 7, 3) := by decide +kernel
theorem d1_4 : decode prog_21_method_5_code 4 = .ok (.if_acmp .eq 10, 3) := by decide +kernel
theorem d1_7 : decode prog_21_method_5_code 7 = .ok (.aload_n 0, 1) := by decide +kernel
theorem d1_8 : decode prog_21_method_5_code 8 = .ok (.getstatic 13, 3) := by decide +kernel
theorem d1_11 : decode prog_21_method_5_code 11 = .ok (.if_acmp .ne 7, 3) := by decide +kernel
theorem d1_14 : decode prog_21_method_5_code 14 = .ok (.iconst 1, 1) := by decide +kernel
theorem d1_15 : decode prog_21_method_5_code 15 = .ok (.goto 4, 3) := by decide +kernel
theorem d1_18 : decode prog_21_method_5_code 18 = .ok (.iconst 0, 1) := by decide +kernel
theorem d1_19 : decode prog_21_method_5_code 19 = .ok (.ireturn, 1) := by decide +kernel
set_option maxRecDepth 65536 in
set_option maxHeartbeats 40000000 in
theorem rm1 (l : Launch) (Z : State) (a0 : Array Value) (hw : ∀ d ∈ tables_1, d.before a0 Z = true) (ws : List Jvm.Cond) (a : Addr) (c1 c3 : Addr) (h0 : Heap) (n0 : Nat) (S1 : Sta Z h0 "com/example/runafter/runafter/Status" "FAILED" "Lcom/example/runafter/runafter/Status;" (.ref c1)) (S3 : Sta Z h0 "com/example/runafter/runafter/Status" "TIMED_OUT" "Lcom/example/runafter/runafter/Status;" (.ref c3)) :
    MetFree l (⟨"com/example/runafter/runafter/Status", "isFailure", "()Z"⟩ : MethodName) (head1 (Jvm.Cond.code (⟨"com/example/runafter/runafter/Status", "isFailure", "()Z"⟩ : MethodName) prog_21_method_5_code 1 (some .boolean) :: ws) ({ frames := 0, cells := 0, slots := 0, locals := 0 } : Room)) (fun aa U => aa = #[(.ref a)] ∧ Z.Warmed39 U.vm ∧ U.heap = h0) (fun _ _ _ _ _ => True) (fun _ U o U' => ∃ v L, o = .returned v ∧ PureQ (some (.int (if a = c1 ∨ a = c3 then 1 else 0))) h0 n0 v U'.heap L ∧ FrameEnd U o U' L ({ frames := 0, cells := 0, slots := 0, locals := 0 } : Room).cells ({ frames := 0, cells := 0, slots := 0, locals := 0 } : Room).slots) := by
  refine MetFree.of_bodySF (plainFor_of_name pn_rm1) hisR ?_
  intro p e s m args below meth c s₁ Bd hml0 hP hK
  obtain ⟨rfl, hZ, hh⟩ := hP
  have hx := Bd.exec
  have hby := Bd.bytes
  have hml : c.maxLocals = 1 := hml0
  have hown : s.vm.findClass "com/example/runafter/runafter/Status" = some m.cls := findClass_of_methodNamed Bd.named
  have hnm := (name_of_methodNamed Bd.named Bd.method).1
  have X0 : Stand p l e ({ frames := 0, cells := 0, slots := 0, locals := 0 } : Room) s m #[(.ref a)] below meth c s₁ [] 0 0 := Stand.of_body Bd
  have e0 : s₁.heap = h0 := by rw [← hh, Bd.state]; rfl
  have N0 := Fr.nil n0
  refine goIn (ef_rm1 m a) ?_
  refine Go.by (S' := s₁.setTop (mkF m 1 #[.val (.ref a)] [(.ref a)])) (fun _ kt => XS.aloadN X0.here hx rfl (hb hby d1_0) rfl rfl  kt) ?_
  obtain ⟨T1, X1, e1, st1⟩ := getS2 X0 hx hZ hown (host := "") (Or.inl (hw _ (List.mem_of_getElem? (i := 9) rfl))) Via.refl e0 S1 (g := (mkF m 1 #[.val (.ref a)] [(.ref a)])) rfl (hb hby d1_1)
  refine Go.by (S' := T1.setTop (mkF m 4 #[.val (.ref a)] [(.ref c1), (.ref a)])) st1 ?_
  by_cases hc4_2 : a = c1
  · refine Go.by (S' := T1.setTop (mkF m 14 #[.val (.ref a)] [])) (fun _ kt => XT.acmpYes X1.here hx rfl (pc0 := 4) (pc' := 14) rfl (hb hby d1_4) rfl rfl rfl (XT.aa_eq_t (congrArg Value.ref hc4_2)) (by decide) (by decide)  kt) ?_
    refine Go.by (S' := T1.setTop (mkF m 15 #[.val (.ref a)] [(.int (1 : Int32))])) (fun _ kt => XT.iconstV X1.here hx rfl (1 : Int32) (hb hby d1_14) (by decide)  kt) ?_
    refine Go.by (S' := T1.setTop (mkF m 19 #[.val (.ref a)] [(.int (1 : Int32))])) (fun _ kt => XS.goto X1.here hx rfl (pc0 := 15) (pc' := 19) rfl (hb hby d1_15) (by decide) (by decide)  kt) ?_
    refine goRet X1 (v := some (.int (nar .boolean (1 : Int32)))) (fun h => by rw [Bd.returns] at h; cases h) Bd.notSynchronized (fun fs hr => retN X1 hx (t := .boolean) Bd.returns (by simp) (hb hby d1_19) hr) (by decide) (by decide) ?_
    exact ⟨by simp [own_n1, own_n0, hc4_2], N0, e1⟩
  · refine Go.by (S' := T1.setTop (mkF m 7 #[.val (.ref a)] [])) (fun _ kt => XT.acmpNo X1.here hx rfl (hb hby d1_4) rfl rfl rfl (XT.aa_eq_f (fun q => hc4_2 (Value.ref.inj q)))  kt) ?_
    refine Go.by (S' := T1.setTop (mkF m 8 #[.val (.ref a)] [(.ref a)])) (fun _ kt => XS.aloadN X1.here hx rfl (hb hby d1_7) rfl rfl  kt) ?_
    obtain ⟨T3, X3, e3, st3⟩ := getS2 X1 hx hZ hown (host := "") (Or.inl (hw _ (List.mem_of_getElem? (i := 11) rfl))) Via.refl e1 S3 (g := (mkF m 8 #[.val (.ref a)] [(.ref a)])) rfl (hb hby d1_8)
    refine Go.by (S' := T3.setTop (mkF m 11 #[.val (.ref a)] [(.ref c3), (.ref a)])) st3 ?_
    by_cases hc11_4 : a = c3
    · refine Go.by (S' := T3.setTop (mkF m 14 #[.val (.ref a)] [])) (fun _ kt => XT.acmpNo X3.here hx rfl (hb hby d1_11) rfl rfl rfl (XT.aa_ne_f (congrArg Value.ref hc11_4))  kt) ?_
      refine Go.by (S' := T3.setTop (mkF m 15 #[.val (.ref a)] [(.int (1 : Int32))])) (fun _ kt => XT.iconstV X3.here hx rfl (1 : Int32) (hb hby d1_14) (by decide)  kt) ?_
      refine Go.by (S' := T3.setTop (mkF m 19 #[.val (.ref a)] [(.int (1 : Int32))])) (fun _ kt => XS.goto X3.here hx rfl (pc0 := 15) (pc' := 19) rfl (hb hby d1_15) (by decide) (by decide)  kt) ?_
      refine goRet X3 (v := some (.int (nar .boolean (1 : Int32)))) (fun h => by rw [Bd.returns] at h; cases h) Bd.notSynchronized (fun fs hr => retN X3 hx (t := .boolean) Bd.returns (by simp) (hb hby d1_19) hr) (by decide) (by decide) ?_
      exact ⟨by simp [own_n1, own_n0, hc4_2, hc11_4], N0, e3⟩
    · refine Go.by (S' := T3.setTop (mkF m 18 #[.val (.ref a)] [])) (fun _ kt => XT.acmpYes X3.here hx rfl (pc0 := 11) (pc' := 18) rfl (hb hby d1_11) rfl rfl rfl (XT.aa_ne_t (fun q => hc11_4 (Value.ref.inj q))) (by decide) (by decide)  kt) ?_
      refine Go.by (S' := T3.setTop (mkF m 19 #[.val (.ref a)] [(.int (0 : Int32))])) (fun _ kt => XT.iconstV X3.here hx rfl (0 : Int32) (hb hby d1_18) (by decide)  kt) ?_
      refine goRet X3 (v := some (.int (nar .boolean (0 : Int32)))) (fun h => by rw [Bd.returns] at h; cases h) Bd.notSynchronized (fun fs hr => retN X3 hx (t := .boolean) Bd.returns (by simp) (hb hby d1_19) hr) (by decide) (by decide) ?_
      exact ⟨by simp [own_n1, own_n0, hc4_2, hc11_4], N0, e3⟩
def LawQ (n0 : Nat) (v : Option Value) (h : Heap) (L : List Loc) : Prop := v = some (.int 1) ∧ Fr n0 L
theorem ef_rm0 (m : MethodId) (x0 : Int32) : entryFrame m #[(.int x0)] maxLocals = mkF m 0 #[.val (.int x0), .unset, .unset, .unset] [] := by first | (simp [entryFrame, mkF, argsToLocals, Value.category, maxLocals]; done) | rfl
theorem pn_rm0 : plainName "com/example/runafter/runafter/StatusIsFailurePinLaw" = true := by first | (simp [plainName, overriddenIn]; done) | decide +kernel
set_option maxRecDepth 65536 in
set_option maxHeartbeats 40000000 in
theorem rm0 (l : Launch) (Z : State) (a0 : Array Value) (hw : ∀ d ∈ tables_1, d.before a0 Z = true) (ws : List Jvm.Cond) (x0 : Int32) (c0 c1 c2 c3 c4 c5 c6 : Addr) (h0 : Heap) (n0 : Nat) (S0 : Sta Z h0 "com/example/runafter/runafter/Status" "SUCCEEDED" "Lcom/example/runafter/runafter/Status;" (.ref c0)) (S1 : Sta Z h0 "com/example/runafter/runafter/Status" "FAILED" "Lcom/example/runafter/runafter/Status;" (.ref c1)) (S2 : Sta Z h0 "com/example/runafter/runafter/Status" "SKIPPED" "Lcom/example/runafter/runafter/Status;" (.ref c2)) (S3 : Sta Z h0 "com/example/runafter/runafter/Status" "TIMED_OUT" "Lcom/example/runafter/runafter/Status;" (.ref c3)) (S4 : Sta Z h0 "com/example/runafter/runafter/Status" "CANCELLED" "Lcom/example/runafter/runafter/Status;" (.ref c4)) (S5 : Sta Z h0 "com/example/runafter/runafter/Status" "RUNNING" "Lcom/example/runafter/runafter/Status;" (.ref c5)) (S6 : Sta Z h0 "com/example/runafter/runafter/Status" "WAITING" "Lcom/example/runafter/runafter/Status;" (.ref c6)) (E0 : Exa Z h0 c0 "com/example/runafter/runafter/Status") (E1 : Exa Z h0 c1 "com/example/runafter/runafter/Status") (E2 : Exa Z h0 c2 "com/example/runafter/runafter/Status") (E3 : Exa Z h0 c3 "com/example/runafter/runafter/Status") (E4 : Exa Z h0 c4 "com/example/runafter/runafter/Status") (E5 : Exa Z h0 c5 "com/example/runafter/runafter/Status") (E6 : Exa Z h0 c6 "com/example/runafter/runafter/Status") (n0_1 : c0 ≠ c1) (n0_3 : c0 ≠ c3) (n1_3 : c1 ≠ c3) (n2_1 : c2 ≠ c1) (n2_3 : c2 ≠ c3) (n3_1 : c3 ≠ c1) (n4_1 : c4 ≠ c1) (n4_3 : c4 ≠ c3) (n5_1 : c5 ≠ c1) (n5_3 : c5 ≠ c3) (n6_1 : c6 ≠ c1) (n6_3 : c6 ≠ c3) :
    MetFree l x (head1 (Jvm.Cond.code x code maxLocals ret :: ws) room_1) (fun aa U => aa = #[(.int x0)] ∧ Z.Warmed39 U.vm ∧ U.heap = h0) (fun _ _ _ _ _ => True) (fun _ U o U' => ∃ v L, o = .returned v ∧ LawQ n0 v U'.heap L ∧ FrameEnd U o U' L room_1.cells room_1.slots) := by
  refine MetFree.of_bodySF (plainFor_of_name pn_rm0) hisR ?_
  intro p e s m args below meth c s₁ Bd hml0 hP hK
  obtain ⟨rfl, hZ, hh⟩ := hP
  have hx := Bd.exec
  have hby := Bd.bytes
  have hml : c.maxLocals = 4 := hml0
  have hown : s.vm.findClass "com/example/runafter/runafter/StatusIsFailurePinLaw" = some m.cls := findClass_of_methodNamed Bd.named
  have hnm := (name_of_methodNamed Bd.named Bd.method).1
  have X0 : Stand p l e room_1 s m #[(.int x0)] below meth c s₁ [] 0 0 := Stand.of_body Bd
  have e0 : s₁.heap = h0 := by rw [← hh, Bd.state]; rfl
  have N0 := Fr.nil n0
  refine goIn (ef_rm0 m x0) ?_
  refine Go.by (S' := s₁.setTop (mkF m 1 #[.val (.int x0), .unset, .unset, .unset] [(.int x0)])) (fun _ kt => XS.iloadN X0.here hx rfl (hb hby at_0) rfl  kt) ?_
  refine Go.by (S' := s₁.setTop (mkF m 3 #[.val (.int x0), .unset, .unset, .unset] [(.int (2147483647 : Int32)), (.int x0)])) (X0.ldcInt hx hown (mvT hZ (hw _ (List.mem_of_getElem? (i := 0) rfl))) (g := (mkF m 1 #[.val (.int x0), .unset, .unset, .unset] [(.int x0)])) rfl (hb hby at_1)) ?_
  refine Go.by (S' := s₁.setTop (mkF m 4 #[.val (.int x0), .unset, .unset, .unset] [(.int (x0 &&& (2147483647 : Int32)))])) (fun _ kt => XS.iand X0.here hx rfl (hb hby at_3) rfl  kt) ?_
  refine Go.by (S' := s₁.setTop (mkF m 6 #[.val (.int x0), .unset, .unset, .unset] [(.int (7 : Int32)), (.int (x0 &&& (2147483647 : Int32)))])) (fun _ kt => XT.bipushV X0.here hx rfl (7 : Int32) (hb hby at_4) (by decide)  kt) ?_
  refine Go.by (S' := s₁.setTop (mkF m 7 #[.val (.int x0), .unset, .unset, .unset] [(.int ((x0 &&& (2147483647 : Int32)) % (7 : Int32)))])) (fun _ kt => iremM (g := (mkF m 6 #[.val (.int x0), .unset, .unset, .unset] [(.int (7 : Int32)), (.int (x0 &&& (2147483647 : Int32)))])) X0 hx rfl (hb hby at_6) rfl (by decide)  kt) ?_
  generalize hk0 : ((x0 &&& (2147483647 : Int32)) % (7 : Int32)) = k0
  refine Go.by (S' := s₁.setTop (mkF m 8 #[.val (.int x0), .val (.int k0), .unset, .unset] [])) (fun _ kt => XS.istoreN X0.here hx rfl (hb hby at_7) rfl (l' := #[.val (.int x0), .val (.int k0), .unset, .unset]) rfl  kt) ?_
  refine Go.by (S' := s₁.setTop (mkF m 9 #[.val (.int x0), .val (.int k0), .unset, .unset] [(.int k0)])) (fun _ kt => XS.iloadN X0.here hx rfl (hb hby at_8) rfl  kt) ?_
  by_cases hc9_1 : k0 = (0 : Int32)
  · refine Go.by (S' := s₁.setTop (mkF m 12 #[.val (.int x0), .val (.int k0), .unset, .unset] [])) (fun _ kt => XS.ifNo X0.here hx rfl (hb hby at_9) rfl (XT.i0_ne_f hc9_1)  kt) ?_
    obtain ⟨T2, X2, e2, st2⟩ := getS2 X0 hx hZ hown (host := "") (Or.inl (hw _ (List.mem_of_getElem? (i := 1) rfl))) Via.refl e0 S0 (g := (mkF m 12 #[.val (.int x0), .val (.int k0), .unset, .unset] [])) rfl (hb hby at_12)
    refine Go.by (S' := T2.setTop (mkF m 15 #[.val (.int x0), .val (.int k0), .unset, .unset] [(.ref c0)])) st2 ?_
    refine Go.by (S' := T2.setTop (mkF m 16 #[.val (.int x0), .val (.int k0), .val (.ref c0), .unset] [])) (fun _ kt => XS.astoreN X2.here hx rfl (hb hby at_15) rfl rfl (l' := #[.val (.int x0), .val (.int k0), .val (.ref c0), .unset]) rfl  kt) ?_
    refine Go.by (S' := T2.setTop (mkF m 17 #[.val (.int x0), .val (.int k0), .val (.ref c0), .unset] [(.int (0 : Int32))])) (fun _ kt => XT.iconstV X2.here hx rfl (0 : Int32) (hb hby at_16) (by decide)  kt) ?_
    refine Go.by (S' := T2.setTop (mkF m 18 #[.val (.int x0), .val (.int k0), .val (.ref c0), .val (.int (0 : Int32))] [])) (fun _ kt => XS.istoreN X2.here hx rfl (hb hby at_17) rfl (l' := #[.val (.int x0), .val (.int k0), .val (.ref c0), .val (.int (0 : Int32))]) rfl  kt) ?_
    refine Go.by (S' := T2.setTop (mkF m 97 #[.val (.int x0), .val (.int k0), .val (.ref c0), .val (.int (0 : Int32))] [])) (fun _ kt => XS.goto X2.here hx rfl (pc0 := 18) (pc' := 97) rfl (hb hby at_18) (by decide) (by decide)  kt) ?_
    refine Go.by (S' := T2.setTop (mkF m 98 #[.val (.int x0), .val (.int k0), .val (.ref c0), .val (.int (0 : Int32))] [(.ref c0)])) (fun _ kt => XS.aloadN X2.here hx rfl (hb hby at_97) rfl rfl  kt) ?_
    obtain ⟨cq3, kq3, q3a, q3b, q3c⟩ := isOf hZ e2 (E0)
    obtain ⟨_, _, ⟨T3, L3, k3, n3⟩, -, X3, ⟨Lc3, hQ3, l3, y3, z3⟩, st3⟩ := X2.virtualBack hx (y := (⟨"com/example/runafter/runafter/Status", "isFailure", "()Z"⟩ : MethodName)) (z := (⟨"com/example/runafter/runafter/Status", "isFailure", "()Z"⟩ : MethodName)) hown (mvT hZ (hw _ (List.mem_of_getElem? (i := 4) rfl))) (mvT hZ (hw _ (List.mem_of_getElem? (i := 5) rfl))) (notFace_of_selects (args := #[]) (mvT hZ (hw _ (List.mem_of_getElem? (i := 7) rfl)))) (mvT hZ (hw _ (List.mem_of_getElem? (i := 7) rfl))) (mvT hZ (hw _ (List.mem_of_getElem? (i := 6) rfl))) (by decide) (backOf (W := 0) (rm1 l Z a0 hw [] c0 c1 c3 h0 n0 S1 S3) hZ (hw _ (List.mem_of_getElem? (i := 8) rfl)) (hw _ (List.mem_of_getElem? (i := 2) rfl)) (by decide) (by decide)) q3a q3c (g := (mkF m 98 #[.val (.int x0), .val (.int k0), .val (.ref c0), .val (.int (0 : Int32))] [(.ref c0)])) rfl (by rw [hml]; rfl) (Steps.refl _) (argsL := []) (rest := []) (lenOf pd_0 rfl) rfl (by show 2 * 0 + _ ≤ _; exact Nat.le_of_eq rfl) (hb hby at_98) (fun _ _ => ⟨rfl, e2, (by decide : 0 + 0 ≤ _), (by decide : 0 + 0 ≤ _)⟩)
    dsimp only [Pt.U, Pt.locs, Pt.cells, Pt.slots] at X3 l3 y3 z3 st3 hQ3
    subst l3 y3 z3
    obtain ⟨rfl, N3q, e3⟩ := hQ3
    have N3 := Fr.app N0 N3q
    refine Go.at (S' := T3.setTop (mkF m 101 #[.val (.int x0), .val (.int k0), .val (.ref c0), .val (.int (0 : Int32))] [(.int (if c0 = c1 ∨ c0 = c3 then 1 else 0))])) st3 ?_
    refine Go.by (S' := T3.setTop (mkF m 102 #[.val (.int x0), .val (.int k0), .val (.ref c0), .val (.int (0 : Int32))] [(.int (0 : Int32)), (.int (if c0 = c1 ∨ c0 = c3 then 1 else 0))])) (fun _ kt => XS.iloadN X3.here hx rfl (hb hby at_101) rfl  kt) ?_
    refine Go.by (S' := T3.setTop (mkF m 105 #[.val (.int x0), .val (.int k0), .val (.ref c0), .val (.int (0 : Int32))] [])) (fun _ kt => XS.icmpNo X3.here hx rfl (hb hby at_102) rfl (XT.ii_ne_f (by simp [n0_1, n0_3]))  kt) ?_
    refine Go.by (S' := T3.setTop (mkF m 106 #[.val (.int x0), .val (.int k0), .val (.ref c0), .val (.int (0 : Int32))] [(.int (1 : Int32))])) (fun _ kt => XT.iconstV X3.here hx rfl (1 : Int32) (hb hby at_105) (by decide)  kt) ?_
    refine Go.by (S' := T3.setTop (mkF m 110 #[.val (.int x0), .val (.int k0), .val (.ref c0), .val (.int (0 : Int32))] [(.int (1 : Int32))])) (fun _ kt => XS.goto X3.here hx rfl (pc0 := 106) (pc' := 110) rfl (hb hby at_106) (by decide) (by decide)  kt) ?_
    refine goRet X3 (v := some (.int (nar .boolean (1 : Int32)))) (fun h => by rw [Bd.returns] at h; cases h) Bd.notSynchronized (fun fs hr => retN X3 hx (t := .boolean) Bd.returns (by simp) (hb hby at_110) hr) (by decide) (by decide) ?_
    exact ⟨by simp [own_n1], N3⟩
  · refine Go.by (S' := s₁.setTop (mkF m 21 #[.val (.int x0), .val (.int k0), .unset, .unset] [])) (fun _ kt => XS.ifYes X0.here hx rfl (pc0 := 9) (pc' := 21) rfl (hb hby at_9) rfl (XT.i0_ne_t hc9_1) (by decide) (by decide)  kt) ?_
    refine Go.by (S' := s₁.setTop (mkF m 22 #[.val (.int x0), .val (.int k0), .unset, .unset] [(.int k0)])) (fun _ kt => XS.iloadN X0.here hx rfl (hb hby at_21) rfl  kt) ?_
    refine Go.by (S' := s₁.setTop (mkF m 23 #[.val (.int x0), .val (.int k0), .unset, .unset] [(.int (1 : Int32)), (.int k0)])) (fun _ kt => XT.iconstV X0.here hx rfl (1 : Int32) (hb hby at_22) (by decide)  kt) ?_
    by_cases hc23_4 : k0 = (1 : Int32)
    · refine Go.by (S' := s₁.setTop (mkF m 26 #[.val (.int x0), .val (.int k0), .unset, .unset] [])) (fun _ kt => XS.icmpNo X0.here hx rfl (hb hby at_23) rfl (XT.ii_ne_f hc23_4)  kt) ?_
      obtain ⟨T5, X5, e5, st5⟩ := getS2 X0 hx hZ hown (host := "") (Or.inl (hw _ (List.mem_of_getElem? (i := 22) rfl))) Via.refl e0 S1 (g := (mkF m 26 #[.val (.int x0), .val (.int k0), .unset, .unset] [])) rfl (hb hby at_26)
      refine Go.by (S' := T5.setTop (mkF m 29 #[.val (.int x0), .val (.int k0), .unset, .unset] [(.ref c1)])) st5 ?_
      refine Go.by (S' := T5.setTop (mkF m 30 #[.val (.int x0), .val (.int k0), .val (.ref c1), .unset] [])) (fun _ kt => XS.astoreN X5.here hx rfl (hb hby at_29) rfl rfl (l' := #[.val (.int x0), .val (.int k0), .val (.ref c1), .unset]) rfl  kt) ?_
      refine Go.by (S' := T5.setTop (mkF m 31 #[.val (.int x0), .val (.int k0), .val (.ref c1), .unset] [(.int (1 : Int32))])) (fun _ kt => XT.iconstV X5.here hx rfl (1 : Int32) (hb hby at_30) (by decide)  kt) ?_
      refine Go.by (S' := T5.setTop (mkF m 32 #[.val (.int x0), .val (.int k0), .val (.ref c1), .val (.int (1 : Int32))] [])) (fun _ kt => XS.istoreN X5.here hx rfl (hb hby at_31) rfl (l' := #[.val (.int x0), .val (.int k0), .val (.ref c1), .val (.int (1 : Int32))]) rfl  kt) ?_
      refine Go.by (S' := T5.setTop (mkF m 97 #[.val (.int x0), .val (.int k0), .val (.ref c1), .val (.int (1 : Int32))] [])) (fun _ kt => XS.goto X5.here hx rfl (pc0 := 32) (pc' := 97) rfl (hb hby at_32) (by decide) (by decide)  kt) ?_
      refine Go.by (S' := T5.setTop (mkF m 98 #[.val (.int x0), .val (.int k0), .val (.ref c1), .val (.int (1 : Int32))] [(.ref c1)])) (fun _ kt => XS.aloadN X5.here hx rfl (hb hby at_97) rfl rfl  kt) ?_
      obtain ⟨cq6, kq6, q6a, q6b, q6c⟩ := isOf hZ e5 (E1)
      obtain ⟨_, _, ⟨T6, L6, k6, n6⟩, -, X6, ⟨Lc6, hQ6, l6, y6, z6⟩, st6⟩ := X5.virtualBack hx (y := (⟨"com/example/runafter/runafter/Status", "isFailure", "()Z"⟩ : MethodName)) (z := (⟨"com/example/runafter/runafter/Status", "isFailure", "()Z"⟩ : MethodName)) hown (mvT hZ (hw _ (List.mem_of_getElem? (i := 4) rfl))) (mvT hZ (hw _ (List.mem_of_getElem? (i := 5) rfl))) (notFace_of_selects (args := #[]) (mvT hZ (hw _ (List.mem_of_getElem? (i := 7) rfl)))) (mvT hZ (hw _ (List.mem_of_getElem? (i := 7) rfl))) (mvT hZ (hw _ (List.mem_of_getElem? (i := 6) rfl))) (by decide) (backOf (W := 0) (rm1 l Z a0 hw [] c1 c1 c3 h0 n0 S1 S3) hZ (hw _ (List.mem_of_getElem? (i := 8) rfl)) (hw _ (List.mem_of_getElem? (i := 2) rfl)) (by decide) (by decide)) q6a q6c (g := (mkF m 98 #[.val (.int x0), .val (.int k0), .val (.ref c1), .val (.int (1 : Int32))] [(.ref c1)])) rfl (by rw [hml]; rfl) (Steps.refl _) (argsL := []) (rest := []) (lenOf pd_0 rfl) rfl (by show 2 * 0 + _ ≤ _; exact Nat.le_of_eq rfl) (hb hby at_98) (fun _ _ => ⟨rfl, e5, (by decide : 0 + 0 ≤ _), (by decide : 0 + 0 ≤ _)⟩)
      dsimp only [Pt.U, Pt.locs, Pt.cells, Pt.slots] at X6 l6 y6 z6 st6 hQ6
      subst l6 y6 z6
      obtain ⟨rfl, N6q, e6⟩ := hQ6
      have N6 := Fr.app N0 N6q
      refine Go.at (S' := T6.setTop (mkF m 101 #[.val (.int x0), .val (.int k0), .val (.ref c1), .val (.int (1 : Int32))] [(.int (if c1 = c1 ∨ c1 = c3 then 1 else 0))])) st6 ?_
      refine Go.by (S' := T6.setTop (mkF m 102 #[.val (.int x0), .val (.int k0), .val (.ref c1), .val (.int (1 : Int32))] [(.int (1 : Int32)), (.int (if c1 = c1 ∨ c1 = c3 then 1 else 0))])) (fun _ kt => XS.iloadN X6.here hx rfl (hb hby at_101) rfl  kt) ?_
      refine Go.by (S' := T6.setTop (mkF m 105 #[.val (.int x0), .val (.int k0), .val (.ref c1), .val (.int (1 : Int32))] [])) (fun _ kt => XS.icmpNo X6.here hx rfl (hb hby at_102) rfl (XT.ii_ne_f (by simp [n1_3]))  kt) ?_
      refine Go.by (S' := T6.setTop (mkF m 106 #[.val (.int x0), .val (.int k0), .val (.ref c1), .val (.int (1 : Int32))] [(.int (1 : Int32))])) (fun _ kt => XT.iconstV X6.here hx rfl (1 : Int32) (hb hby at_105) (by decide)  kt) ?_
      refine Go.by (S' := T6.setTop (mkF m 110 #[.val (.int x0), .val (.int k0), .val (.ref c1), .val (.int (1 : Int32))] [(.int (1 : Int32))])) (fun _ kt => XS.goto X6.here hx rfl (pc0 := 106) (pc' := 110) rfl (hb hby at_106) (by decide) (by decide)  kt) ?_
      refine goRet X6 (v := some (.int (nar .boolean (1 : Int32)))) (fun h => by rw [Bd.returns] at h; cases h) Bd.notSynchronized (fun fs hr => retN X6 hx (t := .boolean) Bd.returns (by simp) (hb hby at_110) hr) (by decide) (by decide) ?_
      exact ⟨by simp [own_n1], N6⟩
    · refine Go.by (S' := s₁.setTop (mkF m 35 #[.val (.int x0), .val (.int k0), .unset, .unset] [])) (fun _ kt => XS.icmpYes X0.here hx rfl (pc0 := 23) (pc' := 35) rfl (hb hby at_23) rfl (XT.ii_ne_t hc23_4) (by decide) (by decide)  kt) ?_
      refine Go.by (S' := s₁.setTop (mkF m 36 #[.val (.int x0), .val (.int k0), .unset, .unset] [(.int k0)])) (fun _ kt => XS.iloadN X0.here hx rfl (hb hby at_35) rfl  kt) ?_
      refine Go.by (S' := s₁.setTop (mkF m 37 #[.val (.int x0), .val (.int k0), .unset, .unset] [(.int (2 : Int32)), (.int k0)])) (fun _ kt => XT.iconstV X0.here hx rfl (2 : Int32) (hb hby at_36) (by decide)  kt) ?_
      by_cases hc37_7 : k0 = (2 : Int32)
      · refine Go.by (S' := s₁.setTop (mkF m 40 #[.val (.int x0), .val (.int k0), .unset, .unset] [])) (fun _ kt => XS.icmpNo X0.here hx rfl (hb hby at_37) rfl (XT.ii_ne_f hc37_7)  kt) ?_
        obtain ⟨T8, X8, e8, st8⟩ := getS2 X0 hx hZ hown (host := "") (Or.inl (hw _ (List.mem_of_getElem? (i := 20) rfl))) Via.refl e0 S2 (g := (mkF m 40 #[.val (.int x0), .val (.int k0), .unset, .unset] [])) rfl (hb hby at_40)
        refine Go.by (S' := T8.setTop (mkF m 43 #[.val (.int x0), .val (.int k0), .unset, .unset] [(.ref c2)])) st8 ?_
        refine Go.by (S' := T8.setTop (mkF m 44 #[.val (.int x0), .val (.int k0), .val (.ref c2), .unset] [])) (fun _ kt => XS.astoreN X8.here hx rfl (hb hby at_43) rfl rfl (l' := #[.val (.int x0), .val (.int k0), .val (.ref c2), .unset]) rfl  kt) ?_
        refine Go.by (S' := T8.setTop (mkF m 45 #[.val (.int x0), .val (.int k0), .val (.ref c2), .unset] [(.int (0 : Int32))])) (fun _ kt => XT.iconstV X8.here hx rfl (0 : Int32) (hb hby at_44) (by decide)  kt) ?_
        refine Go.by (S' := T8.setTop (mkF m 46 #[.val (.int x0), .val (.int k0), .val (.ref c2), .val (.int (0 : Int32))] [])) (fun _ kt => XS.istoreN X8.here hx rfl (hb hby at_45) rfl (l' := #[.val (.int x0), .val (.int k0), .val (.ref c2), .val (.int (0 : Int32))]) rfl  kt) ?_
        refine Go.by (S' := T8.setTop (mkF m 97 #[.val (.int x0), .val (.int k0), .val (.ref c2), .val (.int (0 : Int32))] [])) (fun _ kt => XS.goto X8.here hx rfl (pc0 := 46) (pc' := 97) rfl (hb hby at_46) (by decide) (by decide)  kt) ?_
        refine Go.by (S' := T8.setTop (mkF m 98 #[.val (.int x0), .val (.int k0), .val (.ref c2), .val (.int (0 : Int32))] [(.ref c2)])) (fun _ kt => XS.aloadN X8.here hx rfl (hb hby at_97) rfl rfl  kt) ?_
        obtain ⟨cq9, kq9, q9a, q9b, q9c⟩ := isOf hZ e8 (E2)
        obtain ⟨_, _, ⟨T9, L9, k9, n9⟩, -, X9, ⟨Lc9, hQ9, l9, y9, z9⟩, st9⟩ := X8.virtualBack hx (y := (⟨"com/example/runafter/runafter/Status", "isFailure", "()Z"⟩ : MethodName)) (z := (⟨"com/example/runafter/runafter/Status", "isFailure", "()Z"⟩ : MethodName)) hown (mvT hZ (hw _ (List.mem_of_getElem? (i := 4) rfl))) (mvT hZ (hw _ (List.mem_of_getElem? (i := 5) rfl))) (notFace_of_selects (args := #[]) (mvT hZ (hw _ (List.mem_of_getElem? (i := 7) rfl)))) (mvT hZ (hw _ (List.mem_of_getElem? (i := 7) rfl))) (mvT hZ (hw _ (List.mem_of_getElem? (i := 6) rfl))) (by decide) (backOf (W := 0) (rm1 l Z a0 hw [] c2 c1 c3 h0 n0 S1 S3) hZ (hw _ (List.mem_of_getElem? (i := 8) rfl)) (hw _ (List.mem_of_getElem? (i := 2) rfl)) (by decide) (by decide)) q9a q9c (g := (mkF m 98 #[.val (.int x0), .val (.int k0), .val (.ref c2), .val (.int (0 : Int32))] [(.ref c2)])) rfl (by rw [hml]; rfl) (Steps.refl _) (argsL := []) (rest := []) (lenOf pd_0 rfl) rfl (by show 2 * 0 + _ ≤ _; exact Nat.le_of_eq rfl) (hb hby at_98) (fun _ _ => ⟨rfl, e8, (by decide : 0 + 0 ≤ _), (by decide : 0 + 0 ≤ _)⟩)
        dsimp only [Pt.U, Pt.locs, Pt.cells, Pt.slots] at X9 l9 y9 z9 st9 hQ9
        subst l9 y9 z9
        obtain ⟨rfl, N9q, e9⟩ := hQ9
        have N9 := Fr.app N0 N9q
        refine Go.at (S' := T9.setTop (mkF m 101 #[.val (.int x0), .val (.int k0), .val (.ref c2), .val (.int (0 : Int32))] [(.int (if c2 = c1 ∨ c2 = c3 then 1 else 0))])) st9 ?_
        refine Go.by (S' := T9.setTop (mkF m 102 #[.val (.int x0), .val (.int k0), .val (.ref c2), .val (.int (0 : Int32))] [(.int (0 : Int32)), (.int (if c2 = c1 ∨ c2 = c3 then 1 else 0))])) (fun _ kt => XS.iloadN X9.here hx rfl (hb hby at_101) rfl  kt) ?_
        refine Go.by (S' := T9.setTop (mkF m 105 #[.val (.int x0), .val (.int k0), .val (.ref c2), .val (.int (0 : Int32))] [])) (fun _ kt => XS.icmpNo X9.here hx rfl (hb hby at_102) rfl (XT.ii_ne_f (by simp [n2_1, n2_3]))  kt) ?_
        refine Go.by (S' := T9.setTop (mkF m 106 #[.val (.int x0), .val (.int k0), .val (.ref c2), .val (.int (0 : Int32))] [(.int (1 : Int32))])) (fun _ kt => XT.iconstV X9.here hx rfl (1 : Int32) (hb hby at_105) (by decide)  kt) ?_
        refine Go.by (S' := T9.setTop (mkF m 110 #[.val (.int x0), .val (.int k0), .val (.ref c2), .val (.int (0 : Int32))] [(.int (1 : Int32))])) (fun _ kt => XS.goto X9.here hx rfl (pc0 := 106) (pc' := 110) rfl (hb hby at_106) (by decide) (by decide)  kt) ?_
        refine goRet X9 (v := some (.int (nar .boolean (1 : Int32)))) (fun h => by rw [Bd.returns] at h; cases h) Bd.notSynchronized (fun fs hr => retN X9 hx (t := .boolean) Bd.returns (by simp) (hb hby at_110) hr) (by decide) (by decide) ?_
        exact ⟨by simp [own_n1], N9⟩
      · refine Go.by (S' := s₁.setTop (mkF m 49 #[.val (.int x0), .val (.int k0), .unset, .unset] [])) (fun _ kt => XS.icmpYes X0.here hx rfl (pc0 := 37) (pc' := 49) rfl (hb hby at_37) rfl (XT.ii_ne_t hc37_7) (by decide) (by decide)  kt) ?_
        refine Go.by (S' := s₁.setTop (mkF m 50 #[.val (.int x0), .val (.int k0), .unset, .unset] [(.int k0)])) (fun _ kt => XS.iloadN X0.here hx rfl (hb hby at_49) rfl  kt) ?_
        refine Go.by (S' := s₁.setTop (mkF m 51 #[.val (.int x0), .val (.int k0), .unset, .unset] [(.int (3 : Int32)), (.int k0)])) (fun _ kt => XT.iconstV X0.here hx rfl (3 : Int32) (hb hby at_50) (by decide)  kt) ?_
        by_cases hc51_10 : k0 = (3 : Int32)
        · refine Go.by (S' := s₁.setTop (mkF m 54 #[.val (.int x0), .val (.int k0), .unset, .unset] [])) (fun _ kt => XS.icmpNo X0.here hx rfl (hb hby at_51) rfl (XT.ii_ne_f hc51_10)  kt) ?_
          obtain ⟨T11, X11, e11, st11⟩ := getS2 X0 hx hZ hown (host := "") (Or.inl (hw _ (List.mem_of_getElem? (i := 13) rfl))) Via.refl e0 S3 (g := (mkF m 54 #[.val (.int x0), .val (.int k0), .unset, .unset] [])) rfl (hb hby at_54)
          refine Go.by (S' := T11.setTop (mkF m 57 #[.val (.int x0), .val (.int k0), .unset, .unset] [(.ref c3)])) st11 ?_
          refine Go.by (S' := T11.setTop (mkF m 58 #[.val (.int x0), .val (.int k0), .val (.ref c3), .unset] [])) (fun _ kt => XS.astoreN X11.here hx rfl (hb hby at_57) rfl rfl (l' := #[.val (.int x0), .val (.int k0), .val (.ref c3), .unset]) rfl  kt) ?_
          refine Go.by (S' := T11.setTop (mkF m 59 #[.val (.int x0), .val (.int k0), .val (.ref c3), .unset] [(.int (1 : Int32))])) (fun _ kt => XT.iconstV X11.here hx rfl (1 : Int32) (hb hby at_58) (by decide)  kt) ?_
          refine Go.by (S' := T11.setTop (mkF m 60 #[.val (.int x0), .val (.int k0), .val (.ref c3), .val (.int (1 : Int32))] [])) (fun _ kt => XS.istoreN X11.here hx rfl (hb hby at_59) rfl (l' := #[.val (.int x0), .val (.int k0), .val (.ref c3), .val (.int (1 : Int32))]) rfl  kt) ?_
          refine Go.by (S' := T11.setTop (mkF m 97 #[.val (.int x0), .val (.int k0), .val (.ref c3), .val (.int (1 : Int32))] [])) (fun _ kt => XS.goto X11.here hx rfl (pc0 := 60) (pc' := 97) rfl (hb hby at_60) (by decide) (by decide)  kt) ?_
          refine Go.by (S' := T11.setTop (mkF m 98 #[.val (.int x0), .val (.int k0), .val (.ref c3), .val (.int (1 : Int32))] [(.ref c3)])) (fun _ kt => XS.aloadN X11.here hx rfl (hb hby at_97) rfl rfl  kt) ?_
          obtain ⟨cq12, kq12, q12a, q12b, q12c⟩ := isOf hZ e11 (E3)
          obtain ⟨_, _, ⟨T12, L12, k12, n12⟩, -, X12, ⟨Lc12, hQ12, l12, y12, z12⟩, st12⟩ := X11.virtualBack hx (y := (⟨"com/example/runafter/runafter/Status", "isFailure", "()Z"⟩ : MethodName)) (z := (⟨"com/example/runafter/runafter/Status", "isFailure", "()Z"⟩ : MethodName)) hown (mvT hZ (hw _ (List.mem_of_getElem? (i := 4) rfl))) (mvT hZ (hw _ (List.mem_of_getElem? (i := 5) rfl))) (notFace_of_selects (args := #[]) (mvT hZ (hw _ (List.mem_of_getElem? (i := 7) rfl)))) (mvT hZ (hw _ (List.mem_of_getElem? (i := 7) rfl))) (mvT hZ (hw _ (List.mem_of_getElem? (i := 6) rfl))) (by decide) (backOf (W := 0) (rm1 l Z a0 hw [] c3 c1 c3 h0 n0 S1 S3) hZ (hw _ (List.mem_of_getElem? (i := 8) rfl)) (hw _ (List.mem_of_getElem? (i := 2) rfl)) (by decide) (by decide)) q12a q12c (g := (mkF m 98 #[.val (.int x0), .val (.int k0), .val (.ref c3), .val (.int (1 : Int32))] [(.ref c3)])) rfl (by rw [hml]; rfl) (Steps.refl _) (argsL := []) (rest := []) (lenOf pd_0 rfl) rfl (by show 2 * 0 + _ ≤ _; exact Nat.le_of_eq rfl) (hb hby at_98) (fun _ _ => ⟨rfl, e11, (by decide : 0 + 0 ≤ _), (by decide : 0 + 0 ≤ _)⟩)
          dsimp only [Pt.U, Pt.locs, Pt.cells, Pt.slots] at X12 l12 y12 z12 st12 hQ12
          subst l12 y12 z12
          obtain ⟨rfl, N12q, e12⟩ := hQ12
          have N12 := Fr.app N0 N12q
          refine Go.at (S' := T12.setTop (mkF m 101 #[.val (.int x0), .val (.int k0), .val (.ref c3), .val (.int (1 : Int32))] [(.int (if c3 = c1 ∨ c3 = c3 then 1 else 0))])) st12 ?_
          refine Go.by (S' := T12.setTop (mkF m 102 #[.val (.int x0), .val (.int k0), .val (.ref c3), .val (.int (1 : Int32))] [(.int (1 : Int32)), (.int (if c3 = c1 ∨ c3 = c3 then 1 else 0))])) (fun _ kt => XS.iloadN X12.here hx rfl (hb hby at_101) rfl  kt) ?_
          refine Go.by (S' := T12.setTop (mkF m 105 #[.val (.int x0), .val (.int k0), .val (.ref c3), .val (.int (1 : Int32))] [])) (fun _ kt => XS.icmpNo X12.here hx rfl (hb hby at_102) rfl (XT.ii_ne_f (by simp [n3_1]))  kt) ?_
          refine Go.by (S' := T12.setTop (mkF m 106 #[.val (.int x0), .val (.int k0), .val (.ref c3), .val (.int (1 : Int32))] [(.int (1 : Int32))])) (fun _ kt => XT.iconstV X12.here hx rfl (1 : Int32) (hb hby at_105) (by decide)  kt) ?_
          refine Go.by (S' := T12.setTop (mkF m 110 #[.val (.int x0), .val (.int k0), .val (.ref c3), .val (.int (1 : Int32))] [(.int (1 : Int32))])) (fun _ kt => XS.goto X12.here hx rfl (pc0 := 106) (pc' := 110) rfl (hb hby at_106) (by decide) (by decide)  kt) ?_
          refine goRet X12 (v := some (.int (nar .boolean (1 : Int32)))) (fun h => by rw [Bd.returns] at h; cases h) Bd.notSynchronized (fun fs hr => retN X12 hx (t := .boolean) Bd.returns (by simp) (hb hby at_110) hr) (by decide) (by decide) ?_
          exact ⟨by simp [own_n1], N12⟩
        · refine Go.by (S' := s₁.setTop (mkF m 63 #[.val (.int x0), .val (.int k0), .unset, .unset] [])) (fun _ kt => XS.icmpYes X0.here hx rfl (pc0 := 51) (pc' := 63) rfl (hb hby at_51) rfl (XT.ii_ne_t hc51_10) (by decide) (by decide)  kt) ?_
          refine Go.by (S' := s₁.setTop (mkF m 64 #[.val (.int x0), .val (.int k0), .unset, .unset] [(.int k0)])) (fun _ kt => XS.iloadN X0.here hx rfl (hb hby at_63) rfl  kt) ?_
          refine Go.by (S' := s₁.setTop (mkF m 65 #[.val (.int x0), .val (.int k0), .unset, .unset] [(.int (4 : Int32)), (.int k0)])) (fun _ kt => XT.iconstV X0.here hx rfl (4 : Int32) (hb hby at_64) (by decide)  kt) ?_
          by_cases hc65_13 : k0 = (4 : Int32)
          · refine Go.by (S' := s₁.setTop (mkF m 68 #[.val (.int x0), .val (.int k0), .unset, .unset] [])) (fun _ kt => XS.icmpNo X0.here hx rfl (hb hby at_65) rfl (XT.ii_ne_f hc65_13)  kt) ?_
            obtain ⟨T14, X14, e14, st14⟩ := getS2 X0 hx hZ hown (host := "") (Or.inl (hw _ (List.mem_of_getElem? (i := 18) rfl))) Via.refl e0 S4 (g := (mkF m 68 #[.val (.int x0), .val (.int k0), .unset, .unset] [])) rfl (hb hby at_68)
            refine Go.by (S' := T14.setTop (mkF m 71 #[.val (.int x0), .val (.int k0), .unset, .unset] [(.ref c4)])) st14 ?_
            refine Go.by (S' := T14.setTop (mkF m 72 #[.val (.int x0), .val (.int k0), .val (.ref c4), .unset] [])) (fun _ kt => XS.astoreN X14.here hx rfl (hb hby at_71) rfl rfl (l' := #[.val (.int x0), .val (.int k0), .val (.ref c4), .unset]) rfl  kt) ?_
            refine Go.by (S' := T14.setTop (mkF m 73 #[.val (.int x0), .val (.int k0), .val (.ref c4), .unset] [(.int (0 : Int32))])) (fun _ kt => XT.iconstV X14.here hx rfl (0 : Int32) (hb hby at_72) (by decide)  kt) ?_
            refine Go.by (S' := T14.setTop (mkF m 74 #[.val (.int x0), .val (.int k0), .val (.ref c4), .val (.int (0 : Int32))] [])) (fun _ kt => XS.istoreN X14.here hx rfl (hb hby at_73) rfl (l' := #[.val (.int x0), .val (.int k0), .val (.ref c4), .val (.int (0 : Int32))]) rfl  kt) ?_
            refine Go.by (S' := T14.setTop (mkF m 97 #[.val (.int x0), .val (.int k0), .val (.ref c4), .val (.int (0 : Int32))] [])) (fun _ kt => XS.goto X14.here hx rfl (pc0 := 74) (pc' := 97) rfl (hb hby at_74) (by decide) (by decide)  kt) ?_
            refine Go.by (S' := T14.setTop (mkF m 98 #[.val (.int x0), .val (.int k0), .val (.ref c4), .val (.int (0 : Int32))] [(.ref c4)])) (fun _ kt => XS.aloadN X14.here hx rfl (hb hby at_97) rfl rfl  kt) ?_
            obtain ⟨cq15, kq15, q15a, q15b, q15c⟩ := isOf hZ e14 (E4)
            obtain ⟨_, _, ⟨T15, L15, k15, n15⟩, -, X15, ⟨Lc15, hQ15, l15, y15, z15⟩, st15⟩ := X14.virtualBack hx (y := (⟨"com/example/runafter/runafter/Status", "isFailure", "()Z"⟩ : MethodName)) (z := (⟨"com/example/runafter/runafter/Status", "isFailure", "()Z"⟩ : MethodName)) hown (mvT hZ (hw _ (List.mem_of_getElem? (i := 4) rfl))) (mvT hZ (hw _ (List.mem_of_getElem? (i := 5) rfl))) (notFace_of_selects (args := #[]) (mvT hZ (hw _ (List.mem_of_getElem? (i := 7) rfl)))) (mvT hZ (hw _ (List.mem_of_getElem? (i := 7) rfl))) (mvT hZ (hw _ (List.mem_of_getElem? (i := 6) rfl))) (by decide) (backOf (W := 0) (rm1 l Z a0 hw [] c4 c1 c3 h0 n0 S1 S3) hZ (hw _ (List.mem_of_getElem? (i := 8) rfl)) (hw _ (List.mem_of_getElem? (i := 2) rfl)) (by decide) (by decide)) q15a q15c (g := (mkF m 98 #[.val (.int x0), .val (.int k0), .val (.ref c4), .val (.int (0 : Int32))] [(.ref c4)])) rfl (by rw [hml]; rfl) (Steps.refl _) (argsL := []) (rest := []) (lenOf pd_0 rfl) rfl (by show 2 * 0 + _ ≤ _; exact Nat.le_of_eq rfl) (hb hby at_98) (fun _ _ => ⟨rfl, e14, (by decide : 0 + 0 ≤ _), (by decide : 0 + 0 ≤ _)⟩)
            dsimp only [Pt.U, Pt.locs, Pt.cells, Pt.slots] at X15 l15 y15 z15 st15 hQ15
            subst l15 y15 z15
            obtain ⟨rfl, N15q, e15⟩ := hQ15
            have N15 := Fr.app N0 N15q
            refine Go.at (S' := T15.setTop (mkF m 101 #[.val (.int x0), .val (.int k0), .val (.ref c4), .val (.int (0 : Int32))] [(.int (if c4 = c1 ∨ c4 = c3 then 1 else 0))])) st15 ?_
            refine Go.by (S' := T15.setTop (mkF m 102 #[.val (.int x0), .val (.int k0), .val (.ref c4), .val (.int (0 : Int32))] [(.int (0 : Int32)), (.int (if c4 = c1 ∨ c4 = c3 then 1 else 0))])) (fun _ kt => XS.iloadN X15.here hx rfl (hb hby at_101) rfl  kt) ?_
            refine Go.by (S' := T15.setTop (mkF m 105 #[.val (.int x0), .val (.int k0), .val (.ref c4), .val (.int (0 : Int32))] [])) (fun _ kt => XS.icmpNo X15.here hx rfl (hb hby at_102) rfl (XT.ii_ne_f (by simp [n4_1, n4_3]))  kt) ?_
            refine Go.by (S' := T15.setTop (mkF m 106 #[.val (.int x0), .val (.int k0), .val (.ref c4), .val (.int (0 : Int32))] [(.int (1 : Int32))])) (fun _ kt => XT.iconstV X15.here hx rfl (1 : Int32) (hb hby at_105) (by decide)  kt) ?_
            refine Go.by (S' := T15.setTop (mkF m 110 #[.val (.int x0), .val (.int k0), .val (.ref c4), .val (.int (0 : Int32))] [(.int (1 : Int32))])) (fun _ kt => XS.goto X15.here hx rfl (pc0 := 106) (pc' := 110) rfl (hb hby at_106) (by decide) (by decide)  kt) ?_
            refine goRet X15 (v := some (.int (nar .boolean (1 : Int32)))) (fun h => by rw [Bd.returns] at h; cases h) Bd.notSynchronized (fun fs hr => retN X15 hx (t := .boolean) Bd.returns (by simp) (hb hby at_110) hr) (by decide) (by decide) ?_
            exact ⟨by simp [own_n1], N15⟩
          · refine Go.by (S' := s₁.setTop (mkF m 77 #[.val (.int x0), .val (.int k0), .unset, .unset] [])) (fun _ kt => XS.icmpYes X0.here hx rfl (pc0 := 65) (pc' := 77) rfl (hb hby at_65) rfl (XT.ii_ne_t hc65_13) (by decide) (by decide)  kt) ?_
            refine Go.by (S' := s₁.setTop (mkF m 78 #[.val (.int x0), .val (.int k0), .unset, .unset] [(.int k0)])) (fun _ kt => XS.iloadN X0.here hx rfl (hb hby at_77) rfl  kt) ?_
            refine Go.by (S' := s₁.setTop (mkF m 79 #[.val (.int x0), .val (.int k0), .unset, .unset] [(.int (5 : Int32)), (.int k0)])) (fun _ kt => XT.iconstV X0.here hx rfl (5 : Int32) (hb hby at_78) (by decide)  kt) ?_
            by_cases hc79_16 : k0 = (5 : Int32)
            · refine Go.by (S' := s₁.setTop (mkF m 82 #[.val (.int x0), .val (.int k0), .unset, .unset] [])) (fun _ kt => XS.icmpNo X0.here hx rfl (hb hby at_79) rfl (XT.ii_ne_f hc79_16)  kt) ?_
              obtain ⟨T17, X17, e17, st17⟩ := getS2 X0 hx hZ hown (host := "") (Or.inl (hw _ (List.mem_of_getElem? (i := 14) rfl))) Via.refl e0 S5 (g := (mkF m 82 #[.val (.int x0), .val (.int k0), .unset, .unset] [])) rfl (hb hby at_82)
              refine Go.by (S' := T17.setTop (mkF m 85 #[.val (.int x0), .val (.int k0), .unset, .unset] [(.ref c5)])) st17 ?_
              refine Go.by (S' := T17.setTop (mkF m 86 #[.val (.int x0), .val (.int k0), .val (.ref c5), .unset] [])) (fun _ kt => XS.astoreN X17.here hx rfl (hb hby at_85) rfl rfl (l' := #[.val (.int x0), .val (.int k0), .val (.ref c5), .unset]) rfl  kt) ?_
              refine Go.by (S' := T17.setTop (mkF m 87 #[.val (.int x0), .val (.int k0), .val (.ref c5), .unset] [(.int (0 : Int32))])) (fun _ kt => XT.iconstV X17.here hx rfl (0 : Int32) (hb hby at_86) (by decide)  kt) ?_
              refine Go.by (S' := T17.setTop (mkF m 88 #[.val (.int x0), .val (.int k0), .val (.ref c5), .val (.int (0 : Int32))] [])) (fun _ kt => XS.istoreN X17.here hx rfl (hb hby at_87) rfl (l' := #[.val (.int x0), .val (.int k0), .val (.ref c5), .val (.int (0 : Int32))]) rfl  kt) ?_
              refine Go.by (S' := T17.setTop (mkF m 97 #[.val (.int x0), .val (.int k0), .val (.ref c5), .val (.int (0 : Int32))] [])) (fun _ kt => XS.goto X17.here hx rfl (pc0 := 88) (pc' := 97) rfl (hb hby at_88) (by decide) (by decide)  kt) ?_
              refine Go.by (S' := T17.setTop (mkF m 98 #[.val (.int x0), .val (.int k0), .val (.ref c5), .val (.int (0 : Int32))] [(.ref c5)])) (fun _ kt => XS.aloadN X17.here hx rfl (hb hby at_97) rfl rfl  kt) ?_
              obtain ⟨cq18, kq18, q18a, q18b, q18c⟩ := isOf hZ e17 (E5)
              obtain ⟨_, _, ⟨T18, L18, k18, n18⟩, -, X18, ⟨Lc18, hQ18, l18, y18, z18⟩, st18⟩ := X17.virtualBack hx (y := (⟨"com/example/runafter/runafter/Status", "isFailure", "()Z"⟩ : MethodName)) (z := (⟨"com/example/runafter/runafter/Status", "isFailure", "()Z"⟩ : MethodName)) hown (mvT hZ (hw _ (List.mem_of_getElem? (i := 4) rfl))) (mvT hZ (hw _ (List.mem_of_getElem? (i := 5) rfl))) (notFace_of_selects (args := #[]) (mvT hZ (hw _ (List.mem_of_getElem? (i := 7) rfl)))) (mvT hZ (hw _ (List.mem_of_getElem? (i := 7) rfl))) (mvT hZ (hw _ (List.mem_of_getElem? (i := 6) rfl))) (by decide) (backOf (W := 0) (rm1 l Z a0 hw [] c5 c1 c3 h0 n0 S1 S3) hZ (hw _ (List.mem_of_getElem? (i := 8) rfl)) (hw _ (List.mem_of_getElem? (i := 2) rfl)) (by decide) (by decide)) q18a q18c (g := (mkF m 98 #[.val (.int x0), .val (.int k0), .val (.ref c5), .val (.int (0 : Int32))] [(.ref c5)])) rfl (by rw [hml]; rfl) (Steps.refl _) (argsL := []) (rest := []) (lenOf pd_0 rfl) rfl (by show 2 * 0 + _ ≤ _; exact Nat.le_of_eq rfl) (hb hby at_98) (fun _ _ => ⟨rfl, e17, (by decide : 0 + 0 ≤ _), (by decide : 0 + 0 ≤ _)⟩)
              dsimp only [Pt.U, Pt.locs, Pt.cells, Pt.slots] at X18 l18 y18 z18 st18 hQ18
              subst l18 y18 z18
              obtain ⟨rfl, N18q, e18⟩ := hQ18
              have N18 := Fr.app N0 N18q
              refine Go.at (S' := T18.setTop (mkF m 101 #[.val (.int x0), .val (.int k0), .val (.ref c5), .val (.int (0 : Int32))] [(.int (if c5 = c1 ∨ c5 = c3 then 1 else 0))])) st18 ?_
              refine Go.by (S' := T18.setTop (mkF m 102 #[.val (.int x0), .val (.int k0), .val (.ref c5), .val (.int (0 : Int32))] [(.int (0 : Int32)), (.int (if c5 = c1 ∨ c5 = c3 then 1 else 0))])) (fun _ kt => XS.iloadN X18.here hx rfl (hb hby at_101) rfl  kt) ?_
              refine Go.by (S' := T18.setTop (mkF m 105 #[.val (.int x0), .val (.int k0), .val (.ref c5), .val (.int (0 : Int32))] [])) (fun _ kt => XS.icmpNo X18.here hx rfl (hb hby at_102) rfl (XT.ii_ne_f (by simp [n5_1, n5_3]))  kt) ?_
              refine Go.by (S' := T18.setTop (mkF m 106 #[.val (.int x0), .val (.int k0), .val (.ref c5), .val (.int (0 : Int32))] [(.int (1 : Int32))])) (fun _ kt => XT.iconstV X18.here hx rfl (1 : Int32) (hb hby at_105) (by decide)  kt) ?_
              refine Go.by (S' := T18.setTop (mkF m 110 #[.val (.int x0), .val (.int k0), .val (.ref c5), .val (.int (0 : Int32))] [(.int (1 : Int32))])) (fun _ kt => XS.goto X18.here hx rfl (pc0 := 106) (pc' := 110) rfl (hb hby at_106) (by decide) (by decide)  kt) ?_
              refine goRet X18 (v := some (.int (nar .boolean (1 : Int32)))) (fun h => by rw [Bd.returns] at h; cases h) Bd.notSynchronized (fun fs hr => retN X18 hx (t := .boolean) Bd.returns (by simp) (hb hby at_110) hr) (by decide) (by decide) ?_
              exact ⟨by simp [own_n1], N18⟩
            · refine Go.by (S' := s₁.setTop (mkF m 91 #[.val (.int x0), .val (.int k0), .unset, .unset] [])) (fun _ kt => XS.icmpYes X0.here hx rfl (pc0 := 79) (pc' := 91) rfl (hb hby at_79) rfl (XT.ii_ne_t hc79_16) (by decide) (by decide)  kt) ?_
              obtain ⟨T19, X19, e19, st19⟩ := getS2 X0 hx hZ hown (host := "") (Or.inl (hw _ (List.mem_of_getElem? (i := 16) rfl))) Via.refl e0 S6 (g := (mkF m 91 #[.val (.int x0), .val (.int k0), .unset, .unset] [])) rfl (hb hby at_91)
              refine Go.by (S' := T19.setTop (mkF m 94 #[.val (.int x0), .val (.int k0), .unset, .unset] [(.ref c6)])) st19 ?_
              refine Go.by (S' := T19.setTop (mkF m 95 #[.val (.int x0), .val (.int k0), .val (.ref c6), .unset] [])) (fun _ kt => XS.astoreN X19.here hx rfl (hb hby at_94) rfl rfl (l' := #[.val (.int x0), .val (.int k0), .val (.ref c6), .unset]) rfl  kt) ?_
              refine Go.by (S' := T19.setTop (mkF m 96 #[.val (.int x0), .val (.int k0), .val (.ref c6), .unset] [(.int (0 : Int32))])) (fun _ kt => XT.iconstV X19.here hx rfl (0 : Int32) (hb hby at_95) (by decide)  kt) ?_
              refine Go.by (S' := T19.setTop (mkF m 97 #[.val (.int x0), .val (.int k0), .val (.ref c6), .val (.int (0 : Int32))] [])) (fun _ kt => XS.istoreN X19.here hx rfl (hb hby at_96) rfl (l' := #[.val (.int x0), .val (.int k0), .val (.ref c6), .val (.int (0 : Int32))]) rfl  kt) ?_
              refine Go.by (S' := T19.setTop (mkF m 98 #[.val (.int x0), .val (.int k0), .val (.ref c6), .val (.int (0 : Int32))] [(.ref c6)])) (fun _ kt => XS.aloadN X19.here hx rfl (hb hby at_97) rfl rfl  kt) ?_
              obtain ⟨cq20, kq20, q20a, q20b, q20c⟩ := isOf hZ e19 (E6)
              obtain ⟨_, _, ⟨T20, L20, k20, n20⟩, -, X20, ⟨Lc20, hQ20, l20, y20, z20⟩, st20⟩ := X19.virtualBack hx (y := (⟨"com/example/runafter/runafter/Status", "isFailure", "()Z"⟩ : MethodName)) (z := (⟨"com/example/runafter/runafter/Status", "isFailure", "()Z"⟩ : MethodName)) hown (mvT hZ (hw _ (List.mem_of_getElem? (i := 4) rfl))) (mvT hZ (hw _ (List.mem_of_getElem? (i := 5) rfl))) (notFace_of_selects (args := #[]) (mvT hZ (hw _ (List.mem_of_getElem? (i := 7) rfl)))) (mvT hZ (hw _ (List.mem_of_getElem? (i := 7) rfl))) (mvT hZ (hw _ (List.mem_of_getElem? (i := 6) rfl))) (by decide) (backOf (W := 0) (rm1 l Z a0 hw [] c6 c1 c3 h0 n0 S1 S3) hZ (hw _ (List.mem_of_getElem? (i := 8) rfl)) (hw _ (List.mem_of_getElem? (i := 2) rfl)) (by decide) (by decide)) q20a q20c (g := (mkF m 98 #[.val (.int x0), .val (.int k0), .val (.ref c6), .val (.int (0 : Int32))] [(.ref c6)])) rfl (by rw [hml]; rfl) (Steps.refl _) (argsL := []) (rest := []) (lenOf pd_0 rfl) rfl (by show 2 * 0 + _ ≤ _; exact Nat.le_of_eq rfl) (hb hby at_98) (fun _ _ => ⟨rfl, e19, (by decide : 0 + 0 ≤ _), (by decide : 0 + 0 ≤ _)⟩)
              dsimp only [Pt.U, Pt.locs, Pt.cells, Pt.slots] at X20 l20 y20 z20 st20 hQ20
              subst l20 y20 z20
              obtain ⟨rfl, N20q, e20⟩ := hQ20
              have N20 := Fr.app N0 N20q
              refine Go.at (S' := T20.setTop (mkF m 101 #[.val (.int x0), .val (.int k0), .val (.ref c6), .val (.int (0 : Int32))] [(.int (if c6 = c1 ∨ c6 = c3 then 1 else 0))])) st20 ?_
              refine Go.by (S' := T20.setTop (mkF m 102 #[.val (.int x0), .val (.int k0), .val (.ref c6), .val (.int (0 : Int32))] [(.int (0 : Int32)), (.int (if c6 = c1 ∨ c6 = c3 then 1 else 0))])) (fun _ kt => XS.iloadN X20.here hx rfl (hb hby at_101) rfl  kt) ?_
              refine Go.by (S' := T20.setTop (mkF m 105 #[.val (.int x0), .val (.int k0), .val (.ref c6), .val (.int (0 : Int32))] [])) (fun _ kt => XS.icmpNo X20.here hx rfl (hb hby at_102) rfl (XT.ii_ne_f (by simp [n6_1, n6_3]))  kt) ?_
              refine Go.by (S' := T20.setTop (mkF m 106 #[.val (.int x0), .val (.int k0), .val (.ref c6), .val (.int (0 : Int32))] [(.int (1 : Int32))])) (fun _ kt => XT.iconstV X20.here hx rfl (1 : Int32) (hb hby at_105) (by decide)  kt) ?_
              refine Go.by (S' := T20.setTop (mkF m 110 #[.val (.int x0), .val (.int k0), .val (.ref c6), .val (.int (0 : Int32))] [(.int (1 : Int32))])) (fun _ kt => XS.goto X20.here hx rfl (pc0 := 106) (pc' := 110) rfl (hb hby at_106) (by decide) (by decide)  kt) ?_
              refine goRet X20 (v := some (.int (nar .boolean (1 : Int32)))) (fun h => by rw [Bd.returns] at h; cases h) Bd.notSynchronized (fun fs hr => retN X20 hx (t := .boolean) Bd.returns (by simp) (hb hby at_110) hr) (by decide) (by decide) ?_
              exact ⟨by simp [own_n1], N20⟩
set_option maxRecDepth 65536 in
set_option maxHeartbeats 40000000 in
theorem comes_1 {Post : Tables → Env → Array Value → State → Outcome → State → Prop} (hpost : ∀ tb e args s v u, (limb_1_1.after args s (.returned v) u = true ∧ limb_1_2.after args s (.returned v) u = true ∧ True) → FrameEnd s (.returned v) u (Jvm.fieldLocs frame_1_writes args s ++ Jvm.arrayLocs frame_1_arrays args s ++ Jvm.staticLocs frame_1_statics s) 0 0 → Post tb e args s (.returned v) u) :
    ArmFor flags0 classFile x code maxLocals ret World_1 tables_1 room_1 Calls_1 rest_1 Pre_1 Post := by
  intro l hfl _ _ p e ha hc hk s m args below hf hA hF happ hP
  obtain ⟨hcalls, hrest, hpre⟩ := hP
  obtain ⟨-, -, -, hnamed, -, -, -, hat⟩ := (Spec.applies_iff hf).mp happ
  obtain ⟨hg, hn⟩ := and_e (Cond.before_iff.mp (show (Jvm.Cond.and given_1 narrow_1).before args s = true from hpre))
  obtain ⟨gc, gr0⟩ := and_e hg
  have gi0 := gr0
  obtain ⟨w0, rfl⟩ : ∃ w0 : Value, args = #[w0] := by
    have hs : args.size = 1 := by simpa [Cond.value, given_1] using gc
    obtain ⟨L⟩ := args
    match L, hs with
    | [w0], _ => exact ⟨w0, rfl⟩
  have hw := fun d (hd : d ∈ tables_1) => atoms_spec (ws := Jvm.Cond.code x code maxLocals ret :: tables_1) hat d (List.mem_cons_of_mem _ hd)
  have hfit : Fit s := fun {y c} hc i hi => by
    obtain ⟨ha, rfl⟩ := Array.getElem?_eq_some_iff.mp hc
    have q := List.all_eq_true.mp ((Array.all_eq_true_iff_forall_mem.mp hF) _ (Array.getElem_mem ha)) i (List.mem_range.mpr hi)
    simpa [Array.getElem?_eq_getElem hi] using q
  obtain ⟨i0, ei0⟩ := is_v gi0
  obtain rfl : w0 = (.int i0) := Option.some.inj ei0
  obtain ⟨nx0, nr0⟩ := and_e hn
  obtain ⟨nx1, nr1⟩ := and_e nr0
  obtain ⟨ne0, nr2⟩ := and_e nr1
  obtain ⟨ne1, nr3⟩ := and_e nr2
  obtain ⟨nx3, nr4⟩ := and_e nr3
  obtain ⟨ne3, nr5⟩ := and_e nr4
  obtain ⟨nx5, nr6⟩ := and_e nr5
  obtain ⟨ne5, nr7⟩ := and_e nr6
  obtain ⟨nx6, nr8⟩ := and_e nr7
  obtain ⟨ne6, nr9⟩ := and_e nr8
  obtain ⟨nx4, nr10⟩ := and_e nr9
  obtain ⟨ne4, nr11⟩ := and_e nr10
  obtain ⟨nx2, nr12⟩ := and_e nr11
  have ne2 := nr12
  obtain ⟨c0, S0, E0, F0⟩ := own_enum nx0 ne0 (hw _ (List.mem_of_getElem? (i := 2) rfl)) (hw _ (List.mem_of_getElem? (i := 3) rfl))
  obtain ⟨c1, S1, E1, F1⟩ := own_enum nx1 ne1 (hw _ (List.mem_of_getElem? (i := 2) rfl)) (hw _ (List.mem_of_getElem? (i := 10) rfl))
  obtain ⟨c2, S2, E2, F2⟩ := own_enum nx2 ne2 (hw _ (List.mem_of_getElem? (i := 2) rfl)) (hw _ (List.mem_of_getElem? (i := 21) rfl))
  obtain ⟨c3, S3, E3, F3⟩ := own_enum nx3 ne3 (hw _ (List.mem_of_getElem? (i := 2) rfl)) (hw _ (List.mem_of_getElem? (i := 12) rfl))
  obtain ⟨c4, S4, E4, F4⟩ := own_enum nx4 ne4 (hw _ (List.mem_of_getElem? (i := 2) rfl)) (hw _ (List.mem_of_getElem? (i := 19) rfl))
  obtain ⟨c5, S5, E5, F5⟩ := own_enum nx5 ne5 (hw _ (List.mem_of_getElem? (i := 2) rfl)) (hw _ (List.mem_of_getElem? (i := 15) rfl))
  obtain ⟨c6, S6, E6, F6⟩ := own_enum nx6 ne6 (hw _ (List.mem_of_getElem? (i := 2) rfl)) (hw _ (List.mem_of_getElem? (i := 17) rfl))
  obtain ⟨n, o, h1, h2, h3, _, L, rfl, ⟨rfl, N⟩, hq⟩ := rm0 l s _ hw tables_1 i0 c0 c1 c2 c3 c4 c5 c6 s.heap s.heap.size S0 S1 S2 S3 S4 S5 S6 E0 E1 E2 E3 E4 E5 E6 (F0.ne F1 (fun q => absurd (Value.int.inj q) (by decide))) (F0.ne F3 (fun q => absurd (Value.int.inj q) (by decide))) (F1.ne F3 (fun q => absurd (Value.int.inj q) (by decide))) (F2.ne F1 (fun q => absurd (Value.int.inj q) (by decide))) (F2.ne F3 (fun q => absurd (Value.int.inj q) (by decide))) (F3.ne F1 (fun q => absurd (Value.int.inj q) (by decide))) (F4.ne F1 (fun q => absurd (Value.int.inj q) (by decide))) (F4.ne F3 (fun q => absurd (Value.int.inj q) (by decide))) (F5.ne F1 (fun q => absurd (Value.int.inj q) (by decide))) (F5.ne F3 (fun q => absurd (Value.int.inj q) (by decide))) (F6.ne F1 (fun q => absurd (Value.int.inj q) (by decide))) (F6.ne F3 (fun q => absurd (Value.int.inj q) (by decide))) p e ha hc hk s m _ below hf ((Spec.applies_iff_loose hf).mp happ).1 ⟨rfl, State.Warmed39.refl s, rfl⟩ trivial
  refine ⟨n, _, h1, h2, h3, hpost _ _ _ _ _ _ ⟨Cond.after_iff.mpr rfl, Cond.after_iff.mpr (eq_i res_at (Term.int_eval (1)) rfl), trivial⟩ ⟨hq.1, hq.2.1, (hq.2.2.sift fun y hy => Or.inr (N y hy)).mono (by decide) (by decide)⟩⟩
theorem main_1_1 : Claimed_1_1 := comes_1 fun _ _ _ _ _ _ h hF => ⟨h.1, hF⟩
theorem main_1_2 : Claimed_1_2 := comes_1 fun _ _ _ _ _ _ h hF => ⟨h.2.1, hF⟩
end Jvm.Pilot.@@N@@
namespace Jvm.Pilot.@@N@@
open Jvm Jvm.ClassFile Sem Op Lib Jvm.Free Jvm.Stand Jvm.Pilot.@@N@@.Jvm.D
/-! MADE BY PROGRAM (witnessworld.py) out of the Statement's table words and the real class files: 12 classes; the members and pool entries that the words name. The judged class is class 1, her method 1. -/
namespace start1
open Jvm.ClassFile
def u (s : String) : CpInfo := .utf8 (stringToUtf16 s)
/-- a pool by its gaps: so many unusable entries, then the entry; so many at the end -/
def gap : Nat → List CpInfo → List CpInfo
  | 0, r => r
  | n + 1, r => .unusable :: gap n r
def poolList (es : List (Nat × CpInfo)) (last : Nat) : List CpInfo := es.foldr (fun e r => gap e.1 (e.2 :: r)) (gap last [])
def pool (es : List (Nat × CpInfo)) (last : Nat) : Array CpInfo := ⟨poolList es last⟩
def fileOf (pool : Array CpInfo) (this : Nat) (attrs : Array Attribute := #[]) (ms : Array MethodInfo := #[]) (fl : Nat := 33) (sup : Nat := 0) (ifs : Array Nat := #[]) (fds : Array FieldInfo := #[]) : ClassFile where
  minorVersion := 0
  majorVersion := 65
  constantPool := pool
  accessFlags := fl
  thisClass := this
  superClass := sup
  interfaces := ifs
  fields := fds
  methods := ms
  attributes := attrs
def plain (name : String) (sup : Option ClassId) : Class where
  name := name
  kind := .ordinary
  loader := none
  accessFlags := 33
  super := sup
  interfaces := #[]
  cf := none
  fields := #[]
  methods := #[]
  instanceTypes := #[]
  staticTypes := #[]
  resolved := #[]
  callSites := []
  init := .initialized
  statics := none
  mirror := none

def pool0 : Array CpInfo := pool [(5, u "<init>"), (0, u "()V"), (1, .class_ 10), (1, u "java/lang/Object")] 113

def k0m0 : Method := { name := "<init>", desc := "()V", sig := { parameters := [], returnType := none }, accessFlags := 1, code := none }
/-- java/lang/Object -/
def k0 : Class := { plain "java/lang/Object" none with
  accessFlags := 33
  interfaces := #[]
  cf := some (fileOf pool0 8 #[] #[{ accessFlags := 1, nameIndex := 5, descriptorIndex := 6, attributes := #[] }] 33 0 #[] #[])
  fields := #[]
  methods := #[k0m0]
  instanceTypes := #[]
  staticTypes := #[]
  resolved := Array.replicate 124 none
  statics := none }

def pool1 : Array CpInfo := pool [(2, .class_ 4), (1, u "java/lang/Object"), (0, u "<init>"), (0, u "()V"), (0, .integer 2147483647), (0, .fieldref 9 10), (0, .class_ 11), (0, .nameAndType 12 13), (0, u "com/example/runafter/runafter/Status"), (0, u "SUCCEEDED"), (0, u "Lcom/example/runafter/runafter/Status;"), (0, .fieldref 9 15), (0, .nameAndType 16 13), (0, u "FAILED"), (0, .fieldref 9 18), (0, .nameAndType 19 13), (0, u "SKIPPED"), (0, .fieldref 9 21), (0, .nameAndType 22 13), (0, u "TIMED_OUT"), (0, .fieldref 9 24), (0, .nameAndType 25 13), (0, u "CANCELLED"), (0, .fieldref 9 27), (0, .nameAndType 28 13), (0, u "RUNNING"), (0, .fieldref 9 30), (0, .nameAndType 31 13), (0, u "WAITING"), (0, .methodref 9 33), (0, .nameAndType 34 35), (0, u "isFailure"), (0, u "()Z"), (0, .class_ 37), (0, u "com/example/runafter/runafter/StatusIsFailurePinLaw"), (2, u "law"), (0, u "(I)Z")] 3

def k1m0 : Method := { name := "<init>", desc := "()V", sig := { parameters := [], returnType := none }, accessFlags := 1, code := none }
def k1c1 : Code := { maxStack := 2, maxLocals := 4, code := code, exceptionTable := #[], attributes := #[] }
def k1m1 : Method := { name := "law", desc := "(I)Z", sig := { parameters := [.int], returnType := some .boolean }, accessFlags := 9, code := some k1c1 }
/-- com/example/runafter/runafter/StatusIsFailurePinLaw -/
def k1 : Class := { plain "com/example/runafter/runafter/StatusIsFailurePinLaw" (some 0) with
  accessFlags := 49
  interfaces := #[]
  cf := some (fileOf pool1 36 #[] #[{ accessFlags := 1, nameIndex := 5, descriptorIndex := 6, attributes := #[] }, { accessFlags := 9, nameIndex := 40, descriptorIndex := 41, attributes := #[] }] 49 2 #[] #[])
  fields := #[]
  methods := #[k1m0, k1m1]
  instanceTypes := #[]
  staticTypes := #[]
  resolved := Array.replicate 45 none
  statics := none }

def pool2 : Array CpInfo := pool [(1, .class_ 2), (0, u "java/lang/constant/Constable"), (0, .class_ 4), (0, u "java/lang/Object")] 6

/-- java/lang/constant/Constable -/
def k2 : Class := { plain "java/lang/constant/Constable" (some 0) with
  accessFlags := 1537
  interfaces := #[]
  cf := some (fileOf pool2 1 #[] #[] 1537 3 #[] #[])
  fields := #[]
  methods := #[]
  instanceTypes := #[]
  staticTypes := #[]
  resolved := Array.replicate 11 none
  statics := none }

def pool3 : Array CpInfo := pool [(1, .class_ 2), (0, u "java/lang/Comparable"), (0, .class_ 4), (0, u "java/lang/Object")] 7

/-- java/lang/Comparable -/
def k3 : Class := { plain "java/lang/Comparable" (some 0) with
  accessFlags := 1537
  interfaces := #[]
  cf := some (fileOf pool3 1 #[] #[] 1537 3 #[] #[])
  fields := #[]
  methods := #[]
  instanceTypes := #[]
  staticTypes := #[]
  resolved := Array.replicate 12 none
  statics := none }

def pool4 : Array CpInfo := pool [(1, .class_ 2), (0, u "java/io/Serializable"), (0, .class_ 4), (0, u "java/lang/Object")] 2

/-- java/io/Serializable -/
def k4 : Class := { plain "java/io/Serializable" (some 0) with
  accessFlags := 1537
  interfaces := #[]
  cf := some (fileOf pool4 1 #[] #[] 1537 3 #[] #[])
  fields := #[]
  methods := #[]
  instanceTypes := #[]
  staticTypes := #[]
  resolved := Array.replicate 7 none
  statics := none }

def pool5 : Array CpInfo := pool [(2, .class_ 4), (1, u "java/lang/Enum"), (0, u "name"), (0, u "Ljava/lang/String;"), (2, u "ordinal"), (0, u "I"), (1, .class_ 14), (1, u "java/lang/Object"), (4, u "hash"), (86, .class_ 108), (1, u "java/lang/Enum$EnumDesc"), (2, .class_ 112), (0, u "java/lang/constant/Constable"), (0, .class_ 114), (0, u "java/lang/Comparable"), (0, .class_ 116), (0, u "java/io/Serializable")] 87

/-- java/lang/Enum -/
def k5 : Class := { plain "java/lang/Enum" (some 0) with
  accessFlags := 1057
  interfaces := #[2, 3, 4]
  cf := some (fileOf pool5 2 #[.nestMembers #[106]] #[] 1057 12 #[111, 113, 115] #[{ accessFlags := 18, nameIndex := 5, descriptorIndex := 6, attributes := #[] }, { accessFlags := 18, nameIndex := 9, descriptorIndex := 10, attributes := #[] }, { accessFlags := 2, nameIndex := 19, descriptorIndex := 10, attributes := #[] }])
  fields := #[{ name := "name", type := (.object "java/lang/String"), accessFlags := 18, slot := 0, constantValue := 0 }, { name := "ordinal", type := .int, accessFlags := 18, slot := 1, constantValue := 0 }, { name := "hash", type := .int, accessFlags := 2, slot := 2, constantValue := 0 }]
  methods := #[]
  instanceTypes := #[(.object "java/lang/String"), .int, .int]
  staticTypes := #[]
  resolved := Array.replicate 204 none
  statics := none }

def pool6 : Array CpInfo := pool [(1, .class_ 2), (0, u "com/example/runafter/runafter/Status"), (2, u "SUCCEEDED"), (0, u "Lcom/example/runafter/runafter/Status;"), (0, .fieldref 1 8), (0, .nameAndType 9 6), (0, u "FAILED"), (2, u "SKIPPED"), (0, .fieldref 1 14), (0, .nameAndType 15 6), (0, u "TIMED_OUT"), (2, u "CANCELLED"), (2, u "RUNNING"), (2, u "WAITING"), (2, u "$VALUES"), (0, u "[Lcom/example/runafter/runafter/Status;"), (6, .class_ 37), (1, u "java/lang/Enum"), (8, u "text"), (0, u "Ljava/lang/String;"), (2, u "waitedOn"), (0, u "Z"), (64, u "isFailure"), (0, u "()Z")] 8

def k6c0 : Code := { maxStack := 2, maxLocals := 1, code := prog_21_method_5_code, exceptionTable := #[], attributes := #[] }
def k6m0 : Method := { name := "isFailure", desc := "()Z", sig := { parameters := [], returnType := some .boolean }, accessFlags := 0, code := some k6c0 }
/-- com/example/runafter/runafter/Status -/
def k6 : Class := { plain "com/example/runafter/runafter/Status" (some 5) with
  accessFlags := 16433
  interfaces := #[]
  cf := some (fileOf pool6 1 #[] #[{ accessFlags := 0, nameIndex := 116, descriptorIndex := 117, attributes := #[] }] 16433 35 #[] #[{ accessFlags := 16409, nameIndex := 5, descriptorIndex := 6, attributes := #[] }, { accessFlags := 16409, nameIndex := 9, descriptorIndex := 6, attributes := #[] }, { accessFlags := 16409, nameIndex := 12, descriptorIndex := 6, attributes := #[] }, { accessFlags := 16409, nameIndex := 15, descriptorIndex := 6, attributes := #[] }, { accessFlags := 16409, nameIndex := 18, descriptorIndex := 6, attributes := #[] }, { accessFlags := 16409, nameIndex := 21, descriptorIndex := 6, attributes := #[] }, { accessFlags := 16409, nameIndex := 24, descriptorIndex := 6, attributes := #[] }, { accessFlags := 18, nameIndex := 46, descriptorIndex := 47, attributes := #[] }, { accessFlags := 18, nameIndex := 50, descriptorIndex := 51, attributes := #[] }, { accessFlags := 4122, nameIndex := 27, descriptorIndex := 28, attributes := #[] }])
  fields := #[{ name := "SUCCEEDED", type := (.object "com/example/runafter/runafter/Status"), accessFlags := 16409, slot := 0, constantValue := 0 }, { name := "FAILED", type := (.object "com/example/runafter/runafter/Status"), accessFlags := 16409, slot := 1, constantValue := 0 }, { name := "SKIPPED", type := (.object "com/example/runafter/runafter/Status"), accessFlags := 16409, slot := 2, constantValue := 0 }, { name := "TIMED_OUT", type := (.object "com/example/runafter/runafter/Status"), accessFlags := 16409, slot := 3, constantValue := 0 }, { name := "CANCELLED", type := (.object "com/example/runafter/runafter/Status"), accessFlags := 16409, slot := 4, constantValue := 0 }, { name := "RUNNING", type := (.object "com/example/runafter/runafter/Status"), accessFlags := 16409, slot := 5, constantValue := 0 }, { name := "WAITING", type := (.object "com/example/runafter/runafter/Status"), accessFlags := 16409, slot := 6, constantValue := 0 }, { name := "text", type := (.object "java/lang/String"), accessFlags := 18, slot := 3, constantValue := 0 }, { name := "waitedOn", type := .boolean, accessFlags := 18, slot := 4, constantValue := 0 }, { name := "$VALUES", type := (.array (.object "com/example/runafter/runafter/Status")), accessFlags := 4122, slot := 7, constantValue := 0 }]
  methods := #[k6m0]
  instanceTypes := #[(.object "java/lang/String"), .int, .int, (.object "java/lang/String"), .boolean]
  staticTypes := #[(.object "com/example/runafter/runafter/Status"), (.object "com/example/runafter/runafter/Status"), (.object "com/example/runafter/runafter/Status"), (.object "com/example/runafter/runafter/Status"), (.object "com/example/runafter/runafter/Status"), (.object "com/example/runafter/runafter/Status"), (.object "com/example/runafter/runafter/Status"), (.array (.object "com/example/runafter/runafter/Status"))]
  resolved := Array.replicate 126 none
  statics := some 0 }

def pool7 : Array CpInfo := pool [(1, u "java/lang/Cloneable"), (0, .class_ 1), (0, u "java/lang/Object"), (0, .class_ 3)] 3

/-- java/lang/Cloneable -/
def k7 : Class := { plain "java/lang/Cloneable" (some 0) with
  accessFlags := 1537
  interfaces := #[]
  cf := some (fileOf pool7 2 #[] #[] 1537 4 #[] #[])
  fields := #[]
  methods := #[]
  instanceTypes := #[]
  staticTypes := #[]
  resolved := Array.replicate 8 none
  statics := none }

/-- the primitive byte -/
def k8 : Class := { plain "byte" none with kind := .primitive 'B', accessFlags := 0x411 }
/-- [B -/
def k9 : Class := { plain "[B" (some 0) with kind := .array 8 .byte, interfaces := #[7, 4], accessFlags := 1041 }

/-- the primitive int -/
def k10 : Class := { plain "int" none with kind := .primitive 'I', accessFlags := 0x411 }
/-- [I -/
def k11 : Class := { plain "[I" (some 0) with kind := .array 10 .int, interfaces := #[7, 4], accessFlags := 1041 }

def heap : Heap := #[{ cls := 6, slots := #[.ref 1, .ref 2, .ref 3, .ref 4, .ref 5, .ref 6, .ref 7, .null], vm := .statics 6 },
  { cls := 6, slots := #[.null, .int 0, .int 0, .null, .int 0], vm := .none },
  { cls := 6, slots := #[.null, .int 1, .int 0, .null, .int 0], vm := .none },
  { cls := 6, slots := #[.null, .int 2, .int 0, .null, .int 0], vm := .none },
  { cls := 6, slots := #[.null, .int 3, .int 0, .null, .int 0], vm := .none },
  { cls := 6, slots := #[.null, .int 4, .int 0, .null, .int 0], vm := .none },
  { cls := 6, slots := #[.null, .int 5, .int 0, .null, .int 0], vm := .none },
  { cls := 6, slots := #[.null, .int 6, .int 0, .null, .int 0], vm := .none }]
def classes : Array Class := #[k0, k1, k2, k3, k4, k5, k6, k7, k8, k9, k10, k11]
def interned : List (Array UInt16 × Addr) := []
def slotsUsed : Nat := 43
def theMethod : MethodId := ⟨1, 1⟩
def args0 : Array Value := #[.int 3]
def aboutOver (below : List Frame) : State where
  vm := { classes := classes, interned := interned.toArray }
  heap := heap
  slotsUsed := slotsUsed
  threads := #[{ frames := .invoking theMethod args0 :: below }]
def below0 : List Frame := [.native { method := ⟨0, 0⟩, args := #[] }]
def about1 : State := aboutOver below0
def p0 : Program := .bare "" "" ""
def e0 : Env := launch0.env 0 0 0
theorem w_frames : about1.frames = Frame.invoking theMethod args0 :: below0 := rfl
set_option maxRecDepth 65536 in
theorem w_args : argsFit about1.vm theMethod args0 = true := by decide +kernel
set_option maxRecDepth 65536 in
theorem w_heap : heapFits about1 = true := by decide +kernel
set_option maxRecDepth 65536 in
theorem w_runnable : about1.curStatus? = some .runnable := by decide +kernel
set_option maxRecDepth 65536 in
theorem w_alone : about1.alone = true := by decide +kernel
set_option maxRecDepth 65536 in
theorem w_named : about1.methodNamed? x = some theMethod := by decide +kernel
set_option maxRecDepth 65536 in
theorem w_hears : about1.hears theMethod below0 = true := by decide +kernel
set_option maxRecDepth 65536 in
theorem w_ripe : about1.ripe theMethod args0 below0 = true := by decide +kernel
theorem w_running : about1.status = .running := rfl
set_option maxRecDepth 65536 in
theorem w_room : about1.hasRoom e0.platform room_1 = true :=
  launch0.hasRoom_least _ room_1 (by decide +kernel) (by decide +kernel) (by decide +kernel) (by decide +kernel) (by decide +kernel) (by decide +kernel)
theorem allAtoms_all (ts : List Jvm.Cond) (a : Array Jvm.Value) (st : Jvm.State) : (allAtoms ts).before a st = ts.all (fun c => c.before a st) := by
  induction ts with
  | nil => rfl
  | cons c t ih =>
    show (Jvm.Cond.and c (allAtoms t)).before a st = _
    rw [Jvm.Cond.before_and, ih, List.all_cons]
def words1 : List Jvm.Cond := Jvm.Cond.code x code maxLocals ret :: tables_1
/-- a 'code' word, met by the world's own term for the bytes: nothing is compared byte by byte -/
theorem code_word {y : MethodName} {bytes : ByteArray} {mx : Nat} {rt : Option FieldType} {a : Array Value} {s : State} {m : MethodId} {meth : Method} {c : Code} (h1 : s.methodNamed? y = some m) (h2 : s.vm.method? m = some meth) (h3 : meth.code = some c) (h4 : c.code = bytes)
    (h5 : (c.maxLocals == mx && c.exceptionTable.isEmpty && decide (c.maxStack ≤ mostOperands) && decide (meth.sig.returnType = rt) && !meth.locks && decide (parseMethodDescriptor y.desc = some meth.sig)) = true) : (Jvm.Cond.code y bytes mx rt).before a s = true := by
  simp only [Bool.and_eq_true, beq_iff_eq, Bool.not_eq_true', decide_eq_true_eq] at h5
  obtain ⟨⟨⟨⟨⟨g1, g2⟩, g3⟩, g4⟩, g5⟩, g6⟩ := h5
  simp [Cond.before, Cond.holds, Cond.value, h1, h2, h3, h4, g1, g2, g3, g4, g5, g6]
def isCode : Jvm.Cond → Bool
  | .code _ _ _ _ => true
  | _ => false
theorem all_split {L : List Jvm.Cond} {P : Jvm.Cond → Bool} (h1 : L.all (fun c => isCode c || P c) = true) (h2 : ∀ c ∈ L.filter isCode, P c = true) : L.all P = true := by
  refine List.all_eq_true.mpr fun c hc => ?_
  have h := List.all_eq_true.mp h1 c hc
  rcases Bool.eq_false_or_eq_true (isCode c) with hi | hi
  · exact h2 c (List.mem_filter.mpr ⟨hc, hi⟩)
  · simpa [hi] using h
set_option maxRecDepth 65536 in
theorem w_c0 : (Jvm.Cond.code x code maxLocals ret).before args0 about1 = true := code_word (m := ⟨1, 1⟩) (meth := k1m1) (c := k1c1) (by decide +kernel) rfl rfl rfl (by decide +kernel)
set_option maxRecDepth 65536 in
theorem w_c1 : (Jvm.Cond.code ({ cls := "com/example/runafter/runafter/Status", name := "isFailure", desc := "()Z" } : Jvm.MethodName) prog_21_method_5_code (1 : Nat) (Option.some Jvm.ClassFile.FieldType.boolean)).before args0 about1 = true := code_word (m := ⟨6, 0⟩) (meth := k6m0) (c := k6c0) (by decide +kernel) rfl rfl rfl (by decide +kernel)
def codes1 : List Jvm.Cond := [Jvm.Cond.code x code maxLocals ret, Jvm.Cond.code ({ cls := "com/example/runafter/runafter/Status", name := "isFailure", desc := "()Z" } : Jvm.MethodName) prog_21_method_5_code (1 : Nat) (Option.some Jvm.ClassFile.FieldType.boolean)]
set_option maxRecDepth 65536 in
theorem codes_eq : words1.filter isCode = codes1 := rfl
theorem w_codes : ∀ c ∈ words1.filter isCode, c.before args0 about1 = true := by
  rw [codes_eq]
  intro c hc
  simp only [codes1, List.mem_cons, List.not_mem_nil, or_false] at hc
  rcases hc with rfl | rfl
  · exact w_c0
  · exact w_c1
set_option maxRecDepth 65536 in
theorem w_t1 : words1.all (fun c => isCode c || c.before args0 about1) = true := by decide +kernel
theorem w_tables : (allAtoms (Jvm.Cond.code x code maxLocals ret :: tables_1)).before args0 about1 = true := by
  rw [allAtoms_all]
  show words1.all (fun c => c.before args0 about1) = true
  refine all_split ?_ w_codes
  rw [w_t1]
set_option maxRecDepth 65536 in
theorem w_case : (Jvm.Cond.and given_1 narrow_1).before args0 about1 = true := by decide +kernel
theorem w_applies : (headSpec (Jvm.Cond.code x code maxLocals ret :: tables_1) room_1).applies x e0.platform about1 = true :=
  (Spec.applies_iff w_frames).mpr ⟨w_running, w_runnable, w_alone, w_named, w_hears, w_ripe, w_room, w_tables⟩
theorem atStart : AtStart classFile x code maxLocals ret World_1 tables_1 room_1 Calls_1 rest_1 Pre_1 launch0 p0 e0 about1 theMethod args0 below0 :=
  ⟨lists_1, trivial, launch0.admits_env _ _ _, launch0.least_env, fairChoices_fair.cas, fairChoices_fair.clock, w_frames, w_args, w_heap, w_applies, trivial, trivial, w_case⟩
end start1
theorem witness_1 : WitnessClaimed_1 := ⟨start1.p0, start1.e0, start1.about1, start1.theMethod, start1.args0, start1.below0, start1.atStart⟩
end Jvm.Pilot.@@N@@
