import JvmDerived
import JvmDerived.Pilot.@@N@@Statement
import JvmDerived.Pilot.@@N@@Code
set_option linter.unusedVariables false
set_option linter.unusedSimpArgs false
namespace Jvm.Pilot.@@N@@
open Jvm Jvm.ClassFile Sem Op Lib Jvm.Free Jvm.Stand Jvm.LawKit Jvm.RoadKit Bundle Jvm.Pilot.@@N@@.Jvm.D
section OwnKit
variable {p : Program} {l : Launch} {e : Env} {R : Room} {s : State} {m : MethodId} {args : Array Value} {below : List Frame} {meth : Method} {c : Code} {T S S' : State} {locs : List Loc} {cells slots : Nat} {F : Outcome → State → Prop}
def Go (p : Program) (e : Env) (below : List Frame) (S : State) (F : Outcome → State → Prop) : Prop := ∃ (U : State) (o : Outcome), Steps p.tables e below S U ∧ U.status = .running ∧ Ended U below o ∧ F o U
theorem goIn {g g' : JFrame} (q : g = g') (k : Go p e below (T.setTop g') F) : ∃ (U : State) (o : Outcome), Steps p.tables e below (T.setTop g) U ∧ U.status = .running ∧ Ended U below o ∧ F o U := q ▸ k
theorem Go.by (st : ∀ t, Steps p.tables e below S' t → Steps p.tables e below S t) (k : Go p e below S' F) : Go p e below S F := by
  obtain ⟨U, o, h1, h2⟩ := k
  exact ⟨U, o, st _ h1, h2⟩
theorem Go.at (st : Steps p.tables e below S S') (k : Go p e below S' F) : Go p e below S F := by
  obtain ⟨U, o, h1, h2⟩ := k
  exact ⟨U, o, st.trans h1, h2⟩
theorem goRet {W : Option Value → Heap → List Loc → Prop} {C N : Nat} {v : Option Value} {g : JFrame} (X : Stand p l e R s m args below meth c T locs cells slots) (hv : meth.sig.returnType = none → v = none) (hlk : meth.locks = false)
    (hst : ∀ fs, (∀ (f : JFrame) (acts : List Action), f.method = m → f.locked = none → f.entered = [] → (doReturn e (T.setTop f) acts v).1 = T.setFrames fs) → Steps p.tables e below (T.setTop g) (T.setFrames fs))
    (hc : cells ≤ C) (hs : slots ≤ N) (hq : W v T.heap locs) : Go p e below (T.setTop g) (fun o U => ∃ v L, o = .returned v ∧ W v U.heap L ∧ FrameEnd s o U L C N) := by
  obtain ⟨fs, hr, hrun, hended, hW, hsame⟩ := X.leave (v := v) hv hlk
  exact ⟨_, _, hst fs hr, hrun, hended, _, _, rfl, hq, ⟨_, rfl⟩, hW, hsame.mono hc hs⟩
theorem goRetW {W : Option Value → Heap → List Loc → Prop} {C N n : Nat} {v : Option Value} {g : JFrame} {vm₁ : Vm} (X : Stand p l e R (s.setVm vm₁) m args below meth c T locs cells slots) (hS : s.Since vm₁ n) (hn : n ≤ T.heap.size) (hv : meth.sig.returnType = none → v = none) (hlk : meth.locks = false)
    (hst : ∀ fs, (∀ (f : JFrame) (acts : List Action), f.method = m → f.locked = none → f.entered = [] → (doReturn e (T.setTop f) acts v).1 = T.setFrames fs) → Steps p.tables e below (T.setTop g) (T.setFrames fs))
    (hc : cells ≤ C) (hs : slots ≤ N) (hq : W v T.heap locs) : Go p e below (T.setTop g) (fun o U => ∃ v L, o = .returned v ∧ W v U.heap L ∧ ReturnedEndW s o U L C N) := by
  obtain ⟨fs, hr, hrun, hended, h1, h2, h3, h4⟩ := X.leaveW hS hn (v := v) hv hlk
  exact ⟨_, _, hst fs hr, hrun, hended, _, _, rfl, hq, h1, h2, h3, h4.mono hc hs⟩
/-- it returns w; nothing old is written; the heap is h0 -/
def PureQ (w : Option Value) (h0 : Heap) (n0 : Nat) (v : Option Value) (h : Heap) (L : List Loc) : Prop := v = w ∧ Fr n0 L ∧ h = h0
end OwnKit
theorem pd_0 : parseMethodDescriptor "(I)Lcom/example/tidemark/tidemark/engine/DemandKind;" = some ⟨[.int], some (.object "com/example/tidemark/tidemark/engine/DemandKind")⟩ := by decide +kernel
theorem pd_1 : parseMethodDescriptor "()Z" = some ⟨[], some .boolean⟩ := by decide +kernel
theorem pd_2 : parseMethodDescriptor "()I" = some ⟨[], some .int⟩ := by decide +kernel
theorem own_enum {s : State} {args : Array Value} {C n d O f : String} {k : Int32} (hx : (Jvm.Cond.exactly (Jvm.Term.static C n d) C).value args s none s [] = some true)
    (he : (Jvm.Cond.eq (Jvm.Term.field (Jvm.Term.static C n d) O f "I") (Jvm.Term.int k)).value args s none s [] = some true)
    (hi : (Jvm.Cond.initialized C).before args s = true) (hl : (Jvm.Cond.laysStatic C n d).before args s = true) :
    ∃ a, Sta s s.heap C n d (.ref a) ∧ Exa s s.heap a C ∧ Fld s s.heap a O f "I" (.int k) := by
  obtain ⟨a, ea⟩ := exa_v hx
  exact ⟨a, Sta.start ea (Or.inr ⟨hi, hl⟩), Exa.start ea hx, Fld.start ((fld_at ea).symm.trans (eqv_i (F := Jvm.Term.int k) rfl he))⟩
def pickA (i : Int32) (c0 c1 c2 c3 : Addr) : Addr := if i = 0 then c0 else if i = 1 then c1 else if i = 2 then c2 else c3
theorem ef_rm3 (m : MethodId) (x0 : Addr) : entryFrame m #[(.ref x0)] 1 = mkF m 0 #[.val (.ref x0)] [] := by first | (simp [entryFrame, mkF, argsToLocals, Value.category]; done) | rfl
theorem pn_rm3 : plainName "java/lang/Enum" = true := by first | (simp [plainName, overriddenIn]; done) | decide +kernel
theorem d3_0 : decode jdk_37_method_2_code 0 = .ok (.aload_n 0, 1) := by decide +kernel
theorem d3_1 : decode jdk_37_method_2_code 1 = .ok (.getfield 7, 3) := by decide +kernel
theorem d3_4 : decode jdk_37_method_2_code 4 = .ok (.ireturn, 1) := by decide +kernel
set_option maxRecDepth 65536 in
set_option maxHeartbeats 40000000 in
theorem rm3 (l : Launch) (Z : State) (a0 : Array Value) (hw : ∀ d ∈ tables_1, d.before a0 Z = true) (ws : List Jvm.Cond) (a : Addr) (k : Int32) (h0 : Heap) (n0 : Nat) (F : Fld Z h0 a "java/lang/Enum" "ordinal" "I" (.int k)) :
    MetFree l (⟨"java/lang/Enum", "ordinal", "()I"⟩ : MethodName) (head1 (Jvm.Cond.code (⟨"java/lang/Enum", "ordinal", "()I"⟩ : MethodName) jdk_37_method_2_code 1 (some .int) :: ws) ({ frames := 0, cells := 0, slots := 0, locals := 0 } : Room)) (fun aa U => aa = #[(.ref a)] ∧ Z.Warmed39 U.vm ∧ U.heap = h0) (fun _ _ _ _ _ => True) (fun _ U o U' => ∃ v L, o = .returned v ∧ PureQ (some (.int k)) h0 n0 v U'.heap L ∧ FrameEnd U o U' L ({ frames := 0, cells := 0, slots := 0, locals := 0 } : Room).cells ({ frames := 0, cells := 0, slots := 0, locals := 0 } : Room).slots) := by
  refine MetFree.of_bodySF (plainFor_of_name pn_rm3) hisR ?_
  intro p e s m args below meth c s₁ Bd hml0 hP hK
  obtain ⟨rfl, hZ, hh⟩ := hP
  have hx := Bd.exec
  have hby := Bd.bytes
  have hml : c.maxLocals = 1 := hml0
  have hown : s.vm.findClass "java/lang/Enum" = some m.cls := findClass_of_methodNamed Bd.named
  have hnm := (name_of_methodNamed Bd.named Bd.method).1
  have X0 : Stand p l e ({ frames := 0, cells := 0, slots := 0, locals := 0 } : Room) s m #[(.ref a)] below meth c s₁ [] 0 0 := Stand.of_body Bd
  have e0 : s₁.heap = h0 := by rw [← hh, Bd.state]; rfl
  have N0 := Fr.nil n0
  refine goIn (ef_rm3 m a) ?_
  refine Go.by (S' := s₁.setTop (mkF m 1 #[.val (.ref a)] [(.ref a)])) (fun _ kt => XS.aloadN X0.here hx rfl (hb hby d3_0) rfl rfl  kt) ?_
  obtain ⟨T1, X1, e1, st1⟩ := getF X0 hx hZ hown (host := "") (Or.inl (hw _ (List.mem_of_getElem? (i := 19) rfl))) Via.refl e0 F (g := (mkF m 1 #[.val (.ref a)] [(.ref a)])) rfl rfl (hb hby d3_1)
  refine Go.by (S' := T1.setTop (mkF m 4 #[.val (.ref a)] [(.int k)])) st1 ?_
  refine goRet X1 (v := some (.int k)) (fun h => by rw [Bd.returns] at h; cases h) Bd.notSynchronized (fun fs hr => retOut X1 hx Bd.returns rfl (Or.inl ⟨rfl, Or.inl rfl, _, rfl⟩) (hb hby d3_4) hr) (by decide) (by decide) ?_
  exact ⟨rfl, N0, e1⟩
theorem ef_rm2 (m : MethodId) (x0 : Addr) : entryFrame m #[(.ref x0)] 1 = mkF m 0 #[.val (.ref x0)] [] := by first | (simp [entryFrame, mkF, argsToLocals, Value.category]; done) | rfl
theorem pn_rm2 : plainName "com/example/tidemark/tidemark/engine/DemandKind" = true := by first | (simp [plainName, overriddenIn]; done) | decide +kernel
theorem d2_0 : decode prog_5_method_4_code 0 = .ok (.aload_n 0, 1) := by decide +kernel
theorem d2_1 : decode prog_5_method_4_code 1 = .ok (.invokevirtual 35, 3) := by decide +kernel
theorem d2_4 : decode prog_5_method_4_code 4 = .ok (.tableswitch 32 0 3 #[46, 42, 46, 46], 32) := by decide +kernel
theorem d2_46 : decode prog_5_method_4_code 46 = .ok (.iconst 1, 1) := by decide +kernel
theorem d2_47 : decode prog_5_method_4_code 47 = .ok (.goto 4, 3) := by decide +kernel
theorem d2_50 : decode prog_5_method_4_code 50 = .ok (.iconst 0, 1) := by decide +kernel
theorem d2_51 : decode prog_5_method_4_code 51 = .ok (.ireturn, 1) := by decide +kernel
set_option maxRecDepth 65536 in
set_option maxHeartbeats 40000000 in
theorem rm2 (l : Launch) (Z : State) (a0 : Array Value) (hw : ∀ d ∈ tables_1, d.before a0 Z = true) (ws : List Jvm.Cond) (a : Addr) (k : Int32) (h0 : Heap) (n0 : Nat) (F : Fld Z h0 a "java/lang/Enum" "ordinal" "I" (.int k)) (E : Exa Z h0 a "com/example/tidemark/tidemark/engine/DemandKind") (hk : k = 0 ∨ k = 1 ∨ k = 2 ∨ k = 3) :
    MetFree l (⟨"com/example/tidemark/tidemark/engine/DemandKind", "isAlwaysReserved", "()Z"⟩ : MethodName) (head1 (Jvm.Cond.code (⟨"com/example/tidemark/tidemark/engine/DemandKind", "isAlwaysReserved", "()Z"⟩ : MethodName) prog_5_method_4_code 1 (some .boolean) :: ws) ({ frames := 1, cells := 0, slots := 0, locals := 12 } : Room)) (fun aa U => aa = #[(.ref a)] ∧ Z.Warmed39 U.vm ∧ U.heap = h0) (fun _ _ _ _ _ => True) (fun _ U o U' => ∃ v L, o = .returned v ∧ PureQ (some (.int (if k = 1 then 1 else 0))) h0 n0 v U'.heap L ∧ FrameEnd U o U' L ({ frames := 1, cells := 0, slots := 0, locals := 12 } : Room).cells ({ frames := 1, cells := 0, slots := 0, locals := 12 } : Room).slots) := by
  refine MetFree.of_bodySF (plainFor_of_name pn_rm2) hisR ?_
  intro p e s m args below meth c s₁ Bd hml0 hP hK
  obtain ⟨rfl, hZ, hh⟩ := hP
  have hx := Bd.exec
  have hby := Bd.bytes
  have hml : c.maxLocals = 1 := hml0
  have hown : s.vm.findClass "com/example/tidemark/tidemark/engine/DemandKind" = some m.cls := findClass_of_methodNamed Bd.named
  have hnm := (name_of_methodNamed Bd.named Bd.method).1
  have X0 : Stand p l e ({ frames := 1, cells := 0, slots := 0, locals := 12 } : Room) s m #[(.ref a)] below meth c s₁ [] 0 0 := Stand.of_body Bd
  have e0 : s₁.heap = h0 := by rw [← hh, Bd.state]; rfl
  have N0 := Fr.nil n0
  refine goIn (ef_rm2 m a) ?_
  refine Go.by (S' := s₁.setTop (mkF m 1 #[.val (.ref a)] [(.ref a)])) (fun _ kt => XS.aloadN X0.here hx rfl (hb hby d2_0) rfl rfl  kt) ?_
  obtain ⟨cq1, kq1, q1a, q1b, q1c⟩ := isOf hZ e0 (E)
  obtain ⟨_, _, ⟨T1, L1, k1, n1⟩, -, X1, ⟨Lc1, hQ1, l1, y1, z1⟩, st1⟩ := X0.virtualBackUp hx (x := (⟨"com/example/tidemark/tidemark/engine/DemandKind", "ordinal", "()I"⟩ : MethodName)) (y := (⟨"java/lang/Enum", "ordinal", "()I"⟩ : MethodName)) (owner := "java/lang/Enum") hown (mvT hZ (hw _ (List.mem_of_getElem? (i := 12) rfl))) (mvT hZ (hw _ (List.mem_of_getElem? (i := 13) rfl))) (mvT hZ (hw _ (List.mem_of_getElem? (i := 14) rfl))) (by decide) (mvT hZ (hw _ (List.mem_of_getElem? (i := 16) rfl))) (mvT hZ (hw _ (List.mem_of_getElem? (i := 15) rfl))) (backOf (W := 0) (rm3 l Z a0 hw [] a k h0 n0 F) hZ (hw _ (List.mem_of_getElem? (i := 18) rfl)) (hw _ (List.mem_of_getElem? (i := 17) rfl)) (by decide) (by decide)) q1a q1c (g := (mkF m 1 #[.val (.ref a)] [(.ref a)])) rfl (by rw [hml]; rfl) (Steps.refl _) (argsL := []) (rest := []) (lenOf pd_2 rfl) rfl (by show 2 * 0 + _ ≤ _; exact Nat.le_of_eq rfl) (hb hby d2_1) (fun _ _ => ⟨rfl, e0, (by decide : 0 + 0 ≤ _), (by decide : 0 + 0 ≤ _)⟩)
  dsimp only [Pt.U, Pt.locs, Pt.cells, Pt.slots] at X1 l1 y1 z1 st1 hQ1
  subst l1 y1 z1
  obtain ⟨rfl, N1q, e1⟩ := hQ1
  have N1 := Fr.app N0 N1q
  refine Go.at (S' := T1.setTop (mkF m 4 #[.val (.ref a)] [(.int k)])) st1 ?_
  rcases hk with rfl | rfl | rfl | rfl
  · refine Go.by (S' := T1.setTop (mkF m 50 #[.val (.ref a)] [])) (fun _ kt => XS.tswIn X1.here hx rfl (pc0 := 4) (pc' := 50) (o := 46) rfl (hb hby d2_4) rfl (by decide) (by decide) (by decide) (by decide) kt) ?_
    refine Go.by (S' := T1.setTop (mkF m 51 #[.val (.ref a)] [(.int (0 : Int32))])) (fun _ kt => XT.iconstV X1.here hx rfl (0 : Int32) (hb hby d2_50) (by decide)  kt) ?_
    refine goRet X1 (v := some (.int (nar .boolean (0 : Int32)))) (fun h => by rw [Bd.returns] at h; cases h) Bd.notSynchronized (fun fs hr => retN X1 hx (t := .boolean) Bd.returns (by simp) (hb hby d2_51) hr) (by decide) (by decide) ?_
    exact ⟨by decide, N1, e1⟩
  · refine Go.by (S' := T1.setTop (mkF m 46 #[.val (.ref a)] [])) (fun _ kt => XS.tswIn X1.here hx rfl (pc0 := 4) (pc' := 46) (o := 42) rfl (hb hby d2_4) rfl (by decide) (by decide) (by decide) (by decide) kt) ?_
    refine Go.by (S' := T1.setTop (mkF m 47 #[.val (.ref a)] [(.int (1 : Int32))])) (fun _ kt => XT.iconstV X1.here hx rfl (1 : Int32) (hb hby d2_46) (by decide)  kt) ?_
    refine Go.by (S' := T1.setTop (mkF m 51 #[.val (.ref a)] [(.int (1 : Int32))])) (fun _ kt => XS.goto X1.here hx rfl (pc0 := 47) (pc' := 51) rfl (hb hby d2_47) (by decide) (by decide)  kt) ?_
    refine goRet X1 (v := some (.int (nar .boolean (1 : Int32)))) (fun h => by rw [Bd.returns] at h; cases h) Bd.notSynchronized (fun fs hr => retN X1 hx (t := .boolean) Bd.returns (by simp) (hb hby d2_51) hr) (by decide) (by decide) ?_
    exact ⟨by decide, N1, e1⟩
  · refine Go.by (S' := T1.setTop (mkF m 50 #[.val (.ref a)] [])) (fun _ kt => XS.tswIn X1.here hx rfl (pc0 := 4) (pc' := 50) (o := 46) rfl (hb hby d2_4) rfl (by decide) (by decide) (by decide) (by decide) kt) ?_
    refine Go.by (S' := T1.setTop (mkF m 51 #[.val (.ref a)] [(.int (0 : Int32))])) (fun _ kt => XT.iconstV X1.here hx rfl (0 : Int32) (hb hby d2_50) (by decide)  kt) ?_
    refine goRet X1 (v := some (.int (nar .boolean (0 : Int32)))) (fun h => by rw [Bd.returns] at h; cases h) Bd.notSynchronized (fun fs hr => retN X1 hx (t := .boolean) Bd.returns (by simp) (hb hby d2_51) hr) (by decide) (by decide) ?_
    exact ⟨by decide, N1, e1⟩
  · refine Go.by (S' := T1.setTop (mkF m 50 #[.val (.ref a)] [])) (fun _ kt => XS.tswIn X1.here hx rfl (pc0 := 4) (pc' := 50) (o := 46) rfl (hb hby d2_4) rfl (by decide) (by decide) (by decide) (by decide) kt) ?_
    refine Go.by (S' := T1.setTop (mkF m 51 #[.val (.ref a)] [(.int (0 : Int32))])) (fun _ kt => XT.iconstV X1.here hx rfl (0 : Int32) (hb hby d2_50) (by decide)  kt) ?_
    refine goRet X1 (v := some (.int (nar .boolean (0 : Int32)))) (fun h => by rw [Bd.returns] at h; cases h) Bd.notSynchronized (fun fs hr => retN X1 hx (t := .boolean) Bd.returns (by simp) (hb hby d2_51) hr) (by decide) (by decide) ?_
    exact ⟨by decide, N1, e1⟩
theorem ef_rm1 (m : MethodId) (x0 : Int32) : entryFrame m #[(.int x0)] 1 = mkF m 0 #[.val (.int x0)] [] := by first | (simp [entryFrame, mkF, argsToLocals, Value.category]; done) | rfl
theorem pn_rm1 : plainName "com/example/tidemark/tidemark/engine/DemandKindIsAlwaysReservedPinLaw" = true := by first | (simp [plainName, overriddenIn]; done) | decide +kernel
theorem d1_0 : decode method_2_code 0 = .ok (.iload_n 0, 1) := by decide +kernel
theorem d1_1 : decode method_2_code 1 = .ok (.ifCond .ne 7, 3) := by decide +kernel
theorem d1_4 : decode method_2_code 4 = .ok (.getstatic 7, 3) := by decide +kernel
theorem d1_7 : decode method_2_code 7 = .ok (.areturn, 1) := by decide +kernel
theorem d1_8 : decode method_2_code 8 = .ok (.iload_n 0, 1) := by decide +kernel
theorem d1_9 : decode method_2_code 9 = .ok (.iconst 1, 1) := by decide +kernel
theorem d1_10 : decode method_2_code 10 = .ok (.if_icmp .ne 7, 3) := by decide +kernel
theorem d1_13 : decode method_2_code 13 = .ok (.getstatic 13, 3) := by decide +kernel
theorem d1_16 : decode method_2_code 16 = .ok (.areturn, 1) := by decide +kernel
theorem d1_17 : decode method_2_code 17 = .ok (.iload_n 0, 1) := by decide +kernel
theorem d1_18 : decode method_2_code 18 = .ok (.iconst 2, 1) := by decide +kernel
theorem d1_19 : decode method_2_code 19 = .ok (.if_icmp .ne 7, 3) := by decide +kernel
theorem d1_22 : decode method_2_code 22 = .ok (.getstatic 16, 3) := by decide +kernel
theorem d1_25 : decode method_2_code 25 = .ok (.areturn, 1) := by decide +kernel
theorem d1_26 : decode method_2_code 26 = .ok (.getstatic 19, 3) := by decide +kernel
theorem d1_29 : decode method_2_code 29 = .ok (.areturn, 1) := by decide +kernel
set_option maxRecDepth 65536 in
set_option maxHeartbeats 40000000 in
theorem rm1 (l : Launch) (Z : State) (a0 : Array Value) (hw : ∀ d ∈ tables_1, d.before a0 Z = true) (ws : List Jvm.Cond) (i : Int32) (c0 c1 c2 c3 : Addr) (h0 : Heap) (n0 : Nat) (S0 : Sta Z h0 "com/example/tidemark/tidemark/engine/DemandKind" "SALES_ORDER" "Lcom/example/tidemark/tidemark/engine/DemandKind;" (.ref c0)) (S1 : Sta Z h0 "com/example/tidemark/tidemark/engine/DemandKind" "RESERVATION" "Lcom/example/tidemark/tidemark/engine/DemandKind;" (.ref c1)) (S2 : Sta Z h0 "com/example/tidemark/tidemark/engine/DemandKind" "MOVE_ORDER" "Lcom/example/tidemark/tidemark/engine/DemandKind;" (.ref c2)) (S3 : Sta Z h0 "com/example/tidemark/tidemark/engine/DemandKind" "JOB_COMPONENT" "Lcom/example/tidemark/tidemark/engine/DemandKind;" (.ref c3)) :
    MetFree l (⟨"com/example/tidemark/tidemark/engine/DemandKindIsAlwaysReservedPinLaw", "kindOf", "(I)Lcom/example/tidemark/tidemark/engine/DemandKind;"⟩ : MethodName) (head1 (Jvm.Cond.code (⟨"com/example/tidemark/tidemark/engine/DemandKindIsAlwaysReservedPinLaw", "kindOf", "(I)Lcom/example/tidemark/tidemark/engine/DemandKind;"⟩ : MethodName) method_2_code 1 (some (.object "com/example/tidemark/tidemark/engine/DemandKind")) :: ws) ({ frames := 0, cells := 0, slots := 0, locals := 0 } : Room)) (fun aa U => aa = #[(.int i)] ∧ Z.Warmed39 U.vm ∧ U.heap = h0) (fun _ _ _ _ _ => True) (fun _ U o U' => ∃ v L, o = .returned v ∧ PureQ (some (.ref (pickA i c0 c1 c2 c3))) h0 n0 v U'.heap L ∧ FrameEnd U o U' L ({ frames := 0, cells := 0, slots := 0, locals := 0 } : Room).cells ({ frames := 0, cells := 0, slots := 0, locals := 0 } : Room).slots) := by
  refine MetFree.of_bodySF (plainFor_of_name pn_rm1) hisR ?_
  intro p e s m args below meth c s₁ Bd hml0 hP hK
  obtain ⟨rfl, hZ, hh⟩ := hP
  have hx := Bd.exec
  have hby := Bd.bytes
  have hml : c.maxLocals = 1 := hml0
  have hown : s.vm.findClass "com/example/tidemark/tidemark/engine/DemandKindIsAlwaysReservedPinLaw" = some m.cls := findClass_of_methodNamed Bd.named
  have hnm := (name_of_methodNamed Bd.named Bd.method).1
  have X0 : Stand p l e ({ frames := 0, cells := 0, slots := 0, locals := 0 } : Room) s m #[(.int i)] below meth c s₁ [] 0 0 := Stand.of_body Bd
  have e0 : s₁.heap = h0 := by rw [← hh, Bd.state]; rfl
  have N0 := Fr.nil n0
  refine goIn (ef_rm1 m i) ?_
  refine Go.by (S' := s₁.setTop (mkF m 1 #[.val (.int i)] [(.int i)])) (fun _ kt => XS.iloadN X0.here hx rfl (hb hby d1_0) rfl  kt) ?_
  by_cases hc1_1 : i = (0 : Int32)
  · refine Go.by (S' := s₁.setTop (mkF m 4 #[.val (.int i)] [])) (fun _ kt => XS.ifNo X0.here hx rfl (hb hby d1_1) rfl (XT.i0_ne_f hc1_1)  kt) ?_
    obtain ⟨T2, X2, e2, st2⟩ := getS2 X0 hx hZ hown (host := "") (Or.inl (hw _ (List.mem_of_getElem? (i := 4) rfl))) Via.refl e0 S0 (g := (mkF m 4 #[.val (.int i)] [])) rfl (hb hby d1_4)
    refine Go.by (S' := T2.setTop (mkF m 7 #[.val (.int i)] [(.ref c0)])) st2 ?_
    refine goRet X2 (v := some (.ref c0)) (fun h => by rw [Bd.returns] at h; cases h) Bd.notSynchronized (fun fs hr => retOut X2 hx Bd.returns rfl (Or.inr (Or.inr (Or.inr (Or.inr ⟨rfl, rfl, rfl⟩)))) (hb hby d1_7) hr) (by decide) (by decide) ?_
    exact ⟨by simp [pickA, hc1_1], N0, e2⟩
  · refine Go.by (S' := s₁.setTop (mkF m 8 #[.val (.int i)] [])) (fun _ kt => XS.ifYes X0.here hx rfl (pc0 := 1) (pc' := 8) rfl (hb hby d1_1) rfl (XT.i0_ne_t hc1_1) (by decide) (by decide)  kt) ?_
    refine Go.by (S' := s₁.setTop (mkF m 9 #[.val (.int i)] [(.int i)])) (fun _ kt => XS.iloadN X0.here hx rfl (hb hby d1_8) rfl  kt) ?_
    refine Go.by (S' := s₁.setTop (mkF m 10 #[.val (.int i)] [(.int (1 : Int32)), (.int i)])) (fun _ kt => XT.iconstV X0.here hx rfl (1 : Int32) (hb hby d1_9) (by decide)  kt) ?_
    by_cases hc10_3 : i = (1 : Int32)
    · refine Go.by (S' := s₁.setTop (mkF m 13 #[.val (.int i)] [])) (fun _ kt => XS.icmpNo X0.here hx rfl (hb hby d1_10) rfl (XT.ii_ne_f hc10_3)  kt) ?_
      obtain ⟨T4, X4, e4, st4⟩ := getS2 X0 hx hZ hown (host := "") (Or.inl (hw _ (List.mem_of_getElem? (i := 25) rfl))) Via.refl e0 S1 (g := (mkF m 13 #[.val (.int i)] [])) rfl (hb hby d1_13)
      refine Go.by (S' := T4.setTop (mkF m 16 #[.val (.int i)] [(.ref c1)])) st4 ?_
      refine goRet X4 (v := some (.ref c1)) (fun h => by rw [Bd.returns] at h; cases h) Bd.notSynchronized (fun fs hr => retOut X4 hx Bd.returns rfl (Or.inr (Or.inr (Or.inr (Or.inr ⟨rfl, rfl, rfl⟩)))) (hb hby d1_16) hr) (by decide) (by decide) ?_
      exact ⟨by simp [pickA, hc1_1, hc10_3], N0, e4⟩
    · refine Go.by (S' := s₁.setTop (mkF m 17 #[.val (.int i)] [])) (fun _ kt => XS.icmpYes X0.here hx rfl (pc0 := 10) (pc' := 17) rfl (hb hby d1_10) rfl (XT.ii_ne_t hc10_3) (by decide) (by decide)  kt) ?_
      refine Go.by (S' := s₁.setTop (mkF m 18 #[.val (.int i)] [(.int i)])) (fun _ kt => XS.iloadN X0.here hx rfl (hb hby d1_17) rfl  kt) ?_
      refine Go.by (S' := s₁.setTop (mkF m 19 #[.val (.int i)] [(.int (2 : Int32)), (.int i)])) (fun _ kt => XT.iconstV X0.here hx rfl (2 : Int32) (hb hby d1_18) (by decide)  kt) ?_
      by_cases hc19_5 : i = (2 : Int32)
      · refine Go.by (S' := s₁.setTop (mkF m 22 #[.val (.int i)] [])) (fun _ kt => XS.icmpNo X0.here hx rfl (hb hby d1_19) rfl (XT.ii_ne_f hc19_5)  kt) ?_
        obtain ⟨T6, X6, e6, st6⟩ := getS2 X0 hx hZ hown (host := "") (Or.inl (hw _ (List.mem_of_getElem? (i := 23) rfl))) Via.refl e0 S2 (g := (mkF m 22 #[.val (.int i)] [])) rfl (hb hby d1_22)
        refine Go.by (S' := T6.setTop (mkF m 25 #[.val (.int i)] [(.ref c2)])) st6 ?_
        refine goRet X6 (v := some (.ref c2)) (fun h => by rw [Bd.returns] at h; cases h) Bd.notSynchronized (fun fs hr => retOut X6 hx Bd.returns rfl (Or.inr (Or.inr (Or.inr (Or.inr ⟨rfl, rfl, rfl⟩)))) (hb hby d1_25) hr) (by decide) (by decide) ?_
        exact ⟨by simp [pickA, hc1_1, hc10_3, hc19_5], N0, e6⟩
      · refine Go.by (S' := s₁.setTop (mkF m 26 #[.val (.int i)] [])) (fun _ kt => XS.icmpYes X0.here hx rfl (pc0 := 19) (pc' := 26) rfl (hb hby d1_19) rfl (XT.ii_ne_t hc19_5) (by decide) (by decide)  kt) ?_
        obtain ⟨T7, X7, e7, st7⟩ := getS2 X0 hx hZ hown (host := "") (Or.inl (hw _ (List.mem_of_getElem? (i := 21) rfl))) Via.refl e0 S3 (g := (mkF m 26 #[.val (.int i)] [])) rfl (hb hby d1_26)
        refine Go.by (S' := T7.setTop (mkF m 29 #[.val (.int i)] [(.ref c3)])) st7 ?_
        refine goRet X7 (v := some (.ref c3)) (fun h => by rw [Bd.returns] at h; cases h) Bd.notSynchronized (fun fs hr => retOut X7 hx Bd.returns rfl (Or.inr (Or.inr (Or.inr (Or.inr ⟨rfl, rfl, rfl⟩)))) (hb hby d1_29) hr) (by decide) (by decide) ?_
        exact ⟨by simp [pickA, hc1_1, hc10_3, hc19_5], N0, e7⟩
theorem own_pick {Z : State} {h0 : Heap} {c0 c1 c2 c3 : Addr} (i : Int32) (F0 : Fld Z h0 c0 "java/lang/Enum" "ordinal" "I" (.int 0)) (F1 : Fld Z h0 c1 "java/lang/Enum" "ordinal" "I" (.int 1)) (F2 : Fld Z h0 c2 "java/lang/Enum" "ordinal" "I" (.int 2)) (F3 : Fld Z h0 c3 "java/lang/Enum" "ordinal" "I" (.int 3)) (E0 : Exa Z h0 c0 "com/example/tidemark/tidemark/engine/DemandKind") (E1 : Exa Z h0 c1 "com/example/tidemark/tidemark/engine/DemandKind") (E2 : Exa Z h0 c2 "com/example/tidemark/tidemark/engine/DemandKind") (E3 : Exa Z h0 c3 "com/example/tidemark/tidemark/engine/DemandKind") : ∃ k, Fld Z h0 (pickA i c0 c1 c2 c3) "java/lang/Enum" "ordinal" "I" (.int k) ∧ Exa Z h0 (pickA i c0 c1 c2 c3) "com/example/tidemark/tidemark/engine/DemandKind" ∧ (k = 0 ∨ k = 1 ∨ k = 2 ∨ k = 3) ∧ (k = 1 ↔ i = 1) := by
  unfold pickA
  by_cases h0 : i = 0
  · subst h0; exact ⟨0, F0, E0, by decide, by decide⟩
  · by_cases h1 : i = 1
    · subst h1; exact ⟨1, F1, E1, by decide, by decide⟩
    · by_cases h2 : i = 2
      · subst h2; exact ⟨2, F2, E2, by decide, by decide⟩
      · simp only [h0, h1, h2, if_false]; exact ⟨3, F3, E3, by decide, by decide⟩
def LawQ (n0 : Nat) (v : Option Value) (h : Heap) (L : List Loc) : Prop := v = some (.int 1) ∧ Fr n0 L
theorem ef_rm0 (m : MethodId) (x0 : Int32) : entryFrame m #[(.int x0)] maxLocals = mkF m 0 #[.val (.int x0), .unset, .unset, .unset] [] := by first | (simp [entryFrame, mkF, argsToLocals, Value.category, maxLocals]; done) | rfl
theorem pn_rm0 : plainName "com/example/tidemark/tidemark/engine/DemandKindIsAlwaysReservedPinLaw" = true := by first | (simp [plainName, overriddenIn]; done) | decide +kernel
set_option maxRecDepth 65536 in
set_option maxHeartbeats 40000000 in
theorem rm0 (l : Launch) (Z : State) (a0 : Array Value) (hw : ∀ d ∈ tables_1, d.before a0 Z = true) (ws : List Jvm.Cond) (x0 : Int32) (c0 c1 c2 c3 : Addr) (h0 : Heap) (n0 : Nat) (S0 : Sta Z h0 "com/example/tidemark/tidemark/engine/DemandKind" "SALES_ORDER" "Lcom/example/tidemark/tidemark/engine/DemandKind;" (.ref c0)) (S1 : Sta Z h0 "com/example/tidemark/tidemark/engine/DemandKind" "RESERVATION" "Lcom/example/tidemark/tidemark/engine/DemandKind;" (.ref c1)) (S2 : Sta Z h0 "com/example/tidemark/tidemark/engine/DemandKind" "MOVE_ORDER" "Lcom/example/tidemark/tidemark/engine/DemandKind;" (.ref c2)) (S3 : Sta Z h0 "com/example/tidemark/tidemark/engine/DemandKind" "JOB_COMPONENT" "Lcom/example/tidemark/tidemark/engine/DemandKind;" (.ref c3)) (F0 : Fld Z h0 c0 "java/lang/Enum" "ordinal" "I" (.int 0)) (F1 : Fld Z h0 c1 "java/lang/Enum" "ordinal" "I" (.int 1)) (F2 : Fld Z h0 c2 "java/lang/Enum" "ordinal" "I" (.int 2)) (F3 : Fld Z h0 c3 "java/lang/Enum" "ordinal" "I" (.int 3)) (E0 : Exa Z h0 c0 "com/example/tidemark/tidemark/engine/DemandKind") (E1 : Exa Z h0 c1 "com/example/tidemark/tidemark/engine/DemandKind") (E2 : Exa Z h0 c2 "com/example/tidemark/tidemark/engine/DemandKind") (E3 : Exa Z h0 c3 "com/example/tidemark/tidemark/engine/DemandKind") :
    MetFree l x (head1 (Jvm.Cond.code x code maxLocals ret :: ws) room_1) (fun aa U => aa = #[(.int x0)] ∧ Z.Warmed39 U.vm ∧ U.heap = h0) (fun _ _ _ _ _ => True) (fun _ U o U' => ∃ v L, o = .returned v ∧ LawQ n0 v U'.heap L ∧ FrameEnd U o U' L room_1.cells room_1.slots) := by
  refine MetFree.of_bodySF (plainFor_of_name pn_rm0) hisR ?_
  intro p e s m args below meth c s₁ Bd hml0 hP hK
  obtain ⟨rfl, hZ, hh⟩ := hP
  have hx := Bd.exec
  have hby := Bd.bytes
  have hml : c.maxLocals = 4 := hml0
  have hown : s.vm.findClass "com/example/tidemark/tidemark/engine/DemandKindIsAlwaysReservedPinLaw" = some m.cls := findClass_of_methodNamed Bd.named
  have hnm := (name_of_methodNamed Bd.named Bd.method).1
  have X0 : Stand p l e room_1 s m #[(.int x0)] below meth c s₁ [] 0 0 := Stand.of_body Bd
  have e0 : s₁.heap = h0 := by rw [← hh, Bd.state]; rfl
  have N0 := Fr.nil n0
  refine goIn (ef_rm0 m x0) ?_
  refine Go.by (S' := s₁.setTop (mkF m 1 #[.val (.int x0), .unset, .unset, .unset] [(.int x0)])) (fun _ kt => XS.iloadN X0.here hx rfl (hb hby at_0) rfl  kt) ?_
  refine Go.by (S' := s₁.setTop (mkF m 2 #[.val (.int x0), .unset, .unset, .unset] [(.int (3 : Int32)), (.int x0)])) (fun _ kt => XT.iconstV X0.here hx rfl (3 : Int32) (hb hby at_1) (by decide)  kt) ?_
  refine Go.by (S' := s₁.setTop (mkF m 3 #[.val (.int x0), .unset, .unset, .unset] [(.int (x0 &&& (3 : Int32)))])) (fun _ kt => XS.iand X0.here hx rfl (hb hby at_2) rfl  kt) ?_
  refine Go.by (S' := s₁.setTop (mkF m 4 #[.val (.int x0), .val (.int (x0 &&& (3 : Int32))), .unset, .unset] [])) (fun _ kt => XS.istoreN X0.here hx rfl (hb hby at_3) rfl (l' := #[.val (.int x0), .val (.int (x0 &&& (3 : Int32))), .unset, .unset]) rfl  kt) ?_
  refine Go.by (S' := s₁.setTop (mkF m 5 #[.val (.int x0), .val (.int (x0 &&& (3 : Int32))), .unset, .unset] [(.int (x0 &&& (3 : Int32)))])) (fun _ kt => XS.iloadN X0.here hx rfl (hb hby at_4) rfl  kt) ?_
  obtain ⟨_, _, ⟨T1, L1, k1, n1⟩, -, X1, ⟨Lc1, hQ1, l1, y1, z1⟩, st1⟩ := Jvm.LawKit.callS X0 hx (y := (⟨"com/example/tidemark/tidemark/engine/DemandKindIsAlwaysReservedPinLaw", "kindOf", "(I)Lcom/example/tidemark/tidemark/engine/DemandKind;"⟩ : MethodName)) hown (mvT hZ (hw _ (List.mem_of_getElem? (i := 0) rfl))) (mvT hZ (hw _ (List.mem_of_getElem? (i := 1) rfl))) (mvT hZ (hw _ (List.mem_of_getElem? (i := 2) rfl))) (mvT hZ (hw _ (List.mem_of_getElem? (i := 3) rfl))) (by decide) (backOf (W := 0) (rm1 l Z a0 hw [] (x0 &&& (3 : Int32)) c0 c1 c2 c3 h0 n0 S0 S1 S2 S3) hZ (hw _ (List.mem_of_getElem? (i := 3) rfl)) (hw _ (List.mem_of_getElem? (i := 2) rfl)) (by decide) (by decide)) (g := (mkF m 5 #[.val (.int x0), .val (.int (x0 &&& (3 : Int32))), .unset, .unset] [(.int (x0 &&& (3 : Int32)))])) rfl (by rw [hml]; rfl) (argsL := [(.int (x0 &&& (3 : Int32)))]) (rest := []) (lenOf pd_0 rfl) rfl (by show 2 * 0 + _ ≤ _; exact Nat.le_of_eq rfl) (hb hby at_5) (fun _ _ => ⟨rfl, e0, (by decide : 0 + 0 ≤ _), (by decide : 0 + 0 ≤ _)⟩)
  dsimp only [Pt.U, Pt.locs, Pt.cells, Pt.slots] at X1 l1 y1 z1 st1 hQ1
  subst l1 y1 z1
  obtain ⟨rfl, N1q, e1⟩ := hQ1
  have N1 := Fr.app N0 N1q
  obtain ⟨d, hd⟩ : ∃ d, d = pickA (x0 &&& (3 : Int32)) c0 c1 c2 c3 := ⟨_, rfl⟩
  rw [← hd] at st1
  obtain ⟨k, F, E, hk, hki⟩ := own_pick (x0 &&& (3 : Int32)) F0 F1 F2 F3 E0 E1 E2 E3
  rw [← hd] at F E
  refine Go.by (S' := T1.setTop (mkF m 8 #[.val (.int x0), .val (.int (x0 &&& (3 : Int32))), .unset, .unset] [(.ref d)])) st1 ?_
  refine Go.by (S' := T1.setTop (mkF m 9 #[.val (.int x0), .val (.int (x0 &&& (3 : Int32))), .val (.ref d), .unset] [])) (fun _ kt => XS.astoreN X1.here hx rfl (hb hby at_8) rfl rfl (l' := #[.val (.int x0), .val (.int (x0 &&& (3 : Int32))), .val (.ref d), .unset]) rfl  kt) ?_
  refine Go.by (S' := T1.setTop (mkF m 10 #[.val (.int x0), .val (.int (x0 &&& (3 : Int32))), .val (.ref d), .unset] [(.int (x0 &&& (3 : Int32)))])) (fun _ kt => XS.iloadN X1.here hx rfl (hb hby at_9) rfl  kt) ?_
  refine Go.by (S' := T1.setTop (mkF m 11 #[.val (.int x0), .val (.int (x0 &&& (3 : Int32))), .val (.ref d), .unset] [(.int (1 : Int32)), (.int (x0 &&& (3 : Int32)))])) (fun _ kt => XT.iconstV X1.here hx rfl (1 : Int32) (hb hby at_10) (by decide)  kt) ?_
  by_cases hc11_2 : (x0 &&& (3 : Int32)) = (1 : Int32)
  · refine Go.by (S' := T1.setTop (mkF m 14 #[.val (.int x0), .val (.int (x0 &&& (3 : Int32))), .val (.ref d), .unset] [])) (fun _ kt => XS.icmpNo X1.here hx rfl (hb hby at_11) rfl (XT.ii_ne_f hc11_2)  kt) ?_
    refine Go.by (S' := T1.setTop (mkF m 15 #[.val (.int x0), .val (.int (x0 &&& (3 : Int32))), .val (.ref d), .unset] [(.int (1 : Int32))])) (fun _ kt => XT.iconstV X1.here hx rfl (1 : Int32) (hb hby at_14) (by decide)  kt) ?_
    refine Go.by (S' := T1.setTop (mkF m 19 #[.val (.int x0), .val (.int (x0 &&& (3 : Int32))), .val (.ref d), .unset] [(.int (1 : Int32))])) (fun _ kt => XS.goto X1.here hx rfl (pc0 := 15) (pc' := 19) rfl (hb hby at_15) (by decide) (by decide)  kt) ?_
    refine Go.by (S' := T1.setTop (mkF m 20 #[.val (.int x0), .val (.int (x0 &&& (3 : Int32))), .val (.ref d), .val (.int (1 : Int32))] [])) (fun _ kt => XS.istoreN X1.here hx rfl (hb hby at_19) rfl (l' := #[.val (.int x0), .val (.int (x0 &&& (3 : Int32))), .val (.ref d), .val (.int (1 : Int32))]) rfl  kt) ?_
    refine Go.by (S' := T1.setTop (mkF m 21 #[.val (.int x0), .val (.int (x0 &&& (3 : Int32))), .val (.ref d), .val (.int (1 : Int32))] [(.ref d)])) (fun _ kt => XS.aloadN X1.here hx rfl (hb hby at_20) rfl rfl  kt) ?_
    obtain ⟨cq3, kq3, q3a, q3b, q3c⟩ := isOf hZ e1 (E)
    obtain ⟨_, _, ⟨T3, L3, k3, n3⟩, -, X3, ⟨Lc3, hQ3, l3, y3, z3⟩, st3⟩ := X1.virtualBack hx (y := (⟨"com/example/tidemark/tidemark/engine/DemandKind", "isAlwaysReserved", "()Z"⟩ : MethodName)) (z := (⟨"com/example/tidemark/tidemark/engine/DemandKind", "isAlwaysReserved", "()Z"⟩ : MethodName)) hown (mvT hZ (hw _ (List.mem_of_getElem? (i := 7) rfl))) (mvT hZ (hw _ (List.mem_of_getElem? (i := 8) rfl))) (notFace_of_selects (args := #[]) (mvT hZ (hw _ (List.mem_of_getElem? (i := 10) rfl)))) (mvT hZ (hw _ (List.mem_of_getElem? (i := 10) rfl))) (mvT hZ (hw _ (List.mem_of_getElem? (i := 9) rfl))) (by decide) (backOf (W := 0) (rm2 l Z a0 hw [] d k h0 n0 F E hk) hZ (hw _ (List.mem_of_getElem? (i := 11) rfl)) (hw _ (List.mem_of_getElem? (i := 5) rfl)) (by decide) (by decide)) q3a q3c (g := (mkF m 21 #[.val (.int x0), .val (.int (x0 &&& (3 : Int32))), .val (.ref d), .val (.int (1 : Int32))] [(.ref d)])) rfl (by rw [hml]; rfl) (Steps.refl _) (argsL := []) (rest := []) (lenOf pd_1 rfl) rfl (by show 2 * 0 + _ ≤ _; exact Nat.le_of_eq rfl) (hb hby at_21) (fun _ _ => ⟨rfl, e1, (by decide : 0 + 0 ≤ _), (by decide : 0 + 0 ≤ _)⟩)
    dsimp only [Pt.U, Pt.locs, Pt.cells, Pt.slots] at X3 l3 y3 z3 st3 hQ3
    subst l3 y3 z3
    obtain ⟨rfl, N3q, e3⟩ := hQ3
    have N3 := Fr.app N1 N3q
    refine Go.at (S' := T3.setTop (mkF m 24 #[.val (.int x0), .val (.int (x0 &&& (3 : Int32))), .val (.ref d), .val (.int (1 : Int32))] [(.int (if k = 1 then 1 else 0))])) st3 ?_
    refine Go.by (S' := T3.setTop (mkF m 25 #[.val (.int x0), .val (.int (x0 &&& (3 : Int32))), .val (.ref d), .val (.int (1 : Int32))] [(.int (1 : Int32)), (.int (if k = 1 then 1 else 0))])) (fun _ kt => XS.iloadN X3.here hx rfl (hb hby at_24) rfl  kt) ?_
    refine Go.by (S' := T3.setTop (mkF m 28 #[.val (.int x0), .val (.int (x0 &&& (3 : Int32))), .val (.ref d), .val (.int (1 : Int32))] [])) (fun _ kt => XS.icmpNo X3.here hx rfl (hb hby at_25) rfl (XT.ii_ne_f (by simp [hki, hc11_2]))  kt) ?_
    refine Go.by (S' := T3.setTop (mkF m 29 #[.val (.int x0), .val (.int (x0 &&& (3 : Int32))), .val (.ref d), .val (.int (1 : Int32))] [(.int (1 : Int32))])) (fun _ kt => XT.iconstV X3.here hx rfl (1 : Int32) (hb hby at_28) (by decide)  kt) ?_
    refine Go.by (S' := T3.setTop (mkF m 33 #[.val (.int x0), .val (.int (x0 &&& (3 : Int32))), .val (.ref d), .val (.int (1 : Int32))] [(.int (1 : Int32))])) (fun _ kt => XS.goto X3.here hx rfl (pc0 := 29) (pc' := 33) rfl (hb hby at_29) (by decide) (by decide)  kt) ?_
    refine goRet X3 (v := some (.int (nar .boolean (1 : Int32)))) (fun h => by rw [Bd.returns] at h; cases h) Bd.notSynchronized (fun fs hr => retN X3 hx (t := .boolean) Bd.returns (by simp) (hb hby at_33) hr) (by decide) (by decide) ?_
    exact ⟨by decide, N3⟩
  · refine Go.by (S' := T1.setTop (mkF m 18 #[.val (.int x0), .val (.int (x0 &&& (3 : Int32))), .val (.ref d), .unset] [])) (fun _ kt => XS.icmpYes X1.here hx rfl (pc0 := 11) (pc' := 18) rfl (hb hby at_11) rfl (XT.ii_ne_t hc11_2) (by decide) (by decide)  kt) ?_
    refine Go.by (S' := T1.setTop (mkF m 19 #[.val (.int x0), .val (.int (x0 &&& (3 : Int32))), .val (.ref d), .unset] [(.int (0 : Int32))])) (fun _ kt => XT.iconstV X1.here hx rfl (0 : Int32) (hb hby at_18) (by decide)  kt) ?_
    refine Go.by (S' := T1.setTop (mkF m 20 #[.val (.int x0), .val (.int (x0 &&& (3 : Int32))), .val (.ref d), .val (.int (0 : Int32))] [])) (fun _ kt => XS.istoreN X1.here hx rfl (hb hby at_19) rfl (l' := #[.val (.int x0), .val (.int (x0 &&& (3 : Int32))), .val (.ref d), .val (.int (0 : Int32))]) rfl  kt) ?_
    refine Go.by (S' := T1.setTop (mkF m 21 #[.val (.int x0), .val (.int (x0 &&& (3 : Int32))), .val (.ref d), .val (.int (0 : Int32))] [(.ref d)])) (fun _ kt => XS.aloadN X1.here hx rfl (hb hby at_20) rfl rfl  kt) ?_
    obtain ⟨cq4, kq4, q4a, q4b, q4c⟩ := isOf hZ e1 (E)
    obtain ⟨_, _, ⟨T4, L4, k4, n4⟩, -, X4, ⟨Lc4, hQ4, l4, y4, z4⟩, st4⟩ := X1.virtualBack hx (y := (⟨"com/example/tidemark/tidemark/engine/DemandKind", "isAlwaysReserved", "()Z"⟩ : MethodName)) (z := (⟨"com/example/tidemark/tidemark/engine/DemandKind", "isAlwaysReserved", "()Z"⟩ : MethodName)) hown (mvT hZ (hw _ (List.mem_of_getElem? (i := 7) rfl))) (mvT hZ (hw _ (List.mem_of_getElem? (i := 8) rfl))) (notFace_of_selects (args := #[]) (mvT hZ (hw _ (List.mem_of_getElem? (i := 10) rfl)))) (mvT hZ (hw _ (List.mem_of_getElem? (i := 10) rfl))) (mvT hZ (hw _ (List.mem_of_getElem? (i := 9) rfl))) (by decide) (backOf (W := 0) (rm2 l Z a0 hw [] d k h0 n0 F E hk) hZ (hw _ (List.mem_of_getElem? (i := 11) rfl)) (hw _ (List.mem_of_getElem? (i := 5) rfl)) (by decide) (by decide)) q4a q4c (g := (mkF m 21 #[.val (.int x0), .val (.int (x0 &&& (3 : Int32))), .val (.ref d), .val (.int (0 : Int32))] [(.ref d)])) rfl (by rw [hml]; rfl) (Steps.refl _) (argsL := []) (rest := []) (lenOf pd_1 rfl) rfl (by show 2 * 0 + _ ≤ _; exact Nat.le_of_eq rfl) (hb hby at_21) (fun _ _ => ⟨rfl, e1, (by decide : 0 + 0 ≤ _), (by decide : 0 + 0 ≤ _)⟩)
    dsimp only [Pt.U, Pt.locs, Pt.cells, Pt.slots] at X4 l4 y4 z4 st4 hQ4
    subst l4 y4 z4
    obtain ⟨rfl, N4q, e4⟩ := hQ4
    have N4 := Fr.app N1 N4q
    refine Go.at (S' := T4.setTop (mkF m 24 #[.val (.int x0), .val (.int (x0 &&& (3 : Int32))), .val (.ref d), .val (.int (0 : Int32))] [(.int (if k = 1 then 1 else 0))])) st4 ?_
    refine Go.by (S' := T4.setTop (mkF m 25 #[.val (.int x0), .val (.int (x0 &&& (3 : Int32))), .val (.ref d), .val (.int (0 : Int32))] [(.int (0 : Int32)), (.int (if k = 1 then 1 else 0))])) (fun _ kt => XS.iloadN X4.here hx rfl (hb hby at_24) rfl  kt) ?_
    refine Go.by (S' := T4.setTop (mkF m 28 #[.val (.int x0), .val (.int (x0 &&& (3 : Int32))), .val (.ref d), .val (.int (0 : Int32))] [])) (fun _ kt => XS.icmpNo X4.here hx rfl (hb hby at_25) rfl (XT.ii_ne_f (by simp [hki, hc11_2]))  kt) ?_
    refine Go.by (S' := T4.setTop (mkF m 29 #[.val (.int x0), .val (.int (x0 &&& (3 : Int32))), .val (.ref d), .val (.int (0 : Int32))] [(.int (1 : Int32))])) (fun _ kt => XT.iconstV X4.here hx rfl (1 : Int32) (hb hby at_28) (by decide)  kt) ?_
    refine Go.by (S' := T4.setTop (mkF m 33 #[.val (.int x0), .val (.int (x0 &&& (3 : Int32))), .val (.ref d), .val (.int (0 : Int32))] [(.int (1 : Int32))])) (fun _ kt => XS.goto X4.here hx rfl (pc0 := 29) (pc' := 33) rfl (hb hby at_29) (by decide) (by decide)  kt) ?_
    refine goRet X4 (v := some (.int (nar .boolean (1 : Int32)))) (fun h => by rw [Bd.returns] at h; cases h) Bd.notSynchronized (fun fs hr => retN X4 hx (t := .boolean) Bd.returns (by simp) (hb hby at_33) hr) (by decide) (by decide) ?_
    exact ⟨by decide, N4⟩
set_option maxRecDepth 65536 in
set_option maxHeartbeats 40000000 in
theorem comes_1 {Post : Tables → Env → Array Value → State → Outcome → State → Prop} (hpost : ∀ tb e args s v u, (limb_1_1.after args s (.returned v) u = true ∧ limb_1_2.after args s (.returned v) u = true ∧ True) → FrameEnd s (.returned v) u (Jvm.fieldLocs frame_1_writes args s ++ Jvm.arrayLocs frame_1_arrays args s ++ Jvm.staticLocs frame_1_statics s) 0 0 → Post tb e args s (.returned v) u) :
    ArmFor flags0 classFile x code maxLocals ret World_1 tables_1 room_1 Calls_1 rest_1 Pre_1 Post := by
  intro l hfl _ _ p e ha hc hk s m args below hf hA hF happ hP
  obtain ⟨hcalls, hrest, hpre⟩ := hP
  obtain ⟨-, -, -, hnamed, -, -, -, hat⟩ := (Spec.applies_iff hf).mp happ
  obtain ⟨hg, hn⟩ := and_e (Cond.before_iff.mp (show (Jvm.Cond.and given_1 narrow_1).before args s = true from hpre))
  obtain ⟨gc, gr0⟩ := and_e hg
  have gi0 := gr0
  obtain ⟨w0, rfl⟩ : ∃ w0 : Value, args = #[w0] := by
    have hs : args.size = 1 := by simpa [Cond.value, given_1] using gc
    obtain ⟨L⟩ := args
    match L, hs with
    | [w0], _ => exact ⟨w0, rfl⟩
  have hw := fun d (hd : d ∈ tables_1) => atoms_spec (ws := Jvm.Cond.code x code maxLocals ret :: tables_1) hat d (List.mem_cons_of_mem _ hd)
  have hfit : Fit s := fun {y c} hc i hi => by
    obtain ⟨ha, rfl⟩ := Array.getElem?_eq_some_iff.mp hc
    have q := List.all_eq_true.mp ((Array.all_eq_true_iff_forall_mem.mp hF) _ (Array.getElem_mem ha)) i (List.mem_range.mpr hi)
    simpa [Array.getElem?_eq_getElem hi] using q
  obtain ⟨i0, ei0⟩ := is_v gi0
  obtain rfl : w0 = (.int i0) := Option.some.inj ei0
  obtain ⟨nx0, nr0⟩ := and_e hn
  obtain ⟨ne0, nt0⟩ := and_e nr0
  obtain ⟨nx3, nr3⟩ := and_e nt0
  obtain ⟨ne3, nt3⟩ := and_e nr3
  obtain ⟨nx2, nr2⟩ := and_e nt3
  obtain ⟨ne2, nt2⟩ := and_e nr2
  obtain ⟨nx1, nr1⟩ := and_e nt2
  have ne1 := nr1
  obtain ⟨c0, S0, E0, F0⟩ := own_enum nx0 ne0 (hw _ (List.mem_of_getElem? (i := 5) rfl)) (hw _ (List.mem_of_getElem? (i := 6) rfl))
  obtain ⟨c1, S1, E1, F1⟩ := own_enum nx1 ne1 (hw _ (List.mem_of_getElem? (i := 5) rfl)) (hw _ (List.mem_of_getElem? (i := 26) rfl))
  obtain ⟨c2, S2, E2, F2⟩ := own_enum nx2 ne2 (hw _ (List.mem_of_getElem? (i := 5) rfl)) (hw _ (List.mem_of_getElem? (i := 24) rfl))
  obtain ⟨c3, S3, E3, F3⟩ := own_enum nx3 ne3 (hw _ (List.mem_of_getElem? (i := 5) rfl)) (hw _ (List.mem_of_getElem? (i := 22) rfl))
  obtain ⟨n, o, h1, h2, h3, _, L, rfl, ⟨rfl, N⟩, hq⟩ := rm0 l s _ hw tables_1 i0 c0 c1 c2 c3 s.heap s.heap.size S0 S1 S2 S3 F0 F1 F2 F3 E0 E1 E2 E3 p e ha hc hk s m _ below hf ((Spec.applies_iff_loose hf).mp happ).1 ⟨rfl, State.Warmed39.refl s, rfl⟩ trivial
  refine ⟨n, _, h1, h2, h3, hpost _ _ _ _ _ _ ⟨Cond.after_iff.mpr rfl, Cond.after_iff.mpr (eq_i res_at (Term.int_eval (1)) rfl), trivial⟩ ⟨hq.1, hq.2.1, (hq.2.2.sift fun y hy => Or.inr (N y hy)).mono (by decide) (by decide)⟩⟩
theorem main_1_1 : Claimed_1_1 := comes_1 fun _ _ _ _ _ _ h hF => ⟨h.1, hF⟩
theorem main_1_2 : Claimed_1_2 := comes_1 fun _ _ _ _ _ _ h hF => ⟨h.2.1, hF⟩
end Jvm.Pilot.@@N@@
namespace Jvm.Pilot.@@N@@
open Jvm Jvm.ClassFile Sem Op Lib Jvm.Free Jvm.Stand Jvm.Pilot.@@N@@.Jvm.D
/-! MADE BY PROGRAM (witnessworld.py) out of the Statement's table words and the real class files: 12 classes; the members and pool entries that the words name. The judged class is class 1, her method 2. -/
namespace start1
open Jvm.ClassFile
def u (s : String) : CpInfo := .utf8 (stringToUtf16 s)
/-- a pool by its gaps: so many unusable entries, then the entry; so many at the end -/
def gap : Nat → List CpInfo → List CpInfo
  | 0, r => r
  | n + 1, r => .unusable :: gap n r
def poolList (es : List (Nat × CpInfo)) (last : Nat) : List CpInfo := es.foldr (fun e r => gap e.1 (e.2 :: r)) (gap last [])
def pool (es : List (Nat × CpInfo)) (last : Nat) : Array CpInfo := ⟨poolList es last⟩
def fileOf (pool : Array CpInfo) (this : Nat) (attrs : Array Attribute := #[]) (ms : Array MethodInfo := #[]) (fl : Nat := 33) (sup : Nat := 0) (ifs : Array Nat := #[]) (fds : Array FieldInfo := #[]) : ClassFile where
  minorVersion := 0
  majorVersion := 65
  constantPool := pool
  accessFlags := fl
  thisClass := this
  superClass := sup
  interfaces := ifs
  fields := fds
  methods := ms
  attributes := attrs
def plain (name : String) (sup : Option ClassId) : Class where
  name := name
  kind := .ordinary
  loader := none
  accessFlags := 33
  super := sup
  interfaces := #[]
  cf := none
  fields := #[]
  methods := #[]
  instanceTypes := #[]
  staticTypes := #[]
  resolved := #[]
  callSites := []
  init := .initialized
  statics := none
  mirror := none

def pool0 : Array CpInfo := pool [(5, u "<init>"), (0, u "()V"), (1, .class_ 10), (1, u "java/lang/Object")] 113

def k0m0 : Method := { name := "<init>", desc := "()V", sig := { parameters := [], returnType := none }, accessFlags := 1, code := none }
/-- java/lang/Object -/
def k0 : Class := { plain "java/lang/Object" none with
  accessFlags := 33
  interfaces := #[]
  cf := some (fileOf pool0 8 #[] #[{ accessFlags := 1, nameIndex := 5, descriptorIndex := 6, attributes := #[] }] 33 0 #[] #[])
  fields := #[]
  methods := #[k0m0]
  instanceTypes := #[]
  staticTypes := #[]
  resolved := Array.replicate 124 none
  statics := none }

def pool1 : Array CpInfo := pool [(2, .class_ 4), (1, u "java/lang/Object"), (0, u "<init>"), (0, u "()V"), (0, .fieldref 8 9), (0, .class_ 10), (0, .nameAndType 11 12), (0, u "com/example/tidemark/tidemark/engine/DemandKind"), (0, u "SALES_ORDER"), (0, u "Lcom/example/tidemark/tidemark/engine/DemandKind;"), (0, .fieldref 8 14), (0, .nameAndType 15 12), (0, u "RESERVATION"), (0, .fieldref 8 17), (0, .nameAndType 18 12), (0, u "MOVE_ORDER"), (0, .fieldref 8 20), (0, .nameAndType 21 12), (0, u "JOB_COMPONENT"), (0, .methodref 23 24), (0, .class_ 25), (0, .nameAndType 26 27), (0, u "com/example/tidemark/tidemark/engine/DemandKindIsAlwaysReservedPinLaw"), (0, u "kindOf"), (0, u "(I)Lcom/example/tidemark/tidemark/engine/DemandKind;"), (0, .methodref 8 29), (0, .nameAndType 30 31), (0, u "isAlwaysReserved"), (0, u "()Z"), (3, u "law"), (0, u "(I)Z")] 2

def k1m0 : Method := { name := "<init>", desc := "()V", sig := { parameters := [], returnType := none }, accessFlags := 2, code := none }
def k1c1 : Code := { maxStack := 2, maxLocals := 1, code := method_2_code, exceptionTable := #[], attributes := #[] }
def k1m1 : Method := { name := "kindOf", desc := "(I)Lcom/example/tidemark/tidemark/engine/DemandKind;", sig := { parameters := [.int], returnType := some (.object "com/example/tidemark/tidemark/engine/DemandKind") }, accessFlags := 10, code := some k1c1 }
def k1c2 : Code := { maxStack := 2, maxLocals := 4, code := code, exceptionTable := #[], attributes := #[] }
def k1m2 : Method := { name := "law", desc := "(I)Z", sig := { parameters := [.int], returnType := some .boolean }, accessFlags := 9, code := some k1c2 }
/-- com/example/tidemark/tidemark/engine/DemandKindIsAlwaysReservedPinLaw -/
def k1 : Class := { plain "com/example/tidemark/tidemark/engine/DemandKindIsAlwaysReservedPinLaw" (some 0) with
  accessFlags := 49
  interfaces := #[]
  cf := some (fileOf pool1 23 #[] #[{ accessFlags := 2, nameIndex := 5, descriptorIndex := 6, attributes := #[] }, { accessFlags := 10, nameIndex := 26, descriptorIndex := 27, attributes := #[] }, { accessFlags := 9, nameIndex := 35, descriptorIndex := 36, attributes := #[] }] 49 2 #[] #[])
  fields := #[]
  methods := #[k1m0, k1m1, k1m2]
  instanceTypes := #[]
  staticTypes := #[]
  resolved := Array.replicate 39 none
  statics := none }

def pool2 : Array CpInfo := pool [(1, .class_ 2), (0, u "java/lang/constant/Constable"), (0, .class_ 4), (0, u "java/lang/Object")] 6

/-- java/lang/constant/Constable -/
def k2 : Class := { plain "java/lang/constant/Constable" (some 0) with
  accessFlags := 1537
  interfaces := #[]
  cf := some (fileOf pool2 1 #[] #[] 1537 3 #[] #[])
  fields := #[]
  methods := #[]
  instanceTypes := #[]
  staticTypes := #[]
  resolved := Array.replicate 11 none
  statics := none }

def pool3 : Array CpInfo := pool [(1, .class_ 2), (0, u "java/lang/Comparable"), (0, .class_ 4), (0, u "java/lang/Object")] 7

/-- java/lang/Comparable -/
def k3 : Class := { plain "java/lang/Comparable" (some 0) with
  accessFlags := 1537
  interfaces := #[]
  cf := some (fileOf pool3 1 #[] #[] 1537 3 #[] #[])
  fields := #[]
  methods := #[]
  instanceTypes := #[]
  staticTypes := #[]
  resolved := Array.replicate 12 none
  statics := none }

def pool4 : Array CpInfo := pool [(1, .class_ 2), (0, u "java/io/Serializable"), (0, .class_ 4), (0, u "java/lang/Object")] 2

/-- java/io/Serializable -/
def k4 : Class := { plain "java/io/Serializable" (some 0) with
  accessFlags := 1537
  interfaces := #[]
  cf := some (fileOf pool4 1 #[] #[] 1537 3 #[] #[])
  fields := #[]
  methods := #[]
  instanceTypes := #[]
  staticTypes := #[]
  resolved := Array.replicate 7 none
  statics := none }

def pool5 : Array CpInfo := pool [(2, .class_ 4), (1, u "java/lang/Enum"), (0, u "name"), (0, u "Ljava/lang/String;"), (0, .fieldref 2 8), (0, .nameAndType 9 10), (0, u "ordinal"), (0, u "I"), (1, .class_ 14), (1, u "java/lang/Object"), (4, u "hash"), (86, .class_ 108), (1, u "java/lang/Enum$EnumDesc"), (2, .class_ 112), (0, u "java/lang/constant/Constable"), (0, .class_ 114), (0, u "java/lang/Comparable"), (0, .class_ 116), (0, u "java/io/Serializable"), (9, u "()I")] 77

def k5c0 : Code := { maxStack := 1, maxLocals := 1, code := jdk_37_method_2_code, exceptionTable := #[], attributes := #[] }
def k5m0 : Method := { name := "ordinal", desc := "()I", sig := { parameters := [], returnType := some .int }, accessFlags := 17, code := some k5c0 }
/-- java/lang/Enum -/
def k5 : Class := { plain "java/lang/Enum" (some 0) with
  accessFlags := 1057
  interfaces := #[2, 3, 4]
  cf := some (fileOf pool5 2 #[.nestMembers #[106]] #[{ accessFlags := 17, nameIndex := 9, descriptorIndex := 126, attributes := #[] }] 1057 12 #[111, 113, 115] #[{ accessFlags := 18, nameIndex := 5, descriptorIndex := 6, attributes := #[] }, { accessFlags := 18, nameIndex := 9, descriptorIndex := 10, attributes := #[] }, { accessFlags := 2, nameIndex := 19, descriptorIndex := 10, attributes := #[] }])
  fields := #[{ name := "name", type := (.object "java/lang/String"), accessFlags := 18, slot := 0, constantValue := 0 }, { name := "ordinal", type := .int, accessFlags := 18, slot := 1, constantValue := 0 }, { name := "hash", type := .int, accessFlags := 2, slot := 2, constantValue := 0 }]
  methods := #[k5m0]
  instanceTypes := #[(.object "java/lang/String"), .int, .int]
  staticTypes := #[]
  resolved := Array.replicate 204 none
  statics := none }

def pool6 : Array CpInfo := pool [(1, .class_ 2), (0, u "com/example/tidemark/tidemark/engine/DemandKind"), (2, u "SALES_ORDER"), (0, u "Lcom/example/tidemark/tidemark/engine/DemandKind;"), (2, u "RESERVATION"), (2, u "MOVE_ORDER"), (2, u "JOB_COMPONENT"), (2, u "$VALUES"), (0, u "[Lcom/example/tidemark/tidemark/engine/DemandKind;"), (6, .class_ 28), (1, u "java/lang/Enum"), (6, .methodref 1 36), (0, .nameAndType 37 38), (0, u "ordinal"), (0, u "()I"), (21, u "isAlwaysReserved"), (0, u "()Z")] 5

def k6c0 : Code := { maxStack := 4, maxLocals := 1, code := prog_5_method_4_code, exceptionTable := #[], attributes := #[] }
def k6m0 : Method := { name := "isAlwaysReserved", desc := "()Z", sig := { parameters := [], returnType := some .boolean }, accessFlags := 1, code := some k6c0 }
/-- com/example/tidemark/tidemark/engine/DemandKind -/
def k6 : Class := { plain "com/example/tidemark/tidemark/engine/DemandKind" (some 5) with
  accessFlags := 16433
  interfaces := #[]
  cf := some (fileOf pool6 1 #[] #[{ accessFlags := 1, nameIndex := 60, descriptorIndex := 61, attributes := #[] }] 16433 26 #[] #[{ accessFlags := 16409, nameIndex := 5, descriptorIndex := 6, attributes := #[] }, { accessFlags := 16409, nameIndex := 9, descriptorIndex := 6, attributes := #[] }, { accessFlags := 16409, nameIndex := 12, descriptorIndex := 6, attributes := #[] }, { accessFlags := 16409, nameIndex := 15, descriptorIndex := 6, attributes := #[] }, { accessFlags := 4122, nameIndex := 18, descriptorIndex := 19, attributes := #[] }])
  fields := #[{ name := "SALES_ORDER", type := (.object "com/example/tidemark/tidemark/engine/DemandKind"), accessFlags := 16409, slot := 0, constantValue := 0 }, { name := "RESERVATION", type := (.object "com/example/tidemark/tidemark/engine/DemandKind"), accessFlags := 16409, slot := 1, constantValue := 0 }, { name := "MOVE_ORDER", type := (.object "com/example/tidemark/tidemark/engine/DemandKind"), accessFlags := 16409, slot := 2, constantValue := 0 }, { name := "JOB_COMPONENT", type := (.object "com/example/tidemark/tidemark/engine/DemandKind"), accessFlags := 16409, slot := 3, constantValue := 0 }, { name := "$VALUES", type := (.array (.object "com/example/tidemark/tidemark/engine/DemandKind")), accessFlags := 4122, slot := 4, constantValue := 0 }]
  methods := #[k6m0]
  instanceTypes := #[(.object "java/lang/String"), .int, .int]
  staticTypes := #[(.object "com/example/tidemark/tidemark/engine/DemandKind"), (.object "com/example/tidemark/tidemark/engine/DemandKind"), (.object "com/example/tidemark/tidemark/engine/DemandKind"), (.object "com/example/tidemark/tidemark/engine/DemandKind"), (.array (.object "com/example/tidemark/tidemark/engine/DemandKind"))]
  resolved := Array.replicate 67 none
  statics := some 0 }

def pool7 : Array CpInfo := pool [(1, u "java/lang/Cloneable"), (0, .class_ 1), (0, u "java/lang/Object"), (0, .class_ 3)] 3

/-- java/lang/Cloneable -/
def k7 : Class := { plain "java/lang/Cloneable" (some 0) with
  accessFlags := 1537
  interfaces := #[]
  cf := some (fileOf pool7 2 #[] #[] 1537 4 #[] #[])
  fields := #[]
  methods := #[]
  instanceTypes := #[]
  staticTypes := #[]
  resolved := Array.replicate 8 none
  statics := none }

/-- the primitive byte -/
def k8 : Class := { plain "byte" none with kind := .primitive 'B', accessFlags := 0x411 }
/-- [B -/
def k9 : Class := { plain "[B" (some 0) with kind := .array 8 .byte, interfaces := #[7, 4], accessFlags := 1041 }

/-- the primitive int -/
def k10 : Class := { plain "int" none with kind := .primitive 'I', accessFlags := 0x411 }
/-- [I -/
def k11 : Class := { plain "[I" (some 0) with kind := .array 10 .int, interfaces := #[7, 4], accessFlags := 1041 }

def heap : Heap := #[{ cls := 6, slots := #[.ref 1, .ref 2, .ref 3, .ref 4, .null], vm := .statics 6 },
  { cls := 6, slots := #[.null, .int 0, .int 0], vm := .none },
  { cls := 6, slots := #[.null, .int 1, .int 0], vm := .none },
  { cls := 6, slots := #[.null, .int 2, .int 0], vm := .none },
  { cls := 6, slots := #[.null, .int 3, .int 0], vm := .none }]
def classes : Array Class := #[k0, k1, k2, k3, k4, k5, k6, k7, k8, k9, k10, k11]
def interned : List (Array UInt16 × Addr) := []
def slotsUsed : Nat := 17
def theMethod : MethodId := ⟨1, 2⟩
def args0 : Array Value := #[.int 1]
def aboutOver (below : List Frame) : State where
  vm := { classes := classes, interned := interned.toArray }
  heap := heap
  slotsUsed := slotsUsed
  threads := #[{ frames := .invoking theMethod args0 :: below }]
def below0 : List Frame := [.native { method := ⟨0, 0⟩, args := #[] }]
def about1 : State := aboutOver below0
def p0 : Program := .bare "" "" ""
def e0 : Env := launch0.env 0 0 0
theorem w_frames : about1.frames = Frame.invoking theMethod args0 :: below0 := rfl
set_option maxRecDepth 65536 in
theorem w_args : argsFit about1.vm theMethod args0 = true := by decide +kernel
set_option maxRecDepth 65536 in
theorem w_heap : heapFits about1 = true := by decide +kernel
set_option maxRecDepth 65536 in
theorem w_runnable : about1.curStatus? = some .runnable := by decide +kernel
set_option maxRecDepth 65536 in
theorem w_alone : about1.alone = true := by decide +kernel
set_option maxRecDepth 65536 in
theorem w_named : about1.methodNamed? x = some theMethod := by decide +kernel
set_option maxRecDepth 65536 in
theorem w_hears : about1.hears theMethod below0 = true := by decide +kernel
set_option maxRecDepth 65536 in
theorem w_ripe : about1.ripe theMethod args0 below0 = true := by decide +kernel
theorem w_running : about1.status = .running := rfl
set_option maxRecDepth 65536 in
theorem w_room : about1.hasRoom e0.platform room_1 = true :=
  launch0.hasRoom_least _ room_1 (by decide +kernel) (by decide +kernel) (by decide +kernel) (by decide +kernel) (by decide +kernel) (by decide +kernel)
theorem allAtoms_all (ts : List Jvm.Cond) (a : Array Jvm.Value) (st : Jvm.State) : (allAtoms ts).before a st = ts.all (fun c => c.before a st) := by
  induction ts with
  | nil => rfl
  | cons c t ih =>
    show (Jvm.Cond.and c (allAtoms t)).before a st = _
    rw [Jvm.Cond.before_and, ih, List.all_cons]
def words1 : List Jvm.Cond := Jvm.Cond.code x code maxLocals ret :: tables_1
/-- a 'code' word, met by the world's own term for the bytes: nothing is compared byte by byte -/
theorem code_word {y : MethodName} {bytes : ByteArray} {mx : Nat} {rt : Option FieldType} {a : Array Value} {s : State} {m : MethodId} {meth : Method} {c : Code} (h1 : s.methodNamed? y = some m) (h2 : s.vm.method? m = some meth) (h3 : meth.code = some c) (h4 : c.code = bytes)
    (h5 : (c.maxLocals == mx && c.exceptionTable.isEmpty && decide (c.maxStack ≤ mostOperands) && decide (meth.sig.returnType = rt) && !meth.locks && decide (parseMethodDescriptor y.desc = some meth.sig)) = true) : (Jvm.Cond.code y bytes mx rt).before a s = true := by
  simp only [Bool.and_eq_true, beq_iff_eq, Bool.not_eq_true', decide_eq_true_eq] at h5
  obtain ⟨⟨⟨⟨⟨g1, g2⟩, g3⟩, g4⟩, g5⟩, g6⟩ := h5
  simp [Cond.before, Cond.holds, Cond.value, h1, h2, h3, h4, g1, g2, g3, g4, g5, g6]
def isCode : Jvm.Cond → Bool
  | .code _ _ _ _ => true
  | _ => false
theorem all_split {L : List Jvm.Cond} {P : Jvm.Cond → Bool} (h1 : L.all (fun c => isCode c || P c) = true) (h2 : ∀ c ∈ L.filter isCode, P c = true) : L.all P = true := by
  refine List.all_eq_true.mpr fun c hc => ?_
  have h := List.all_eq_true.mp h1 c hc
  rcases Bool.eq_false_or_eq_true (isCode c) with hi | hi
  · exact h2 c (List.mem_filter.mpr ⟨hc, hi⟩)
  · simpa [hi] using h
set_option maxRecDepth 65536 in
theorem w_c0 : (Jvm.Cond.code x code maxLocals ret).before args0 about1 = true := code_word (m := ⟨1, 2⟩) (meth := k1m2) (c := k1c2) (by decide +kernel) rfl rfl rfl (by decide +kernel)
set_option maxRecDepth 65536 in
theorem w_c1 : (Jvm.Cond.code ({ cls := "com/example/tidemark/tidemark/engine/DemandKindIsAlwaysReservedPinLaw", name := "kindOf", desc := "(I)Lcom/example/tidemark/tidemark/engine/DemandKind;" } : Jvm.MethodName) method_2_code (1 : Nat) (Option.some (Jvm.ClassFile.FieldType.object "com/example/tidemark/tidemark/engine/DemandKind"))).before args0 about1 = true := code_word (m := ⟨1, 1⟩) (meth := k1m1) (c := k1c1) (by decide +kernel) rfl rfl rfl (by decide +kernel)
set_option maxRecDepth 65536 in
theorem w_c2 : (Jvm.Cond.code ({ cls := "com/example/tidemark/tidemark/engine/DemandKind", name := "isAlwaysReserved", desc := "()Z" } : Jvm.MethodName) prog_5_method_4_code (1 : Nat) (Option.some Jvm.ClassFile.FieldType.boolean)).before args0 about1 = true := code_word (m := ⟨6, 0⟩) (meth := k6m0) (c := k6c0) (by decide +kernel) rfl rfl rfl (by decide +kernel)
set_option maxRecDepth 65536 in
theorem w_c3 : (Jvm.Cond.code ({ cls := "java/lang/Enum", name := "ordinal", desc := "()I" } : Jvm.MethodName) jdk_37_method_2_code (1 : Nat) (Option.some Jvm.ClassFile.FieldType.int)).before args0 about1 = true := code_word (m := ⟨5, 0⟩) (meth := k5m0) (c := k5c0) (by decide +kernel) rfl rfl rfl (by decide +kernel)
def codes1 : List Jvm.Cond := [Jvm.Cond.code x code maxLocals ret, Jvm.Cond.code ({ cls := "com/example/tidemark/tidemark/engine/DemandKindIsAlwaysReservedPinLaw", name := "kindOf", desc := "(I)Lcom/example/tidemark/tidemark/engine/DemandKind;" } : Jvm.MethodName) method_2_code (1 : Nat) (Option.some (Jvm.ClassFile.FieldType.object "com/example/tidemark/tidemark/engine/DemandKind")), Jvm.Cond.code ({ cls := "com/example/tidemark/tidemark/engine/DemandKind", name := "isAlwaysReserved", desc := "()Z" } : Jvm.MethodName) prog_5_method_4_code (1 : Nat) (Option.some Jvm.ClassFile.FieldType.boolean), Jvm.Cond.code ({ cls := "java/lang/Enum", name := "ordinal", desc := "()I" } : Jvm.MethodName) jdk_37_method_2_code (1 : Nat) (Option.some Jvm.ClassFile.FieldType.int)]
set_option maxRecDepth 65536 in
theorem codes_eq : words1.filter isCode = codes1 := rfl
theorem w_codes : ∀ c ∈ words1.filter isCode, c.before args0 about1 = true := by
  rw [codes_eq]
  intro c hc
  simp only [codes1, List.mem_cons, List.not_mem_nil, or_false] at hc
  rcases hc with rfl | rfl | rfl | rfl
  · exact w_c0
  · exact w_c1
  · exact w_c2
  · exact w_c3
set_option maxRecDepth 65536 in
theorem w_t1 : (words1.take 24).all (fun c => isCode c || c.before args0 about1) = true := by decide +kernel
set_option maxRecDepth 65536 in
theorem w_t2 : (words1.drop 24).all (fun c => isCode c || c.before args0 about1) = true := by decide +kernel
theorem w_tables : (allAtoms (Jvm.Cond.code x code maxLocals ret :: tables_1)).before args0 about1 = true := by
  rw [allAtoms_all]
  show words1.all (fun c => c.before args0 about1) = true
  refine all_split ?_ w_codes
  rw [← List.take_append_drop 24 words1, List.all_append, w_t1, w_t2]
  rfl
set_option maxRecDepth 65536 in
theorem w_case : (Jvm.Cond.and given_1 narrow_1).before args0 about1 = true := by decide +kernel
theorem w_applies : (headSpec (Jvm.Cond.code x code maxLocals ret :: tables_1) room_1).applies x e0.platform about1 = true :=
  (Spec.applies_iff w_frames).mpr ⟨w_running, w_runnable, w_alone, w_named, w_hears, w_ripe, w_room, w_tables⟩
theorem atStart : AtStart classFile x code maxLocals ret World_1 tables_1 room_1 Calls_1 rest_1 Pre_1 launch0 p0 e0 about1 theMethod args0 below0 :=
  ⟨lists_1, trivial, launch0.admits_env _ _ _, launch0.least_env, fairChoices_fair.cas, fairChoices_fair.clock, w_frames, w_args, w_heap, w_applies, trivial, trivial, w_case⟩
end start1
theorem witness_1 : WitnessClaimed_1 := ⟨start1.p0, start1.e0, start1.about1, start1.theMethod, start1.args0, start1.below0, start1.atStart⟩
end Jvm.Pilot.@@N@@
