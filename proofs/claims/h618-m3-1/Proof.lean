import JvmDerived
import JvmDerived.Pilot.@@N@@Statement
import JvmDerived.Pilot.@@N@@Code
set_option linter.unusedVariables false
set_option linter.unusedSimpArgs false
namespace Jvm.Pilot.@@N@@
open Jvm Jvm.ClassFile Sem Op Lib Jvm.Free Jvm.Stand Jvm.LawKit Jvm.RoadKit Bundle Jvm.Pilot.@@N@@.Jvm.D
section OwnKit
variable {p : Program} {l : Launch} {e : Env} {R : Room} {s : State} {m : MethodId} {args : Array Value} {below : List Frame} {meth : Method} {c : Code} {T S S' : State} {locs : List Loc} {cells slots : Nat} {F : Outcome → State → Prop}
def Go (p : Program) (e : Env) (below : List Frame) (S : State) (F : Outcome → State → Prop) : Prop := ∃ (U : State) (o : Outcome), Steps p.tables e below S U ∧ U.status = .running ∧ Ended U below o ∧ F o U
theorem goIn {g g' : JFrame} (q : g = g') (k : Go p e below (T.setTop g') F) : ∃ (U : State) (o : Outcome), Steps p.tables e below (T.setTop g) U ∧ U.status = .running ∧ Ended U below o ∧ F o U := q ▸ k
theorem Go.by (st : ∀ t, Steps p.tables e below S' t → Steps p.tables e below S t) (k : Go p e below S' F) : Go p e below S F := by
  obtain ⟨U, o, h1, h2⟩ := k
  exact ⟨U, o, st _ h1, h2⟩
theorem Go.at (st : Steps p.tables e below S S') (k : Go p e below S' F) : Go p e below S F := by
  obtain ⟨U, o, h1, h2⟩ := k
  exact ⟨U, o, st.trans h1, h2⟩
theorem goRet {W : Option Value → Heap → List Loc → Prop} {C N : Nat} {v : Option Value} {g : JFrame} (X : Stand p l e R s m args below meth c T locs cells slots) (hv : meth.sig.returnType = none → v = none) (hlk : meth.locks = false)
    (hst : ∀ fs, (∀ (f : JFrame) (acts : List Action), f.method = m → f.locked = none → f.entered = [] → (doReturn e (T.setTop f) acts v).1 = T.setFrames fs) → Steps p.tables e below (T.setTop g) (T.setFrames fs))
    (hc : cells ≤ C) (hs : slots ≤ N) (hq : W v T.heap locs) : Go p e below (T.setTop g) (fun o U => ∃ v L, o = .returned v ∧ W v U.heap L ∧ FrameEnd s o U L C N) := by
  obtain ⟨fs, hr, hrun, hended, hW, hsame⟩ := X.leave (v := v) hv hlk
  exact ⟨_, _, hst fs hr, hrun, hended, _, _, rfl, hq, ⟨_, rfl⟩, hW, hsame.mono hc hs⟩
theorem goRetW {W : Option Value → Heap → List Loc → Prop} {C N n : Nat} {v : Option Value} {g : JFrame} {vm₁ : Vm} (X : Stand p l e R (s.setVm vm₁) m args below meth c T locs cells slots) (hS : s.Since vm₁ n) (hn : n ≤ T.heap.size) (hv : meth.sig.returnType = none → v = none) (hlk : meth.locks = false)
    (hst : ∀ fs, (∀ (f : JFrame) (acts : List Action), f.method = m → f.locked = none → f.entered = [] → (doReturn e (T.setTop f) acts v).1 = T.setFrames fs) → Steps p.tables e below (T.setTop g) (T.setFrames fs))
    (hc : cells ≤ C) (hs : slots ≤ N) (hq : W v T.heap locs) : Go p e below (T.setTop g) (fun o U => ∃ v L, o = .returned v ∧ W v U.heap L ∧ ReturnedEndW s o U L C N) := by
  obtain ⟨fs, hr, hrun, hended, h1, h2, h3, h4⟩ := X.leaveW hS hn (v := v) hv hlk
  exact ⟨_, _, hst fs hr, hrun, hended, _, _, rfl, hq, h1, h2, h3, h4.mono hc hs⟩
/-- it returns w; nothing old is written; the heap is h0 -/
def PureQ (w : Option Value) (h0 : Heap) (n0 : Nat) (v : Option Value) (h : Heap) (L : List Loc) : Prop := v = w ∧ Fr n0 L ∧ h = h0
end OwnKit
theorem pd_0 : parseMethodDescriptor "(II)V" = some ⟨[.int, .int], none⟩ := by decide +kernel
theorem pd_1 : parseMethodDescriptor "()V" = some ⟨[], none⟩ := by decide +kernel
theorem pd_2 : parseMethodDescriptor "(Ljava/lang/Object;)Z" = some ⟨[(.object "java/lang/Object")], some .boolean⟩ := by decide +kernel
theorem pd_3 : parseMethodDescriptor "(I)Ljava/lang/Integer;" = some ⟨[.int], some (.object "java/lang/Integer")⟩ := by decide +kernel
theorem pd_4 : parseMethodDescriptor "(I)V" = some ⟨[.int], none⟩ := by decide +kernel
theorem own_n1 : nar .boolean (1 : Int32) = 1 := by decide
theorem own_n0 : nar .boolean (0 : Int32) = 0 := by decide
theorem own_ext_wr {h0 h h' : Heap} {a : Addr} {sl : Nat} {v : Value} (E : Ext h0 h) (W : Wr h h' a sl v) (q : h0.size ≤ a) : Ext h0 h' := by
  refine ⟨by rw [W.size]; exact E.1, fun b c hb => ?_⟩
  obtain ⟨c', e1, -, -, -, e5, -⟩ := wr_at W (E.2 b c hb)
  have ne : b ≠ a := Nat.ne_of_lt (Nat.lt_of_lt_of_le (Array.getElem?_eq_some_iff.mp hb).1 q)
  rw [← e5 ne]; exact e1
theorem own_ext_trans {h0 h h' : Heap} (E : Ext h0 h) (E' : Ext h h') : Ext h0 h' := ⟨Nat.le_trans E.1 E'.1, fun b c hb => E'.2 b c (E.2 b c hb)⟩
theorem own_ext_refl (h : Heap) : Ext h h := ⟨Nat.le_refl _, fun _ _ q => q⟩
theorem own_ext_keep {h0 h h' : Heap} {ws : List Addr} (E : Ext h0 h) (K : Keep h h' ws) (q : ∀ x ∈ ws, h0.size ≤ x) : Ext h0 h' := by
  refine ⟨Nat.le_trans E.1 K.1, fun b c hb => K.2.1 b c (E.2 b c hb) fun z => ?_⟩
  exact absurd (Array.getElem?_eq_some_iff.mp hb).1 (Nat.not_lt.mpr (q b z))
theorem own_ns_root {Z : State} {a0 : Array Value} {O K : String} {n : Nat} (w : (Jvm.Cond.noSuperclass O).before a0 Z = true) (wk : (Jvm.Cond.instantiable K n).before a0 Z = true) (hn : O ≠ K) : NS Z O K := by
  obtain ⟨c, k, h1, h2, h3, -, -⟩ := Cond.noSuperclass_spec w
  obtain ⟨t, -, g1, -⟩ := Cond.instantiable_spec wk
  have ne := ids_ne h1 g1 hn
  refine ⟨c, t, h1, g1, fun fuel => ?_⟩
  cases fuel with
  | zero => rfl
  | succ f => simp [Vm.isSubclassAux, ne, h2, h3]
theorem own_ns_no {Z : State} {a0 : Array Value} {C S K : String} {n : Nat} (w : (Jvm.Cond.superclass C S).before a0 Z = true) (wk : (Jvm.Cond.instantiable K n).before a0 Z = true) (ns : NS Z C K) (hn : C ≠ K) : ∃ c t, Z.vm.findClass C = some c ∧ Z.vm.findClass K = some t ∧ Z.vm.assignable c t = false := by
  obtain ⟨c, t, h0, g0, n3⟩ := ns
  obtain ⟨p, k, kp, h1, h2, h3, h4, h5, -, h7⟩ := Cond.superclass_spec h0 w
  obtain ⟨t', k', g1, g2, g5, g7, -⟩ := Cond.instantiable_spec wk
  cases g0.symm.trans g1
  have ne := ids_ne h0 g0 hn
  have g8 : k'.isInterface = false := by
    cases hi : k'.isInterface with
    | false => rfl
    | true => rw [hi] at g7; simp at g7
  refine ⟨c, t, h0, g0, ?_⟩
  show Z.vm.assignableAux (255 + 1) c t = false
  simp [Vm.assignableAux, ne, h2, g2, h5, g5, g8, Vm.isSubclass, n3]
def InitQ (Z : State) (a : Addr) (C f1 f2 : String) (p1 p2 : Int32) (h0 : Heap) (n0 : Nat) (v : Option Value) (h : Heap) (L : List Loc) : Prop := v = none ∧ Fr n0 L ∧ Keep h0 h [a] ∧ Exa Z h a C ∧ Fld Z h a C f1 "I" (.int p1) ∧ Fld Z h a C f2 "I" (.int p2)
def BoxQ (Z : State) (h0 : Heap) (n0 : Nat) (v : Option Value) (h : Heap) (L : List Loc) : Prop := ∃ r, v = some (.ref r) ∧ Fr n0 L ∧ Ext h0 h ∧ Exa Z h r "java/lang/Integer"
def LawQ (n0 : Nat) (v : Option Value) (h : Heap) (L : List Loc) : Prop := v = some (.int 1) ∧ Fr n0 L
theorem ef_rm2 (m : MethodId) (x0 : Addr) : entryFrame m #[(.ref x0)] 1 = mkF m 0 #[.val (.ref x0)] [] := by first | (simp [entryFrame, mkF, argsToLocals, Value.category]; done) | rfl
theorem pn_rm2 : plainName "java/lang/Record" = true := by first | (simp [plainName, overriddenIn]; done) | decide +kernel
theorem d2_0 : decode jdk_30_method_1_code 0 = .ok (.aload_n 0, 1) := by decide +kernel
theorem d2_1 : decode jdk_30_method_1_code 1 = .ok (.invokespecial 1, 3) := by decide +kernel
theorem d2_4 : decode jdk_30_method_1_code 4 = .ok (.return_, 1) := by decide +kernel
set_option maxRecDepth 65536 in
set_option maxHeartbeats 40000000 in
theorem rm2 (l : Launch) (Z : State) (a0 : Array Value) (hw : ∀ d ∈ tables_1, d.before a0 Z = true) (ws : List Jvm.Cond) (a : Addr)  (h0 : Heap) (n0 : Nat) :
    MetFree l (⟨"java/lang/Record", "<init>", "()V"⟩ : MethodName) (head1 (Jvm.Cond.code (⟨"java/lang/Record", "<init>", "()V"⟩ : MethodName) jdk_30_method_1_code 1 none :: ws) ({ frames := 1, cells := 0, slots := 0, locals := 12 } : Room)) (fun aa U => aa = #[(.ref a)] ∧ Z.Warmed39 U.vm ∧ U.heap = h0) (fun _ _ _ _ _ => True) (fun _ U o U' => ∃ v L, o = .returned v ∧ PureQ none h0 n0 v U'.heap L ∧ FrameEnd U o U' L ({ frames := 1, cells := 0, slots := 0, locals := 12 } : Room).cells ({ frames := 1, cells := 0, slots := 0, locals := 12 } : Room).slots) := by
  refine MetFree.of_bodySF (plainFor_of_name pn_rm2) hisR ?_
  intro p e s m args below meth c s₁ Bd hml0 hP hK
  obtain ⟨rfl, hZ, hh⟩ := hP
  have hx := Bd.exec
  have hby := Bd.bytes
  have hml : c.maxLocals = 1 := hml0
  have hown : s.vm.findClass "java/lang/Record" = some m.cls := findClass_of_methodNamed Bd.named
  have hnm := (name_of_methodNamed Bd.named Bd.method).1
  have X0 : Stand p l e ({ frames := 1, cells := 0, slots := 0, locals := 12 } : Room) s m #[(.ref a)] below meth c s₁ [] 0 0 := Stand.of_body Bd
  have e0 : s₁.heap = h0 := by rw [← hh, Bd.state]; rfl
  have N0 := Fr.nil n0
  refine goIn (ef_rm2 m a) ?_
  refine Go.by (S' := s₁.setTop (mkF m 1 #[.val (.ref a)] [(.ref a)])) (fun _ kt => XS.aloadN X0.here hx rfl (hb hby d2_0) rfl rfl  kt) ?_
  obtain ⟨T1, X1, e1, st1⟩ := initO X0 hx hZ hown (hw _ (List.mem_of_getElem? (i := 11) rfl)) (hw _ (List.mem_of_getElem? (i := 12) rfl)) (hw _ (List.mem_of_getElem? (i := 13) rfl)) e0 (g := (mkF m 1 #[.val (.ref a)] [(.ref a)])) rfl (by rw [hml]; rfl) rfl (hb hby d2_1) (by decide) (W := 0) (by show 2 * 0 + _ ≤ _; exact Nat.le_of_eq rfl) (by decide)
  refine Go.by (S' := T1.setTop (mkF m 4 #[.val (.ref a)] [])) st1 ?_
  refine goRet X1 (v := none) (fun _ => rfl) Bd.notSynchronized (fun fs hr => X1.returnOut hx Bd.returns (hb hby d2_4) hr) (by decide) (by decide) ?_
  exact ⟨rfl, N0, e1⟩
theorem ef_rm7 (m : MethodId) (x0 : Addr) : entryFrame m #[(.ref x0)] 1 = mkF m 0 #[.val (.ref x0)] [] := by first | (simp [entryFrame, mkF, argsToLocals, Value.category]; done) | rfl
theorem pn_rm7 : plainName "java/lang/Number" = true := by first | (simp [plainName, overriddenIn]; done) | decide +kernel
theorem d7_0 : decode jdk_18_method_1_code 0 = .ok (.aload_n 0, 1) := by decide +kernel
theorem d7_1 : decode jdk_18_method_1_code 1 = .ok (.invokespecial 1, 3) := by decide +kernel
theorem d7_4 : decode jdk_18_method_1_code 4 = .ok (.return_, 1) := by decide +kernel
set_option maxRecDepth 65536 in
set_option maxHeartbeats 40000000 in
theorem rm7 (l : Launch) (Z : State) (a0 : Array Value) (hw : ∀ d ∈ tables_1, d.before a0 Z = true) (ws : List Jvm.Cond) (a : Addr)  (h0 : Heap) (n0 : Nat) :
    MetFree l (⟨"java/lang/Number", "<init>", "()V"⟩ : MethodName) (head1 (Jvm.Cond.code (⟨"java/lang/Number", "<init>", "()V"⟩ : MethodName) jdk_18_method_1_code 1 none :: ws) ({ frames := 1, cells := 0, slots := 0, locals := 12 } : Room)) (fun aa U => aa = #[(.ref a)] ∧ Z.Warmed39 U.vm ∧ U.heap = h0) (fun _ _ _ _ _ => True) (fun _ U o U' => ∃ v L, o = .returned v ∧ PureQ none h0 n0 v U'.heap L ∧ FrameEnd U o U' L ({ frames := 1, cells := 0, slots := 0, locals := 12 } : Room).cells ({ frames := 1, cells := 0, slots := 0, locals := 12 } : Room).slots) := by
  refine MetFree.of_bodySF (plainFor_of_name pn_rm7) hisR ?_
  intro p e s m args below meth c s₁ Bd hml0 hP hK
  obtain ⟨rfl, hZ, hh⟩ := hP
  have hx := Bd.exec
  have hby := Bd.bytes
  have hml : c.maxLocals = 1 := hml0
  have hown : s.vm.findClass "java/lang/Number" = some m.cls := findClass_of_methodNamed Bd.named
  have hnm := (name_of_methodNamed Bd.named Bd.method).1
  have X0 : Stand p l e ({ frames := 1, cells := 0, slots := 0, locals := 12 } : Room) s m #[(.ref a)] below meth c s₁ [] 0 0 := Stand.of_body Bd
  have e0 : s₁.heap = h0 := by rw [← hh, Bd.state]; rfl
  have N0 := Fr.nil n0
  refine goIn (ef_rm7 m a) ?_
  refine Go.by (S' := s₁.setTop (mkF m 1 #[.val (.ref a)] [(.ref a)])) (fun _ kt => XS.aloadN X0.here hx rfl (hb hby d7_0) rfl rfl  kt) ?_
  obtain ⟨T1, X1, e1, st1⟩ := initO X0 hx hZ hown (hw _ (List.mem_of_getElem? (i := 43) rfl)) (hw _ (List.mem_of_getElem? (i := 12) rfl)) (hw _ (List.mem_of_getElem? (i := 13) rfl)) e0 (g := (mkF m 1 #[.val (.ref a)] [(.ref a)])) rfl (by rw [hml]; rfl) rfl (hb hby d7_1) (by decide) (W := 0) (by show 2 * 0 + _ ≤ _; exact Nat.le_of_eq rfl) (by decide)
  refine Go.by (S' := T1.setTop (mkF m 4 #[.val (.ref a)] [])) st1 ?_
  refine goRet X1 (v := none) (fun _ => rfl) Bd.notSynchronized (fun fs hr => X1.returnOut hx Bd.returns (hb hby d7_4) hr) (by decide) (by decide) ?_
  exact ⟨rfl, N0, e1⟩
theorem ef_rm1 (m : MethodId) (x0 : Addr) (x1 : Int32) (x2 : Int32) : entryFrame m #[(.ref x0), (.int x1), (.int x2)] 3 = mkF m 0 #[.val (.ref x0), .val (.int x1), .val (.int x2)] [] := by first | (simp [entryFrame, mkF, argsToLocals, Value.category]; done) | rfl
theorem pn_rm1 : plainName "com/example/meshwright/meshwright/Architecture$Mesh" = true := by first | (simp [plainName, overriddenIn]; done) | decide +kernel
theorem d1_0 : decode prog_4_method_1_code 0 = .ok (.aload_n 0, 1) := by decide +kernel
theorem d1_1 : decode prog_4_method_1_code 1 = .ok (.invokespecial 1, 3) := by decide +kernel
theorem d1_4 : decode prog_4_method_1_code 4 = .ok (.aload_n 0, 1) := by decide +kernel
theorem d1_5 : decode prog_4_method_1_code 5 = .ok (.iload_n 1, 1) := by decide +kernel
theorem d1_6 : decode prog_4_method_1_code 6 = .ok (.putfield 7, 3) := by decide +kernel
theorem d1_9 : decode prog_4_method_1_code 9 = .ok (.aload_n 0, 1) := by decide +kernel
theorem d1_10 : decode prog_4_method_1_code 10 = .ok (.iload_n 2, 1) := by decide +kernel
theorem d1_11 : decode prog_4_method_1_code 11 = .ok (.putfield 13, 3) := by decide +kernel
theorem d1_14 : decode prog_4_method_1_code 14 = .ok (.return_, 1) := by decide +kernel
set_option maxRecDepth 65536 in
set_option maxHeartbeats 40000000 in
theorem rm1 (l : Launch) (Z : State) (a0 : Array Value) (hw : ∀ d ∈ tables_1, d.before a0 Z = true) (ws : List Jvm.Cond) (a : Addr) (p1 : Int32) (p2 : Int32)  (h0 : Heap) (n0 : Nat) (F_a_rows : Fld Z h0 a "com/example/meshwright/meshwright/Architecture$Mesh" "rows" "I" (.int 0)) (F_a_columns : Fld Z h0 a "com/example/meshwright/meshwright/Architecture$Mesh" "columns" "I" (.int 0)) (E_a : Exa Z h0 a "com/example/meshwright/meshwright/Architecture$Mesh") (g_a : n0 ≤ a) :
    MetFree l (⟨"com/example/meshwright/meshwright/Architecture$Mesh", "<init>", "(II)V"⟩ : MethodName) (head1 (Jvm.Cond.code (⟨"com/example/meshwright/meshwright/Architecture$Mesh", "<init>", "(II)V"⟩ : MethodName) prog_4_method_1_code 3 none :: ws) ({ frames := 2, cells := 0, slots := 0, locals := 24 } : Room)) (fun aa U => aa = #[(.ref a), (.int p1), (.int p2)] ∧ Z.Warmed39 U.vm ∧ U.heap = h0) (fun _ _ _ _ _ => True) (fun _ U o U' => ∃ v L, o = .returned v ∧ InitQ Z a "com/example/meshwright/meshwright/Architecture$Mesh" "rows" "columns" p1 p2 h0 n0 v U'.heap L ∧ FrameEnd U o U' L ({ frames := 2, cells := 0, slots := 0, locals := 24 } : Room).cells ({ frames := 2, cells := 0, slots := 0, locals := 24 } : Room).slots) := by
  refine MetFree.of_bodySF (plainFor_of_name pn_rm1) hisR ?_
  intro p e s m args below meth c s₁ Bd hml0 hP hK
  obtain ⟨rfl, hZ, hh⟩ := hP
  have hx := Bd.exec
  have hby := Bd.bytes
  have hml : c.maxLocals = 3 := hml0
  have hown : s.vm.findClass "com/example/meshwright/meshwright/Architecture$Mesh" = some m.cls := findClass_of_methodNamed Bd.named
  have hnm := (name_of_methodNamed Bd.named Bd.method).1
  have X0 : Stand p l e ({ frames := 2, cells := 0, slots := 0, locals := 24 } : Room) s m #[(.ref a), (.int p1), (.int p2)] below meth c s₁ [] 0 0 := Stand.of_body Bd
  have e0 : s₁.heap = h0 := by rw [← hh, Bd.state]; rfl
  have N0 := Fr.nil n0
  have KP := Keep.refl h0 [a]
  refine goIn (ef_rm1 m a p1 p2) ?_
  refine Go.by (S' := s₁.setTop (mkF m 1 #[.val (.ref a), .val (.int p1), .val (.int p2)] [(.ref a)])) (fun _ kt => XS.aloadN X0.here hx rfl (hb hby d1_0) rfl rfl  kt) ?_
  obtain ⟨_, _, ⟨T1, L1, k1, n1⟩, -, X1, ⟨Lc1, hQ1, l1, y1, z1⟩, st1⟩ := X0.specialBack hx (y := (⟨"java/lang/Record", "<init>", "()V"⟩ : MethodName)) rfl hown (mvT hZ (hw _ (List.mem_of_getElem? (i := 6) rfl))) (mvT hZ (hw _ (List.mem_of_getElem? (i := 7) rfl))) (mvT hZ (hw _ (List.mem_of_getElem? (i := 10) rfl))) (by decide) (backOf (W := 0) (rm2 l Z a0 hw [] a h0 n0) hZ (hw _ (List.mem_of_getElem? (i := 10) rfl)) (hw _ (List.mem_of_getElem? (i := 9) rfl)) (by decide) (by decide)) (g := (mkF m 1 #[.val (.ref a), .val (.int p1), .val (.int p2)] [(.ref a)])) rfl (by rw [hml]; rfl) (Steps.refl _) (a := a) (argsL := []) (rest := []) (lenOf pd_1 rfl) rfl (by show 2 * 0 + _ ≤ _; exact Nat.le_of_eq rfl) (hb hby d1_1) (fun _ _ => ⟨rfl, e0, (by decide : 0 + 0 ≤ _), (by decide : 0 + 0 ≤ _)⟩)
  dsimp only [Pt.U, Pt.locs, Pt.cells, Pt.slots] at X1 l1 y1 z1 st1 hQ1
  subst l1 y1 z1
  obtain ⟨rfl, N1q, e1⟩ := hQ1
  have N1 := Fr.app N0 N1q
  refine Go.at (S' := T1.setTop (mkF m 4 #[.val (.ref a), .val (.int p1), .val (.int p2)] [])) st1 ?_
  refine Go.by (S' := T1.setTop (mkF m 5 #[.val (.ref a), .val (.int p1), .val (.int p2)] [(.ref a)])) (fun _ kt => XS.aloadN X1.here hx rfl (hb hby d1_4) rfl rfl  kt) ?_
  refine Go.by (S' := T1.setTop (mkF m 6 #[.val (.ref a), .val (.int p1), .val (.int p2)] [(.int p1), (.ref a)])) (fun _ kt => XS.iloadN X1.here hx rfl (hb hby d1_5) rfl  kt) ?_
  obtain ⟨T2, h2, X2, e2, W2, st2⟩ := putF X1 hx hZ hown (host := "") (Or.inl (hw _ (List.mem_of_getElem? (i := 14) rfl))) Via.refl e1 F_a_rows E_a (Or.inr ⟨(hw _ (List.mem_of_getElem? (i := 15) rfl)), rfl, hnm⟩) (hw _ (List.mem_of_getElem? (i := 1) rfl)) (ty := .int) (by decide) rfl rfl (g := (mkF m 6 #[.val (.ref a), .val (.int p1), .val (.int p2)] [(.int p1), (.ref a)])) rfl rfl (hb hby d1_6)
  have F_a_rows := F_a_rows.same W2
  have E_a := E_a.wr W2
  have F_a_columns := F_a_columns.other W2 (Or.inr (slot_ne (Or.inr (hw _ (List.mem_of_getElem? (i := 17) rfl))) (Or.inr (hw _ (List.mem_of_getElem? (i := 15) rfl))) (by decide) (t := .int) (t' := .int) (by decide) (by decide)))
  have KP := KP.wr W2 (Or.inl (List.mem_of_getElem? (i := 0) rfl))
  have N2 := Fr.snoc X2 N1 g_a
  refine Go.by (S' := T2.setTop (mkF m 9 #[.val (.ref a), .val (.int p1), .val (.int p2)] [])) st2 ?_
  refine Go.by (S' := T2.setTop (mkF m 10 #[.val (.ref a), .val (.int p1), .val (.int p2)] [(.ref a)])) (fun _ kt => XS.aloadN X2.here hx rfl (hb hby d1_9) rfl rfl  kt) ?_
  refine Go.by (S' := T2.setTop (mkF m 11 #[.val (.ref a), .val (.int p1), .val (.int p2)] [(.int p2), (.ref a)])) (fun _ kt => XS.iloadN X2.here hx rfl (hb hby d1_10) rfl  kt) ?_
  obtain ⟨T3, h3, X3, e3, W3, st3⟩ := putF X2 hx hZ hown (host := "") (Or.inl (hw _ (List.mem_of_getElem? (i := 16) rfl))) Via.refl e2 F_a_columns E_a (Or.inr ⟨(hw _ (List.mem_of_getElem? (i := 17) rfl)), rfl, hnm⟩) (hw _ (List.mem_of_getElem? (i := 1) rfl)) (ty := .int) (by decide) rfl rfl (g := (mkF m 11 #[.val (.ref a), .val (.int p1), .val (.int p2)] [(.int p2), (.ref a)])) rfl rfl (hb hby d1_11)
  have F_a_columns := F_a_columns.same W3
  have E_a := E_a.wr W3
  have F_a_rows := F_a_rows.other W3 (Or.inr (slot_ne (Or.inr (hw _ (List.mem_of_getElem? (i := 15) rfl))) (Or.inr (hw _ (List.mem_of_getElem? (i := 17) rfl))) (by decide) (t := .int) (t' := .int) (by decide) (by decide)))
  have KP := KP.wr W3 (Or.inl (List.mem_of_getElem? (i := 0) rfl))
  have N3 := Fr.snoc X3 N2 g_a
  refine Go.by (S' := T3.setTop (mkF m 14 #[.val (.ref a), .val (.int p1), .val (.int p2)] [])) st3 ?_
  refine goRet X3 (v := none) (fun _ => rfl) Bd.notSynchronized (fun fs hr => X3.returnOut hx Bd.returns (hb hby d1_14) hr) (by decide) (by decide) ?_
  rw [e3]
  exact ⟨rfl, N3, KP, E_a, F_a_rows, F_a_columns⟩
theorem ef_rm8 (m : MethodId) (x0 : Addr) (x1 : Int32) (x2 : Int32) : entryFrame m #[(.ref x0), (.int x1), (.int x2)] 3 = mkF m 0 #[.val (.ref x0), .val (.int x1), .val (.int x2)] [] := by first | (simp [entryFrame, mkF, argsToLocals, Value.category]; done) | rfl
theorem pn_rm8 : plainName "com/example/meshwright/meshwright/Architecture$Holding" = true := by first | (simp [plainName, overriddenIn]; done) | decide +kernel
theorem d8_0 : decode prog_2_method_1_code 0 = .ok (.aload_n 0, 1) := by decide +kernel
theorem d8_1 : decode prog_2_method_1_code 1 = .ok (.invokespecial 1, 3) := by decide +kernel
theorem d8_4 : decode prog_2_method_1_code 4 = .ok (.aload_n 0, 1) := by decide +kernel
theorem d8_5 : decode prog_2_method_1_code 5 = .ok (.iload_n 1, 1) := by decide +kernel
theorem d8_6 : decode prog_2_method_1_code 6 = .ok (.putfield 7, 3) := by decide +kernel
theorem d8_9 : decode prog_2_method_1_code 9 = .ok (.aload_n 0, 1) := by decide +kernel
theorem d8_10 : decode prog_2_method_1_code 10 = .ok (.iload_n 2, 1) := by decide +kernel
theorem d8_11 : decode prog_2_method_1_code 11 = .ok (.putfield 13, 3) := by decide +kernel
theorem d8_14 : decode prog_2_method_1_code 14 = .ok (.return_, 1) := by decide +kernel
set_option maxRecDepth 65536 in
set_option maxHeartbeats 40000000 in
theorem rm8 (l : Launch) (Z : State) (a0 : Array Value) (hw : ∀ d ∈ tables_1, d.before a0 Z = true) (ws : List Jvm.Cond) (a : Addr) (p1 : Int32) (p2 : Int32)  (h0 : Heap) (n0 : Nat) (F_a_values : Fld Z h0 a "com/example/meshwright/meshwright/Architecture$Holding" "values" "I" (.int 0)) (F_a_cycles : Fld Z h0 a "com/example/meshwright/meshwright/Architecture$Holding" "cycles" "I" (.int 0)) (E_a : Exa Z h0 a "com/example/meshwright/meshwright/Architecture$Holding") (g_a : n0 ≤ a) :
    MetFree l (⟨"com/example/meshwright/meshwright/Architecture$Holding", "<init>", "(II)V"⟩ : MethodName) (head1 (Jvm.Cond.code (⟨"com/example/meshwright/meshwright/Architecture$Holding", "<init>", "(II)V"⟩ : MethodName) prog_2_method_1_code 3 none :: ws) ({ frames := 2, cells := 0, slots := 0, locals := 24 } : Room)) (fun aa U => aa = #[(.ref a), (.int p1), (.int p2)] ∧ Z.Warmed39 U.vm ∧ U.heap = h0) (fun _ _ _ _ _ => True) (fun _ U o U' => ∃ v L, o = .returned v ∧ InitQ Z a "com/example/meshwright/meshwright/Architecture$Holding" "values" "cycles" p1 p2 h0 n0 v U'.heap L ∧ FrameEnd U o U' L ({ frames := 2, cells := 0, slots := 0, locals := 24 } : Room).cells ({ frames := 2, cells := 0, slots := 0, locals := 24 } : Room).slots) := by
  refine MetFree.of_bodySF (plainFor_of_name pn_rm8) hisR ?_
  intro p e s m args below meth c s₁ Bd hml0 hP hK
  obtain ⟨rfl, hZ, hh⟩ := hP
  have hx := Bd.exec
  have hby := Bd.bytes
  have hml : c.maxLocals = 3 := hml0
  have hown : s.vm.findClass "com/example/meshwright/meshwright/Architecture$Holding" = some m.cls := findClass_of_methodNamed Bd.named
  have hnm := (name_of_methodNamed Bd.named Bd.method).1
  have X0 : Stand p l e ({ frames := 2, cells := 0, slots := 0, locals := 24 } : Room) s m #[(.ref a), (.int p1), (.int p2)] below meth c s₁ [] 0 0 := Stand.of_body Bd
  have e0 : s₁.heap = h0 := by rw [← hh, Bd.state]; rfl
  have N0 := Fr.nil n0
  have KP := Keep.refl h0 [a]
  refine goIn (ef_rm8 m a p1 p2) ?_
  refine Go.by (S' := s₁.setTop (mkF m 1 #[.val (.ref a), .val (.int p1), .val (.int p2)] [(.ref a)])) (fun _ kt => XS.aloadN X0.here hx rfl (hb hby d8_0) rfl rfl  kt) ?_
  obtain ⟨_, _, ⟨T1, L1, k1, n1⟩, -, X1, ⟨Lc1, hQ1, l1, y1, z1⟩, st1⟩ := X0.specialBack hx (y := (⟨"java/lang/Record", "<init>", "()V"⟩ : MethodName)) rfl hown (mvT hZ (hw _ (List.mem_of_getElem? (i := 55) rfl))) (mvT hZ (hw _ (List.mem_of_getElem? (i := 7) rfl))) (mvT hZ (hw _ (List.mem_of_getElem? (i := 10) rfl))) (by decide) (backOf (W := 0) (rm2 l Z a0 hw [] a h0 n0) hZ (hw _ (List.mem_of_getElem? (i := 10) rfl)) (hw _ (List.mem_of_getElem? (i := 9) rfl)) (by decide) (by decide)) (g := (mkF m 1 #[.val (.ref a), .val (.int p1), .val (.int p2)] [(.ref a)])) rfl (by rw [hml]; rfl) (Steps.refl _) (a := a) (argsL := []) (rest := []) (lenOf pd_1 rfl) rfl (by show 2 * 0 + _ ≤ _; exact Nat.le_of_eq rfl) (hb hby d8_1) (fun _ _ => ⟨rfl, e0, (by decide : 0 + 0 ≤ _), (by decide : 0 + 0 ≤ _)⟩)
  dsimp only [Pt.U, Pt.locs, Pt.cells, Pt.slots] at X1 l1 y1 z1 st1 hQ1
  subst l1 y1 z1
  obtain ⟨rfl, N1q, e1⟩ := hQ1
  have N1 := Fr.app N0 N1q
  refine Go.at (S' := T1.setTop (mkF m 4 #[.val (.ref a), .val (.int p1), .val (.int p2)] [])) st1 ?_
  refine Go.by (S' := T1.setTop (mkF m 5 #[.val (.ref a), .val (.int p1), .val (.int p2)] [(.ref a)])) (fun _ kt => XS.aloadN X1.here hx rfl (hb hby d8_4) rfl rfl  kt) ?_
  refine Go.by (S' := T1.setTop (mkF m 6 #[.val (.ref a), .val (.int p1), .val (.int p2)] [(.int p1), (.ref a)])) (fun _ kt => XS.iloadN X1.here hx rfl (hb hby d8_5) rfl  kt) ?_
  obtain ⟨T2, h2, X2, e2, W2, st2⟩ := putF X1 hx hZ hown (host := "") (Or.inl (hw _ (List.mem_of_getElem? (i := 56) rfl))) Via.refl e1 F_a_values E_a (Or.inr ⟨(hw _ (List.mem_of_getElem? (i := 57) rfl)), rfl, hnm⟩) (hw _ (List.mem_of_getElem? (i := 50) rfl)) (ty := .int) (by decide) rfl rfl (g := (mkF m 6 #[.val (.ref a), .val (.int p1), .val (.int p2)] [(.int p1), (.ref a)])) rfl rfl (hb hby d8_6)
  have F_a_values := F_a_values.same W2
  have E_a := E_a.wr W2
  have F_a_cycles := F_a_cycles.other W2 (Or.inr (slot_ne (Or.inr (hw _ (List.mem_of_getElem? (i := 59) rfl))) (Or.inr (hw _ (List.mem_of_getElem? (i := 57) rfl))) (by decide) (t := .int) (t' := .int) (by decide) (by decide)))
  have KP := KP.wr W2 (Or.inl (List.mem_of_getElem? (i := 0) rfl))
  have N2 := Fr.snoc X2 N1 g_a
  refine Go.by (S' := T2.setTop (mkF m 9 #[.val (.ref a), .val (.int p1), .val (.int p2)] [])) st2 ?_
  refine Go.by (S' := T2.setTop (mkF m 10 #[.val (.ref a), .val (.int p1), .val (.int p2)] [(.ref a)])) (fun _ kt => XS.aloadN X2.here hx rfl (hb hby d8_9) rfl rfl  kt) ?_
  refine Go.by (S' := T2.setTop (mkF m 11 #[.val (.ref a), .val (.int p1), .val (.int p2)] [(.int p2), (.ref a)])) (fun _ kt => XS.iloadN X2.here hx rfl (hb hby d8_10) rfl  kt) ?_
  obtain ⟨T3, h3, X3, e3, W3, st3⟩ := putF X2 hx hZ hown (host := "") (Or.inl (hw _ (List.mem_of_getElem? (i := 58) rfl))) Via.refl e2 F_a_cycles E_a (Or.inr ⟨(hw _ (List.mem_of_getElem? (i := 59) rfl)), rfl, hnm⟩) (hw _ (List.mem_of_getElem? (i := 50) rfl)) (ty := .int) (by decide) rfl rfl (g := (mkF m 11 #[.val (.ref a), .val (.int p1), .val (.int p2)] [(.int p2), (.ref a)])) rfl rfl (hb hby d8_11)
  have F_a_cycles := F_a_cycles.same W3
  have E_a := E_a.wr W3
  have F_a_values := F_a_values.other W3 (Or.inr (slot_ne (Or.inr (hw _ (List.mem_of_getElem? (i := 57) rfl))) (Or.inr (hw _ (List.mem_of_getElem? (i := 59) rfl))) (by decide) (t := .int) (t' := .int) (by decide) (by decide)))
  have KP := KP.wr W3 (Or.inl (List.mem_of_getElem? (i := 0) rfl))
  have N3 := Fr.snoc X3 N2 g_a
  refine Go.by (S' := T3.setTop (mkF m 14 #[.val (.ref a), .val (.int p1), .val (.int p2)] [])) st3 ?_
  refine goRet X3 (v := none) (fun _ => rfl) Bd.notSynchronized (fun fs hr => X3.returnOut hx Bd.returns (hb hby d8_14) hr) (by decide) (by decide) ?_
  rw [e3]
  exact ⟨rfl, N3, KP, E_a, F_a_values, F_a_cycles⟩
theorem ef_rm6 (m : MethodId) (x0 : Addr) (x1 : Int32) : entryFrame m #[(.ref x0), (.int x1)] 2 = mkF m 0 #[.val (.ref x0), .val (.int x1)] [] := by first | (simp [entryFrame, mkF, argsToLocals, Value.category]; done) | rfl
theorem pn_rm6 : plainName "java/lang/Integer" = true := by first | (simp [plainName, overriddenIn]; done) | decide +kernel
theorem d6_0 : decode jdk_33_method_23_code 0 = .ok (.aload_n 0, 1) := by decide +kernel
theorem d6_1 : decode jdk_33_method_23_code 1 = .ok (.invokespecial 202, 3) := by decide +kernel
theorem d6_4 : decode jdk_33_method_23_code 4 = .ok (.aload_n 0, 1) := by decide +kernel
theorem d6_5 : decode jdk_33_method_23_code 5 = .ok (.iload_n 1, 1) := by decide +kernel
theorem d6_6 : decode jdk_33_method_23_code 6 = .ok (.putfield 205, 3) := by decide +kernel
theorem d6_9 : decode jdk_33_method_23_code 9 = .ok (.return_, 1) := by decide +kernel
set_option maxRecDepth 65536 in
set_option maxHeartbeats 40000000 in
theorem rm6 (l : Launch) (Z : State) (a0 : Array Value) (hw : ∀ d ∈ tables_1, d.before a0 Z = true) (ws : List Jvm.Cond) (a : Addr) (p1 : Int32)  (h0 : Heap) (n0 : Nat) (F_a_value : Fld Z h0 a "java/lang/Integer" "value" "I" (.int 0)) (E_a : Exa Z h0 a "java/lang/Integer") (g_a : n0 ≤ a) :
    MetFree l (⟨"java/lang/Integer", "<init>", "(I)V"⟩ : MethodName) (head1 (Jvm.Cond.code (⟨"java/lang/Integer", "<init>", "(I)V"⟩ : MethodName) jdk_33_method_23_code 2 none :: ws) ({ frames := 2, cells := 0, slots := 0, locals := 24 } : Room)) (fun aa U => aa = #[(.ref a), (.int p1)] ∧ Z.Warmed39 U.vm ∧ U.heap = h0) (fun _ _ _ _ _ => True) (fun _ U o U' => ∃ v L, o = .returned v ∧ InitQ Z a "java/lang/Integer" "value" "value" p1 p1 h0 n0 v U'.heap L ∧ FrameEnd U o U' L ({ frames := 2, cells := 0, slots := 0, locals := 24 } : Room).cells ({ frames := 2, cells := 0, slots := 0, locals := 24 } : Room).slots) := by
  refine MetFree.of_bodySF (plainFor_of_name pn_rm6) hisR ?_
  intro p e s m args below meth c s₁ Bd hml0 hP hK
  obtain ⟨rfl, hZ, hh⟩ := hP
  have hx := Bd.exec
  have hby := Bd.bytes
  have hml : c.maxLocals = 2 := hml0
  have hown : s.vm.findClass "java/lang/Integer" = some m.cls := findClass_of_methodNamed Bd.named
  have hnm := (name_of_methodNamed Bd.named Bd.method).1
  have X0 : Stand p l e ({ frames := 2, cells := 0, slots := 0, locals := 24 } : Room) s m #[(.ref a), (.int p1)] below meth c s₁ [] 0 0 := Stand.of_body Bd
  have e0 : s₁.heap = h0 := by rw [← hh, Bd.state]; rfl
  have N0 := Fr.nil n0
  have KP := Keep.refl h0 [a]
  refine goIn (ef_rm6 m a p1) ?_
  refine Go.by (S' := s₁.setTop (mkF m 1 #[.val (.ref a), .val (.int p1)] [(.ref a)])) (fun _ kt => XS.aloadN X0.here hx rfl (hb hby d6_0) rfl rfl  kt) ?_
  obtain ⟨_, _, ⟨T1, L1, k1, n1⟩, -, X1, ⟨Lc1, hQ1, l1, y1, z1⟩, st1⟩ := X0.specialBack hx (y := (⟨"java/lang/Number", "<init>", "()V"⟩ : MethodName)) rfl hown (mvT hZ (hw _ (List.mem_of_getElem? (i := 37) rfl))) (mvT hZ (hw _ (List.mem_of_getElem? (i := 38) rfl))) (mvT hZ (hw _ (List.mem_of_getElem? (i := 42) rfl))) (by decide) (backOf (W := 0) (rm7 l Z a0 hw [] a h0 n0) hZ (hw _ (List.mem_of_getElem? (i := 42) rfl)) (hw _ (List.mem_of_getElem? (i := 41) rfl)) (by decide) (by decide)) (g := (mkF m 1 #[.val (.ref a), .val (.int p1)] [(.ref a)])) rfl (by rw [hml]; rfl) (Steps.refl _) (a := a) (argsL := []) (rest := []) (lenOf pd_1 rfl) rfl (by show 2 * 0 + _ ≤ _; exact Nat.le_of_eq rfl) (hb hby d6_1) (fun _ _ => ⟨rfl, e0, (by decide : 0 + 0 ≤ _), (by decide : 0 + 0 ≤ _)⟩)
  dsimp only [Pt.U, Pt.locs, Pt.cells, Pt.slots] at X1 l1 y1 z1 st1 hQ1
  subst l1 y1 z1
  obtain ⟨rfl, N1q, e1⟩ := hQ1
  have N1 := Fr.app N0 N1q
  refine Go.at (S' := T1.setTop (mkF m 4 #[.val (.ref a), .val (.int p1)] [])) st1 ?_
  refine Go.by (S' := T1.setTop (mkF m 5 #[.val (.ref a), .val (.int p1)] [(.ref a)])) (fun _ kt => XS.aloadN X1.here hx rfl (hb hby d6_4) rfl rfl  kt) ?_
  refine Go.by (S' := T1.setTop (mkF m 6 #[.val (.ref a), .val (.int p1)] [(.int p1), (.ref a)])) (fun _ kt => XS.iloadN X1.here hx rfl (hb hby d6_5) rfl  kt) ?_
  obtain ⟨T2, h2, X2, e2, W2, st2⟩ := putF X1 hx hZ hown (host := "") (Or.inl (hw _ (List.mem_of_getElem? (i := 44) rfl))) Via.refl e1 F_a_value E_a (Or.inr ⟨(hw _ (List.mem_of_getElem? (i := 45) rfl)), rfl, hnm⟩) (hw _ (List.mem_of_getElem? (i := 32) rfl)) (ty := .int) (by decide) rfl rfl (g := (mkF m 6 #[.val (.ref a), .val (.int p1)] [(.int p1), (.ref a)])) rfl rfl (hb hby d6_6)
  have F_a_value := F_a_value.same W2
  have E_a := E_a.wr W2
  have KP := KP.wr W2 (Or.inl (List.mem_of_getElem? (i := 0) rfl))
  have N2 := Fr.snoc X2 N1 g_a
  refine Go.by (S' := T2.setTop (mkF m 9 #[.val (.ref a), .val (.int p1)] [])) st2 ?_
  refine goRet X2 (v := none) (fun _ => rfl) Bd.notSynchronized (fun fs hr => X2.returnOut hx Bd.returns (hb hby d6_9) hr) (by decide) (by decide) ?_
  rw [e2]
  exact ⟨rfl, N2, KP, E_a, F_a_value, F_a_value⟩
theorem own_cidx {p : Int32} (h1 : ¬ p < -128) (h2 : ¬ 127 < p) : ¬ p + 128 < 0 ∧ p + 128 < 256 := by
  rw [Int32.lt_iff_toInt_lt] at h1 h2
  have e1 : (-128 : Int32).toInt = -128 := by decide
  have e2 : (127 : Int32).toInt = 127 := by decide
  rw [e1] at h1; rw [e2] at h2
  have e3 : (p + 128).toInt = p.toInt + 128 := by
    rw [Int32.toInt_add]
    have e : (128 : Int32).toInt = 128 := by decide
    rw [e]
    exact Int.bmod_eq_of_le (by omega) (by omega)
  rw [Int32.lt_iff_toInt_lt, Int32.lt_iff_toInt_lt, e3]
  have e4 : (0 : Int32).toInt = 0 := by decide
  have e5 : (256 : Int32).toInt = 256 := by decide
  rw [e4, e5]
  omega
theorem ef_rm5 (m : MethodId) (x0 : Int32) : entryFrame m #[(.int x0)] 1 = mkF m 0 #[.val (.int x0)] [] := by first | (simp [entryFrame, mkF, argsToLocals, Value.category]; done) | rfl
theorem pn_rm5 : plainName "java/lang/Integer" = true := by first | (simp [plainName, overriddenIn]; done) | decide +kernel
theorem d5_0 : decode jdk_33_method_22_code 0 = .ok (.iload_n 0, 1) := by decide +kernel
theorem d5_1 : decode jdk_33_method_22_code 1 = .ok (.bipush (-128), 2) := by decide +kernel
theorem d5_3 : decode jdk_33_method_22_code 3 = .ok (.if_icmp .lt 20, 3) := by decide +kernel
theorem d5_6 : decode jdk_33_method_22_code 6 = .ok (.iload_n 0, 1) := by decide +kernel
theorem d5_7 : decode jdk_33_method_22_code 7 = .ok (.getstatic 191, 3) := by decide +kernel
theorem d5_10 : decode jdk_33_method_22_code 10 = .ok (.if_icmp .gt 13, 3) := by decide +kernel
theorem d5_13 : decode jdk_33_method_22_code 13 = .ok (.getstatic 195, 3) := by decide +kernel
theorem d5_16 : decode jdk_33_method_22_code 16 = .ok (.iload_n 0, 1) := by decide +kernel
theorem d5_17 : decode jdk_33_method_22_code 17 = .ok (.sipush 128, 3) := by decide +kernel
theorem d5_20 : decode jdk_33_method_22_code 20 = .ok (.iadd, 1) := by decide +kernel
theorem d5_21 : decode jdk_33_method_22_code 21 = .ok (.aaload, 1) := by decide +kernel
theorem d5_22 : decode jdk_33_method_22_code 22 = .ok (.areturn, 1) := by decide +kernel
theorem d5_23 : decode jdk_33_method_22_code 23 = .ok (.new 1, 3) := by decide +kernel
theorem d5_26 : decode jdk_33_method_22_code 26 = .ok (.dup, 1) := by decide +kernel
theorem d5_27 : decode jdk_33_method_22_code 27 = .ok (.iload_n 0, 1) := by decide +kernel
theorem d5_28 : decode jdk_33_method_22_code 28 = .ok (.invokespecial 199, 3) := by decide +kernel
theorem d5_31 : decode jdk_33_method_22_code 31 = .ok (.areturn, 1) := by decide +kernel
set_option maxRecDepth 65536 in
set_option maxHeartbeats 40000000 in
theorem rm5 (l : Launch) (Z : State) (a0 : Array Value) (hw : ∀ d ∈ tables_1, d.before a0 Z = true) (ws : List Jvm.Cond) (p1 : Int32) (tc : Addr) (cl : Cell) (val : Int32 → Value) (h0 : Heap) (n0 : Nat) (Z0 : n0 ≤ h0.size) (SH : Sta Z h0 "java/lang/Integer$IntegerCache" "high" "I" (.int 127)) (SC : Sta Z h0 "java/lang/Integer$IntegerCache" "cache" "[Ljava/lang/Integer;" (.ref tc)) (BX : Bxs Z tc cl "java/lang/Integer" "I" 256 val) (EZ : Ext Z.heap h0) :
    MetFree l (⟨"java/lang/Integer", "valueOf", "(I)Ljava/lang/Integer;"⟩ : MethodName) (head1 (Jvm.Cond.code (⟨"java/lang/Integer", "valueOf", "(I)Ljava/lang/Integer;"⟩ : MethodName) jdk_33_method_22_code 1 (some (.object "java/lang/Integer")) :: ws) ({ frames := 3, cells := 1, slots := 1, locals := 38 } : Room)) (fun aa U => aa = #[(.int p1)] ∧ Z.Warmed39 U.vm ∧ U.heap = h0) (fun _ _ _ _ _ => True) (fun _ U o U' => ∃ v L, o = .returned v ∧ BoxQ Z h0 n0 v U'.heap L ∧ FrameEnd U o U' L ({ frames := 3, cells := 1, slots := 1, locals := 38 } : Room).cells ({ frames := 3, cells := 1, slots := 1, locals := 38 } : Room).slots) := by
  refine MetFree.of_bodySF (plainFor_of_name pn_rm5) hisR ?_
  intro p e s m args below meth c s₁ Bd hml0 hP hK
  obtain ⟨rfl, hZ, hh⟩ := hP
  have hx := Bd.exec
  have hby := Bd.bytes
  have hml : c.maxLocals = 1 := hml0
  have hown : s.vm.findClass "java/lang/Integer" = some m.cls := findClass_of_methodNamed Bd.named
  have hnm := (name_of_methodNamed Bd.named Bd.method).1
  have X0 : Stand p l e ({ frames := 3, cells := 1, slots := 1, locals := 38 } : Room) s m #[(.int p1)] below meth c s₁ [] 0 0 := Stand.of_body Bd
  have e0 : s₁.heap = h0 := by rw [← hh, Bd.state]; rfl
  have N0 := Fr.nil n0
  refine goIn (ef_rm5 m p1) ?_
  refine Go.by (S' := s₁.setTop (mkF m 1 #[.val (.int p1)] [(.int p1)])) (fun _ kt => XS.iloadN X0.here hx rfl (hb hby d5_0) rfl  kt) ?_
  refine Go.by (S' := s₁.setTop (mkF m 3 #[.val (.int p1)] [(.int (-128 : Int32)), (.int p1)])) (fun _ kt => XT.bipushV X0.here hx rfl (-128 : Int32) (hb hby d5_1) (by decide)  kt) ?_
  by_cases hc3_1 : p1 < (-128 : Int32)
  · refine Go.by (S' := s₁.setTop (mkF m 23 #[.val (.int p1)] [])) (fun _ kt => XS.icmpYes X0.here hx rfl (pc0 := 3) (pc' := 23) rfl (hb hby d5_3) rfl (XT.ii_lt_t hc3_1) (by decide) (by decide)  kt) ?_
    obtain ⟨T2, h2, X2, e2, Ex2, A2, D2, -, st2⟩ := newO X0 hx hZ hown (hw _ (List.mem_of_getElem? (i := 31) rfl)) (hw _ (List.mem_of_getElem? (i := 32) rfl)) (hw _ (List.mem_of_getElem? (i := 27) rfl)) e0 (g := (mkF m 23 #[.val (.int p1)] [])) rfl (hb hby d5_23) (by decide) (by decide)
    obtain ⟨b, gg_b⟩ : ∃ z, z = h0.size := ⟨_, rfl⟩
    rw [← gg_b] at A2 D2 st2
    have sz_b : h0.size ≤ b := by rw [gg_b]; exact (own_ext_refl h0).1
    have g_b : n0 ≤ b := Nat.le_trans Z0 sz_b
    have EX := own_ext_trans (own_ext_refl h0) Ex2
    have E_b := A2
    have F_b_value : Fld Z h2 b "java/lang/Integer" "value" "I" (.int (0 : Int32)) := D2 (Or.inr (hw _ (List.mem_of_getElem? (i := 45) rfl))) (ty := .int) (by decide)
    refine Go.by (S' := T2.setTop (mkF m 26 #[.val (.int p1)] [(.ref b)])) st2 ?_
    refine Go.by (S' := T2.setTop (mkF m 27 #[.val (.int p1)] [(.ref b), (.ref b)])) (fun _ kt => XS.dup X2.here hx rfl (hb hby d5_26) rfl rfl  kt) ?_
    refine Go.by (S' := T2.setTop (mkF m 28 #[.val (.int p1)] [(.int p1), (.ref b), (.ref b)])) (fun _ kt => XS.iloadN X2.here hx rfl (hb hby d5_27) rfl  kt) ?_
    obtain ⟨_, _, ⟨T3, L3, k3, n3⟩, -, X3, ⟨Lc3, hQ3, l3, y3, z3⟩, st3⟩ := X2.specialBack hx (y := (⟨"java/lang/Integer", "<init>", "(I)V"⟩ : MethodName)) rfl hown (mvT hZ (hw _ (List.mem_of_getElem? (i := 33) rfl))) (mvT hZ (hw _ (List.mem_of_getElem? (i := 34) rfl))) (mvT hZ (hw _ (List.mem_of_getElem? (i := 36) rfl))) (by decide) (backOf (W := 1) (rm6 l Z a0 hw [] b p1 h2 n0 F_b_value E_b g_b) hZ (hw _ (List.mem_of_getElem? (i := 36) rfl)) (hw _ (List.mem_of_getElem? (i := 27) rfl)) (by decide) (by decide)) (g := (mkF m 28 #[.val (.int p1)] [(.int p1), (.ref b), (.ref b)])) rfl (by rw [hml]; rfl) (Steps.refl _) (a := b) (argsL := [(.int p1)]) (rest := [(.ref b)]) (lenOf pd_4 rfl) rfl (by show 2 * 0 + _ ≤ _; exact Nat.le_of_eq rfl) (hb hby d5_28) (fun _ _ => ⟨rfl, e2, (by decide : (0 + 1) + 0 ≤ _), (by decide : (0 + 1) + 0 ≤ _)⟩)
    dsimp only [Pt.U, Pt.locs, Pt.cells, Pt.slots] at X3 l3 y3 z3 st3 hQ3
    subst l3 y3 z3
    obtain ⟨rfl, N3q, K3, E_b, -, -⟩ := hQ3
    have N3 := Fr.app N0 N3q
    have EX := own_ext_keep EX K3 (allS sz_b all0)
    refine Go.at (S' := T3.setTop (mkF m 31 #[.val (.int p1)] [(.ref b)])) st3 ?_
    refine goRet X3 (v := some (.ref b)) (fun h => by rw [Bd.returns] at h; cases h) Bd.notSynchronized (fun fs hr => retOut X3 hx Bd.returns rfl (Or.inr (Or.inr (Or.inr (Or.inr ⟨rfl, rfl, rfl⟩)))) (hb hby d5_31) hr) (by decide) (by decide) ?_
    exact ⟨b, rfl, N3, EX, E_b⟩
  · refine Go.by (S' := s₁.setTop (mkF m 6 #[.val (.int p1)] [])) (fun _ kt => XS.icmpNo X0.here hx rfl (hb hby d5_3) rfl (XT.ii_lt_f hc3_1)  kt) ?_
    refine Go.by (S' := s₁.setTop (mkF m 7 #[.val (.int p1)] [(.int p1)])) (fun _ kt => XS.iloadN X0.here hx rfl (hb hby d5_6) rfl  kt) ?_
    obtain ⟨T4, X4, e4, st4⟩ := getS2 X0 hx hZ hown (host := "") (Or.inl (hw _ (List.mem_of_getElem? (i := 29) rfl))) Via.refl e0 SH (g := (mkF m 7 #[.val (.int p1)] [(.int p1)])) rfl (hb hby d5_7)
    refine Go.by (S' := T4.setTop (mkF m 10 #[.val (.int p1)] [(.int (127 : Int32)), (.int p1)])) st4 ?_
    by_cases hc10_5 : (127 : Int32) < p1
    · refine Go.by (S' := T4.setTop (mkF m 23 #[.val (.int p1)] [])) (fun _ kt => XS.icmpYes X4.here hx rfl (pc0 := 10) (pc' := 23) rfl (hb hby d5_10) rfl (XT.ii_gt_t hc10_5) (by decide) (by decide)  kt) ?_
      obtain ⟨T6, h6, X6, e6, Ex6, A6, D6, -, st6⟩ := newO X4 hx hZ hown (hw _ (List.mem_of_getElem? (i := 31) rfl)) (hw _ (List.mem_of_getElem? (i := 32) rfl)) (hw _ (List.mem_of_getElem? (i := 27) rfl)) e4 (g := (mkF m 23 #[.val (.int p1)] [])) rfl (hb hby d5_23) (by decide) (by decide)
      obtain ⟨b, gg_b⟩ : ∃ z, z = h0.size := ⟨_, rfl⟩
      rw [← gg_b] at A6 D6 st6
      have sz_b : h0.size ≤ b := by rw [gg_b]; exact (own_ext_refl h0).1
      have g_b : n0 ≤ b := Nat.le_trans Z0 sz_b
      have EX := own_ext_trans (own_ext_refl h0) Ex6
      have E_b := A6
      have F_b_value : Fld Z h6 b "java/lang/Integer" "value" "I" (.int (0 : Int32)) := D6 (Or.inr (hw _ (List.mem_of_getElem? (i := 45) rfl))) (ty := .int) (by decide)
      refine Go.by (S' := T6.setTop (mkF m 26 #[.val (.int p1)] [(.ref b)])) st6 ?_
      refine Go.by (S' := T6.setTop (mkF m 27 #[.val (.int p1)] [(.ref b), (.ref b)])) (fun _ kt => XS.dup X6.here hx rfl (hb hby d5_26) rfl rfl  kt) ?_
      refine Go.by (S' := T6.setTop (mkF m 28 #[.val (.int p1)] [(.int p1), (.ref b), (.ref b)])) (fun _ kt => XS.iloadN X6.here hx rfl (hb hby d5_27) rfl  kt) ?_
      obtain ⟨_, _, ⟨T7, L7, k7, n7⟩, -, X7, ⟨Lc7, hQ7, l7, y7, z7⟩, st7⟩ := X6.specialBack hx (y := (⟨"java/lang/Integer", "<init>", "(I)V"⟩ : MethodName)) rfl hown (mvT hZ (hw _ (List.mem_of_getElem? (i := 33) rfl))) (mvT hZ (hw _ (List.mem_of_getElem? (i := 34) rfl))) (mvT hZ (hw _ (List.mem_of_getElem? (i := 36) rfl))) (by decide) (backOf (W := 1) (rm6 l Z a0 hw [] b p1 h6 n0 F_b_value E_b g_b) hZ (hw _ (List.mem_of_getElem? (i := 36) rfl)) (hw _ (List.mem_of_getElem? (i := 27) rfl)) (by decide) (by decide)) (g := (mkF m 28 #[.val (.int p1)] [(.int p1), (.ref b), (.ref b)])) rfl (by rw [hml]; rfl) (Steps.refl _) (a := b) (argsL := [(.int p1)]) (rest := [(.ref b)]) (lenOf pd_4 rfl) rfl (by show 2 * 0 + _ ≤ _; exact Nat.le_of_eq rfl) (hb hby d5_28) (fun _ _ => ⟨rfl, e6, (by decide : (0 + 1) + 0 ≤ _), (by decide : (0 + 1) + 0 ≤ _)⟩)
      dsimp only [Pt.U, Pt.locs, Pt.cells, Pt.slots] at X7 l7 y7 z7 st7 hQ7
      subst l7 y7 z7
      obtain ⟨rfl, N7q, K7, E_b, -, -⟩ := hQ7
      have N7 := Fr.app N0 N7q
      have EX := own_ext_keep EX K7 (allS sz_b all0)
      refine Go.at (S' := T7.setTop (mkF m 31 #[.val (.int p1)] [(.ref b)])) st7 ?_
      refine goRet X7 (v := some (.ref b)) (fun h => by rw [Bd.returns] at h; cases h) Bd.notSynchronized (fun fs hr => retOut X7 hx Bd.returns rfl (Or.inr (Or.inr (Or.inr (Or.inr ⟨rfl, rfl, rfl⟩)))) (hb hby d5_31) hr) (by decide) (by decide) ?_
      exact ⟨b, rfl, N7, EX, E_b⟩
    · refine Go.by (S' := T4.setTop (mkF m 13 #[.val (.int p1)] [])) (fun _ kt => XS.icmpNo X4.here hx rfl (hb hby d5_10) rfl (XT.ii_gt_f hc10_5)  kt) ?_
      obtain ⟨T8, X8, e8, st8⟩ := getS2 X4 hx hZ hown (host := "") (Or.inl (hw _ (List.mem_of_getElem? (i := 62) rfl))) Via.refl e4 SC (g := (mkF m 13 #[.val (.int p1)] [])) rfl (hb hby d5_13)
      refine Go.by (S' := T8.setTop (mkF m 16 #[.val (.int p1)] [(.ref tc)])) st8 ?_
      refine Go.by (S' := T8.setTop (mkF m 17 #[.val (.int p1)] [(.int p1), (.ref tc)])) (fun _ kt => XS.iloadN X8.here hx rfl (hb hby d5_16) rfl  kt) ?_
      refine Go.by (S' := T8.setTop (mkF m 20 #[.val (.int p1)] [(.int (128 : Int32)), (.int p1), (.ref tc)])) (fun _ kt => XT.sipushV X8.here hx rfl (128 : Int32) (hb hby d5_17) (by decide)  kt) ?_
      refine Go.by (S' := T8.setTop (mkF m 21 #[.val (.int p1)] [(.int (p1 + (128 : Int32))), (.ref tc)])) (fun _ kt => XS.iadd X8.here hx rfl (hb hby d5_20) rfl  kt) ?_
      have hin : ¬ ((p1 + (128 : Int32)) < 0 ∨ cl.slots.size ≤ (p1 + (128 : Int32)).toNatClampNeg) := inb_of BX.2.1 (own_cidx hc3_1 hc10_5)
      obtain ⟨bb, hat, Eb, -⟩ := BX.2.2.2 _ hin
      refine Go.by (S' := T8.setTop (mkF m 22 #[.val (.int p1)] [(.ref bb)])) (fun _ kt => X8.aaload hx (j := p1 + (128 : Int32)) (v := .ref bb) (by rw [e8]; exact (BX.1.ext EZ).1) (State.isArrayOf_alike hZ.alike BX.1.2.1) rfl BX.1.2.2 hin hat (g := (mkF m 21 #[.val (.int p1)] [(.int (p1 + (128 : Int32))), (.ref tc)])) rfl rfl (hb hby d5_21) _ kt) ?_
      refine goRet X8 (v := some (.ref bb)) (fun h => by rw [Bd.returns] at h; cases h) Bd.notSynchronized (fun fs hr => retOut X8 hx Bd.returns rfl (Or.inr (Or.inr (Or.inr (Or.inr ⟨rfl, rfl, rfl⟩)))) (hb hby d5_22) hr) (by decide) (by decide) ?_
      rw [e8]
      exact ⟨bb, rfl, N0, own_ext_refl _, Eb.ext EZ⟩
theorem ef_rm4m (m : MethodId) (x0 : Addr) (x1 : Addr) : entryFrame m #[(.ref x0), (.ref x1)] 3 = mkF m 0 #[.val (.ref x0), .val (.ref x1), .unset] [] := by first | (simp [entryFrame, mkF, argsToLocals, Value.category]; done) | rfl
theorem pn_rm4m : plainName "com/example/meshwright/meshwright/Architecture$Mesh" = true := by first | (simp [plainName, overriddenIn]; done) | decide +kernel
theorem d4_0 : decode prog_4_method_2_code 0 = .ok (.aload_n 1, 1) := by decide +kernel
theorem d4_1 : decode prog_4_method_2_code 1 = .ok (.instanceof 8, 3) := by decide +kernel
theorem d4_4 : decode prog_4_method_2_code 4 = .ok (.ifCond .eq 34, 3) := by decide +kernel
theorem d4_7 : decode prog_4_method_2_code 7 = .ok (.aload_n 1, 1) := by decide +kernel
theorem d4_8 : decode prog_4_method_2_code 8 = .ok (.checkcast 8, 3) := by decide +kernel
theorem d4_11 : decode prog_4_method_2_code 11 = .ok (.astore_n 2, 1) := by decide +kernel
theorem d4_12 : decode prog_4_method_2_code 12 = .ok (.aload_n 0, 1) := by decide +kernel
theorem d4_13 : decode prog_4_method_2_code 13 = .ok (.getfield 7, 3) := by decide +kernel
theorem d4_16 : decode prog_4_method_2_code 16 = .ok (.aload_n 2, 1) := by decide +kernel
theorem d4_17 : decode prog_4_method_2_code 17 = .ok (.getfield 7, 3) := by decide +kernel
theorem d4_20 : decode prog_4_method_2_code 20 = .ok (.if_icmp .ne 18, 3) := by decide +kernel
theorem d4_23 : decode prog_4_method_2_code 23 = .ok (.aload_n 0, 1) := by decide +kernel
theorem d4_24 : decode prog_4_method_2_code 24 = .ok (.getfield 13, 3) := by decide +kernel
theorem d4_27 : decode prog_4_method_2_code 27 = .ok (.aload_n 2, 1) := by decide +kernel
theorem d4_28 : decode prog_4_method_2_code 28 = .ok (.getfield 13, 3) := by decide +kernel
theorem d4_31 : decode prog_4_method_2_code 31 = .ok (.if_icmp .ne 7, 3) := by decide +kernel
theorem d4_34 : decode prog_4_method_2_code 34 = .ok (.iconst 1, 1) := by decide +kernel
theorem d4_35 : decode prog_4_method_2_code 35 = .ok (.goto 4, 3) := by decide +kernel
theorem d4_38 : decode prog_4_method_2_code 38 = .ok (.iconst 0, 1) := by decide +kernel
theorem d4_39 : decode prog_4_method_2_code 39 = .ok (.ireturn, 1) := by decide +kernel
set_option maxRecDepth 65536 in
set_option maxHeartbeats 40000000 in
theorem rm4m (l : Launch) (Z : State) (a0 : Array Value) (hw : ∀ d ∈ tables_1, d.before a0 Z = true) (ws : List Jvm.Cond) (a : Addr) (b : Addr) (r1 k1 r2 k2 : Int32) (h0 : Heap) (n0 : Nat) (F_a_rows : Fld Z h0 a "com/example/meshwright/meshwright/Architecture$Mesh" "rows" "I" (.int r1)) (F_a_columns : Fld Z h0 a "com/example/meshwright/meshwright/Architecture$Mesh" "columns" "I" (.int k1)) (F_b_rows : Fld Z h0 b "com/example/meshwright/meshwright/Architecture$Mesh" "rows" "I" (.int r2)) (F_b_columns : Fld Z h0 b "com/example/meshwright/meshwright/Architecture$Mesh" "columns" "I" (.int k2)) (E_b : Exa Z h0 b "com/example/meshwright/meshwright/Architecture$Mesh") :
    MetFree l (⟨"com/example/meshwright/meshwright/Architecture$Mesh", "equals", "(Ljava/lang/Object;)Z"⟩ : MethodName) (head1 (Jvm.Cond.code (⟨"com/example/meshwright/meshwright/Architecture$Mesh", "equals", "(Ljava/lang/Object;)Z"⟩ : MethodName) prog_4_method_2_code 3 (some .boolean) :: ws) ({ frames := 0, cells := 0, slots := 0, locals := 0 } : Room)) (fun aa U => aa = #[(.ref a), (.ref b)] ∧ Z.Warmed39 U.vm ∧ U.heap = h0) (fun _ _ _ _ _ => True) (fun _ U o U' => ∃ v L, o = .returned v ∧ PureQ (some (.int (if r1 = r2 ∧ k1 = k2 then 1 else 0))) h0 n0 v U'.heap L ∧ FrameEnd U o U' L ({ frames := 0, cells := 0, slots := 0, locals := 0 } : Room).cells ({ frames := 0, cells := 0, slots := 0, locals := 0 } : Room).slots) := by
  refine MetFree.of_bodySF (plainFor_of_name pn_rm4m) hisR ?_
  intro p e s m args below meth c s₁ Bd hml0 hP hK
  obtain ⟨rfl, hZ, hh⟩ := hP
  have hx := Bd.exec
  have hby := Bd.bytes
  have hml : c.maxLocals = 3 := hml0
  have hown : s.vm.findClass "com/example/meshwright/meshwright/Architecture$Mesh" = some m.cls := findClass_of_methodNamed Bd.named
  have hnm := (name_of_methodNamed Bd.named Bd.method).1
  have X0 : Stand p l e ({ frames := 0, cells := 0, slots := 0, locals := 0 } : Room) s m #[(.ref a), (.ref b)] below meth c s₁ [] 0 0 := Stand.of_body Bd
  have e0 : s₁.heap = h0 := by rw [← hh, Bd.state]; rfl
  have N0 := Fr.nil n0
  refine goIn (ef_rm4m m a b) ?_
  refine Go.by (S' := s₁.setTop (mkF m 1 #[.val (.ref a), .val (.ref b), .unset] [(.ref b)])) (fun _ kt => XS.aloadN X0.here hx rfl (hb hby d4_0) rfl rfl  kt) ?_
  obtain ⟨T1, X1, e1, st1⟩ := instY X0 hx hZ hown (hw _ (List.mem_of_getElem? (i := 23) rfl)) e0 (Ins.self E_b) (g := (mkF m 1 #[.val (.ref a), .val (.ref b), .unset] [(.ref b)])) rfl rfl (hb hby d4_1)
  refine Go.by (S' := T1.setTop (mkF m 4 #[.val (.ref a), .val (.ref b), .unset] [(.int (1 : Int32))])) st1 ?_
  refine Go.by (S' := T1.setTop (mkF m 7 #[.val (.ref a), .val (.ref b), .unset] [])) (fun _ kt => XS.ifNo X1.here hx rfl (hb hby d4_4) rfl (XT.i0_eq_f (by decide))  kt) ?_
  refine Go.by (S' := T1.setTop (mkF m 8 #[.val (.ref a), .val (.ref b), .unset] [(.ref b)])) (fun _ kt => XS.aloadN X1.here hx rfl (hb hby d4_7) rfl rfl  kt) ?_
  obtain ⟨T2, X2, e2, st2⟩ := castY X1 hx hZ hown (hw _ (List.mem_of_getElem? (i := 23) rfl)) e1 (Ins.self E_b) (g := (mkF m 8 #[.val (.ref a), .val (.ref b), .unset] [(.ref b)])) rfl rfl (hb hby d4_8)
  refine Go.by (S' := T2.setTop (mkF m 11 #[.val (.ref a), .val (.ref b), .unset] [(.ref b)])) st2 ?_
  refine Go.by (S' := T2.setTop (mkF m 12 #[.val (.ref a), .val (.ref b), .val (.ref b)] [])) (fun _ kt => XS.astoreN X2.here hx rfl (hb hby d4_11) rfl rfl (l' := #[.val (.ref a), .val (.ref b), .val (.ref b)]) rfl  kt) ?_
  refine Go.by (S' := T2.setTop (mkF m 13 #[.val (.ref a), .val (.ref b), .val (.ref b)] [(.ref a)])) (fun _ kt => XS.aloadN X2.here hx rfl (hb hby d4_12) rfl rfl  kt) ?_
  obtain ⟨T3, X3, e3, st3⟩ := getF X2 hx hZ hown (host := "") (Or.inl (hw _ (List.mem_of_getElem? (i := 14) rfl))) Via.refl e2 F_a_rows (g := (mkF m 13 #[.val (.ref a), .val (.ref b), .val (.ref b)] [(.ref a)])) rfl rfl (hb hby d4_13)
  refine Go.by (S' := T3.setTop (mkF m 16 #[.val (.ref a), .val (.ref b), .val (.ref b)] [(.int r1)])) st3 ?_
  refine Go.by (S' := T3.setTop (mkF m 17 #[.val (.ref a), .val (.ref b), .val (.ref b)] [(.ref b), (.int r1)])) (fun _ kt => XS.aloadN X3.here hx rfl (hb hby d4_16) rfl rfl  kt) ?_
  obtain ⟨T4, X4, e4, st4⟩ := getF X3 hx hZ hown (host := "") (Or.inl (hw _ (List.mem_of_getElem? (i := 14) rfl))) Via.refl e3 F_b_rows (g := (mkF m 17 #[.val (.ref a), .val (.ref b), .val (.ref b)] [(.ref b), (.int r1)])) rfl rfl (hb hby d4_17)
  refine Go.by (S' := T4.setTop (mkF m 20 #[.val (.ref a), .val (.ref b), .val (.ref b)] [(.int r2), (.int r1)])) st4 ?_
  by_cases hc20_5 : r1 = r2
  · refine Go.by (S' := T4.setTop (mkF m 23 #[.val (.ref a), .val (.ref b), .val (.ref b)] [])) (fun _ kt => XS.icmpNo X4.here hx rfl (hb hby d4_20) rfl (XT.ii_ne_f hc20_5)  kt) ?_
    refine Go.by (S' := T4.setTop (mkF m 24 #[.val (.ref a), .val (.ref b), .val (.ref b)] [(.ref a)])) (fun _ kt => XS.aloadN X4.here hx rfl (hb hby d4_23) rfl rfl  kt) ?_
    obtain ⟨T6, X6, e6, st6⟩ := getF X4 hx hZ hown (host := "") (Or.inl (hw _ (List.mem_of_getElem? (i := 16) rfl))) Via.refl e4 F_a_columns (g := (mkF m 24 #[.val (.ref a), .val (.ref b), .val (.ref b)] [(.ref a)])) rfl rfl (hb hby d4_24)
    refine Go.by (S' := T6.setTop (mkF m 27 #[.val (.ref a), .val (.ref b), .val (.ref b)] [(.int k1)])) st6 ?_
    refine Go.by (S' := T6.setTop (mkF m 28 #[.val (.ref a), .val (.ref b), .val (.ref b)] [(.ref b), (.int k1)])) (fun _ kt => XS.aloadN X6.here hx rfl (hb hby d4_27) rfl rfl  kt) ?_
    obtain ⟨T7, X7, e7, st7⟩ := getF X6 hx hZ hown (host := "") (Or.inl (hw _ (List.mem_of_getElem? (i := 16) rfl))) Via.refl e6 F_b_columns (g := (mkF m 28 #[.val (.ref a), .val (.ref b), .val (.ref b)] [(.ref b), (.int k1)])) rfl rfl (hb hby d4_28)
    refine Go.by (S' := T7.setTop (mkF m 31 #[.val (.ref a), .val (.ref b), .val (.ref b)] [(.int k2), (.int k1)])) st7 ?_
    by_cases hc31_8 : k1 = k2
    · refine Go.by (S' := T7.setTop (mkF m 34 #[.val (.ref a), .val (.ref b), .val (.ref b)] [])) (fun _ kt => XS.icmpNo X7.here hx rfl (hb hby d4_31) rfl (XT.ii_ne_f hc31_8)  kt) ?_
      refine Go.by (S' := T7.setTop (mkF m 35 #[.val (.ref a), .val (.ref b), .val (.ref b)] [(.int (1 : Int32))])) (fun _ kt => XT.iconstV X7.here hx rfl (1 : Int32) (hb hby d4_34) (by decide)  kt) ?_
      refine Go.by (S' := T7.setTop (mkF m 39 #[.val (.ref a), .val (.ref b), .val (.ref b)] [(.int (1 : Int32))])) (fun _ kt => XS.goto X7.here hx rfl (pc0 := 35) (pc' := 39) rfl (hb hby d4_35) (by decide) (by decide)  kt) ?_
      refine goRet X7 (v := some (.int (nar .boolean (1 : Int32)))) (fun h => by rw [Bd.returns] at h; cases h) Bd.notSynchronized (fun fs hr => retN X7 hx (t := .boolean) Bd.returns (by simp) (hb hby d4_39) hr) (by decide) (by decide) ?_
      exact ⟨by simp [own_n1, own_n0, hc20_5, hc31_8], N0, e7⟩
    · refine Go.by (S' := T7.setTop (mkF m 38 #[.val (.ref a), .val (.ref b), .val (.ref b)] [])) (fun _ kt => XS.icmpYes X7.here hx rfl (pc0 := 31) (pc' := 38) rfl (hb hby d4_31) rfl (XT.ii_ne_t hc31_8) (by decide) (by decide)  kt) ?_
      refine Go.by (S' := T7.setTop (mkF m 39 #[.val (.ref a), .val (.ref b), .val (.ref b)] [(.int (0 : Int32))])) (fun _ kt => XT.iconstV X7.here hx rfl (0 : Int32) (hb hby d4_38) (by decide)  kt) ?_
      refine goRet X7 (v := some (.int (nar .boolean (0 : Int32)))) (fun h => by rw [Bd.returns] at h; cases h) Bd.notSynchronized (fun fs hr => retN X7 hx (t := .boolean) Bd.returns (by simp) (hb hby d4_39) hr) (by decide) (by decide) ?_
      exact ⟨by simp [own_n1, own_n0, hc20_5, hc31_8], N0, e7⟩
  · refine Go.by (S' := T4.setTop (mkF m 38 #[.val (.ref a), .val (.ref b), .val (.ref b)] [])) (fun _ kt => XS.icmpYes X4.here hx rfl (pc0 := 20) (pc' := 38) rfl (hb hby d4_20) rfl (XT.ii_ne_t hc20_5) (by decide) (by decide)  kt) ?_
    refine Go.by (S' := T4.setTop (mkF m 39 #[.val (.ref a), .val (.ref b), .val (.ref b)] [(.int (0 : Int32))])) (fun _ kt => XT.iconstV X4.here hx rfl (0 : Int32) (hb hby d4_38) (by decide)  kt) ?_
    refine goRet X4 (v := some (.int (nar .boolean (0 : Int32)))) (fun h => by rw [Bd.returns] at h; cases h) Bd.notSynchronized (fun fs hr => retN X4 hx (t := .boolean) Bd.returns (by simp) (hb hby d4_39) hr) (by decide) (by decide) ?_
    exact ⟨by simp [own_n1, own_n0, hc20_5], N0, e4⟩
theorem ef_rm4n (m : MethodId) (x0 : Addr) : entryFrame m #[(.ref x0), .null] 3 = mkF m 0 #[.val (.ref x0), .val .null, .unset] [] := by first | (simp [entryFrame, mkF, argsToLocals, Value.category]; done) | rfl
theorem pn_rm4n : plainName "com/example/meshwright/meshwright/Architecture$Mesh" = true := by first | (simp [plainName, overriddenIn]; done) | decide +kernel
set_option maxRecDepth 65536 in
set_option maxHeartbeats 40000000 in
theorem rm4n (l : Launch) (Z : State) (a0 : Array Value) (hw : ∀ d ∈ tables_1, d.before a0 Z = true) (ws : List Jvm.Cond) (a : Addr)  (h0 : Heap) (n0 : Nat) :
    MetFree l (⟨"com/example/meshwright/meshwright/Architecture$Mesh", "equals", "(Ljava/lang/Object;)Z"⟩ : MethodName) (head1 (Jvm.Cond.code (⟨"com/example/meshwright/meshwright/Architecture$Mesh", "equals", "(Ljava/lang/Object;)Z"⟩ : MethodName) prog_4_method_2_code 3 (some .boolean) :: ws) ({ frames := 0, cells := 0, slots := 0, locals := 0 } : Room)) (fun aa U => aa = #[(.ref a), .null] ∧ Z.Warmed39 U.vm ∧ U.heap = h0) (fun _ _ _ _ _ => True) (fun _ U o U' => ∃ v L, o = .returned v ∧ PureQ (some (.int 0)) h0 n0 v U'.heap L ∧ FrameEnd U o U' L ({ frames := 0, cells := 0, slots := 0, locals := 0 } : Room).cells ({ frames := 0, cells := 0, slots := 0, locals := 0 } : Room).slots) := by
  refine MetFree.of_bodySF (plainFor_of_name pn_rm4n) hisR ?_
  intro p e s m args below meth c s₁ Bd hml0 hP hK
  obtain ⟨rfl, hZ, hh⟩ := hP
  have hx := Bd.exec
  have hby := Bd.bytes
  have hml : c.maxLocals = 3 := hml0
  have hown : s.vm.findClass "com/example/meshwright/meshwright/Architecture$Mesh" = some m.cls := findClass_of_methodNamed Bd.named
  have hnm := (name_of_methodNamed Bd.named Bd.method).1
  have X0 : Stand p l e ({ frames := 0, cells := 0, slots := 0, locals := 0 } : Room) s m #[(.ref a), .null] below meth c s₁ [] 0 0 := Stand.of_body Bd
  have e0 : s₁.heap = h0 := by rw [← hh, Bd.state]; rfl
  have N0 := Fr.nil n0
  refine goIn (ef_rm4n m a) ?_
  refine Go.by (S' := s₁.setTop (mkF m 1 #[.val (.ref a), .val .null, .unset] [.null])) (fun _ kt => XS.aloadN X0.here hx rfl (hb hby d4_0) rfl rfl  kt) ?_
  refine Go.by (S' := s₁.setTop (mkF m 4 #[.val (.ref a), .val .null, .unset] [(.int (0 : Int32))])) (fun _ kt => X0.instanceofNull hx (g := (mkF m 1 #[.val (.ref a), .val .null, .unset] [.null])) rfl rfl (hb hby d4_1) _ kt) ?_
  refine Go.by (S' := s₁.setTop (mkF m 38 #[.val (.ref a), .val .null, .unset] [])) (fun _ kt => XS.ifYes X0.here hx rfl (pc0 := 4) (pc' := 38) rfl (hb hby d4_4) rfl (XT.i0_eq_t (by decide)) (by decide) (by decide)  kt) ?_
  refine Go.by (S' := s₁.setTop (mkF m 39 #[.val (.ref a), .val .null, .unset] [(.int (0 : Int32))])) (fun _ kt => XT.iconstV X0.here hx rfl (0 : Int32) (hb hby d4_38) (by decide)  kt) ?_
  refine goRet X0 (v := some (.int (nar .boolean (0 : Int32)))) (fun h => by rw [Bd.returns] at h; cases h) Bd.notSynchronized (fun fs hr => retN X0 hx (t := .boolean) Bd.returns (by simp) (hb hby d4_39) hr) (by decide) (by decide) ?_
  exact ⟨by simp [own_n1, own_n0], N0, e0⟩
theorem ef_rm4o (m : MethodId) (x0 : Addr) (x1 : Addr) : entryFrame m #[(.ref x0), (.ref x1)] 3 = mkF m 0 #[.val (.ref x0), .val (.ref x1), .unset] [] := by first | (simp [entryFrame, mkF, argsToLocals, Value.category]; done) | rfl
theorem pn_rm4o : plainName "com/example/meshwright/meshwright/Architecture$Mesh" = true := by first | (simp [plainName, overriddenIn]; done) | decide +kernel
set_option maxRecDepth 65536 in
set_option maxHeartbeats 40000000 in
theorem rm4o (l : Launch) (Z : State) (a0 : Array Value) (hw : ∀ d ∈ tables_1, d.before a0 Z = true) (ws : List Jvm.Cond) (a : Addr) (b : Addr) (K_ : String) (h0 : Heap) (n0 : Nat) (E_b : Exa Z h0 b K_) (hno : ∃ c t, Z.vm.findClass K_ = some c ∧ Z.vm.findClass "com/example/meshwright/meshwright/Architecture$Mesh" = some t ∧ Z.vm.assignable c t = false) :
    MetFree l (⟨"com/example/meshwright/meshwright/Architecture$Mesh", "equals", "(Ljava/lang/Object;)Z"⟩ : MethodName) (head1 (Jvm.Cond.code (⟨"com/example/meshwright/meshwright/Architecture$Mesh", "equals", "(Ljava/lang/Object;)Z"⟩ : MethodName) prog_4_method_2_code 3 (some .boolean) :: ws) ({ frames := 0, cells := 0, slots := 0, locals := 0 } : Room)) (fun aa U => aa = #[(.ref a), (.ref b)] ∧ Z.Warmed39 U.vm ∧ U.heap = h0) (fun _ _ _ _ _ => True) (fun _ U o U' => ∃ v L, o = .returned v ∧ PureQ (some (.int 0)) h0 n0 v U'.heap L ∧ FrameEnd U o U' L ({ frames := 0, cells := 0, slots := 0, locals := 0 } : Room).cells ({ frames := 0, cells := 0, slots := 0, locals := 0 } : Room).slots) := by
  refine MetFree.of_bodySF (plainFor_of_name pn_rm4o) hisR ?_
  intro p e s m args below meth c s₁ Bd hml0 hP hK
  obtain ⟨rfl, hZ, hh⟩ := hP
  have hx := Bd.exec
  have hby := Bd.bytes
  have hml : c.maxLocals = 3 := hml0
  have hown : s.vm.findClass "com/example/meshwright/meshwright/Architecture$Mesh" = some m.cls := findClass_of_methodNamed Bd.named
  have hnm := (name_of_methodNamed Bd.named Bd.method).1
  have X0 : Stand p l e ({ frames := 0, cells := 0, slots := 0, locals := 0 } : Room) s m #[(.ref a), (.ref b)] below meth c s₁ [] 0 0 := Stand.of_body Bd
  have e0 : s₁.heap = h0 := by rw [← hh, Bd.state]; rfl
  have N0 := Fr.nil n0
  refine goIn (ef_rm4o m a b) ?_
  refine Go.by (S' := s₁.setTop (mkF m 1 #[.val (.ref a), .val (.ref b), .unset] [(.ref b)])) (fun _ kt => XS.aloadN X0.here hx rfl (hb hby d4_0) rfl rfl  kt) ?_
  obtain ⟨T1, X1, e1, st1⟩ := instNo X0 hx hZ hown (hw _ (List.mem_of_getElem? (i := 23) rfl)) e0 E_b hno (g := (mkF m 1 #[.val (.ref a), .val (.ref b), .unset] [(.ref b)])) rfl rfl (hb hby d4_1)
  refine Go.by (S' := T1.setTop (mkF m 4 #[.val (.ref a), .val (.ref b), .unset] [(.int (0 : Int32))])) st1 ?_
  refine Go.by (S' := T1.setTop (mkF m 38 #[.val (.ref a), .val (.ref b), .unset] [])) (fun _ kt => XS.ifYes X1.here hx rfl (pc0 := 4) (pc' := 38) rfl (hb hby d4_4) rfl (XT.i0_eq_t (by decide)) (by decide) (by decide)  kt) ?_
  refine Go.by (S' := T1.setTop (mkF m 39 #[.val (.ref a), .val (.ref b), .unset] [(.int (0 : Int32))])) (fun _ kt => XT.iconstV X1.here hx rfl (0 : Int32) (hb hby d4_38) (by decide)  kt) ?_
  refine goRet X1 (v := some (.int (nar .boolean (0 : Int32)))) (fun h => by rw [Bd.returns] at h; cases h) Bd.notSynchronized (fun fs hr => retN X1 hx (t := .boolean) Bd.returns (by simp) (hb hby d4_39) hr) (by decide) (by decide) ?_
  exact ⟨by simp [own_n1, own_n0], N0, e1⟩
theorem ef_rm0 (m : MethodId) (x0 : Int32) (x1 : Int32) (x2 : Int32) (x3 : Int32) (x4 : Int32) : entryFrame m #[(.int x0), (.int x1), (.int x2), (.int x3), (.int x4)] maxLocals = mkF m 0 #[.val (.int x0), .val (.int x1), .val (.int x2), .val (.int x3), .val (.int x4), .unset, .unset, .unset, .unset, .unset, .unset, .unset, .unset] [] := by first | (simp [entryFrame, mkF, argsToLocals, Value.category, maxLocals]; done) | rfl
theorem pn_rm0 : plainName "com/example/meshwright/meshwright/MeshEqualsPinLaw" = true := by first | (simp [plainName, overriddenIn]; done) | decide +kernel
set_option maxRecDepth 65536 in
set_option maxHeartbeats 40000000 in
theorem rm0 (l : Launch) (Z : State) (a0 : Array Value) (hw : ∀ d ∈ tables_1, d.before a0 Z = true) (ws : List Jvm.Cond) (a : Int32) (b : Int32) (c_ : Int32) (d_ : Int32) (x4 : Int32) (tc : Addr) (cl : Cell) (val : Int32 → Value) (h0 : Heap) (n0 : Nat) (Z0 : n0 ≤ h0.size) (SH : Sta Z h0 "java/lang/Integer$IntegerCache" "high" "I" (.int 127)) (SC : Sta Z h0 "java/lang/Integer$IntegerCache" "cache" "[Ljava/lang/Integer;" (.ref tc)) (BX : Bxs Z tc cl "java/lang/Integer" "I" 256 val) (EZ : Ext Z.heap h0) :
    MetFree l x (head1 (Jvm.Cond.code x code maxLocals ret :: ws) room_1) (fun aa U => aa = #[(.int a), (.int b), (.int c_), (.int d_), (.int x4)] ∧ Z.Warmed39 U.vm ∧ U.heap = h0) (fun _ _ _ _ _ => True) (fun _ U o U' => ∃ v L, o = .returned v ∧ LawQ n0 v U'.heap L ∧ FrameEnd U o U' L room_1.cells room_1.slots) := by
  refine MetFree.of_bodySF (plainFor_of_name pn_rm0) hisR ?_
  intro p e s m args below meth c s₁ Bd hml0 hP hK
  obtain ⟨rfl, hZ, hh⟩ := hP
  have hx := Bd.exec
  have hby := Bd.bytes
  have hml : c.maxLocals = 13 := hml0
  have hown : s.vm.findClass "com/example/meshwright/meshwright/MeshEqualsPinLaw" = some m.cls := findClass_of_methodNamed Bd.named
  have hnm := (name_of_methodNamed Bd.named Bd.method).1
  have X0 : Stand p l e room_1 s m #[(.int a), (.int b), (.int c_), (.int d_), (.int x4)] below meth c s₁ [] 0 0 := Stand.of_body Bd
  have e0 : s₁.heap = h0 := by rw [← hh, Bd.state]; rfl
  have N0 := Fr.nil n0
  have noI : ∃ c t, Z.vm.findClass "java/lang/Integer" = some c ∧ Z.vm.findClass "com/example/meshwright/meshwright/Architecture$Mesh" = some t ∧ Z.vm.assignable c t = false := own_ns_no (hw _ (List.mem_of_getElem? (i := 46) rfl)) (hw _ (List.mem_of_getElem? (i := 1) rfl)) (NS.step (hw _ (List.mem_of_getElem? (i := 46) rfl)) (NS.step (hw _ (List.mem_of_getElem? (i := 47) rfl)) (own_ns_root (hw _ (List.mem_of_getElem? (i := 48) rfl)) (hw _ (List.mem_of_getElem? (i := 1) rfl)) (by decide)) (by decide)) (by decide)) (by decide)
  have noH : ∃ c t, Z.vm.findClass "com/example/meshwright/meshwright/Architecture$Holding" = some c ∧ Z.vm.findClass "com/example/meshwright/meshwright/Architecture$Mesh" = some t ∧ Z.vm.assignable c t = false := own_ns_no (hw _ (List.mem_of_getElem? (i := 60) rfl)) (hw _ (List.mem_of_getElem? (i := 1) rfl)) (NS.step (hw _ (List.mem_of_getElem? (i := 60) rfl)) (NS.step (hw _ (List.mem_of_getElem? (i := 61) rfl)) (own_ns_root (hw _ (List.mem_of_getElem? (i := 48) rfl)) (hw _ (List.mem_of_getElem? (i := 1) rfl)) (by decide)) (by decide)) (by decide)) (by decide)
  have t26 : ∀ r2 k2 : Int32, Go p e below (s₁.setTop (mkF m 26 #[.val (.int a), .val (.int b), .val (.int c_), .val (.int d_), .val (.int x4), .val (.int r2), .unset, .unset, .unset, .unset, .unset, .unset, .unset] [(.int k2)])) (fun o U => ∃ v L, o = Outcome.returned v ∧ LawQ n0 v U.heap L ∧ FrameEnd s o U L room_1.cells room_1.slots) := by
    intro r2 k2
    refine Go.by (S' := s₁.setTop (mkF m 28 #[.val (.int a), .val (.int b), .val (.int c_), .val (.int d_), .val (.int x4), .val (.int r2), .val (.int k2), .unset, .unset, .unset, .unset, .unset, .unset] [])) (fun _ kt => XS.istore X0.here hx rfl (hb hby at_26) rfl (l' := #[.val (.int a), .val (.int b), .val (.int c_), .val (.int d_), .val (.int x4), .val (.int r2), .val (.int k2), .unset, .unset, .unset, .unset, .unset, .unset]) rfl  kt) ?_
    refine Go.by (S' := s₁.setTop (mkF m 30 #[.val (.int a), .val (.int b), .val (.int c_), .val (.int d_), .val (.int x4), .val (.int r2), .val (.int k2), .unset, .unset, .unset, .unset, .unset, .unset] [(.int x4)])) (fun _ kt => XS.iload X0.here hx rfl (hb hby at_28) rfl  kt) ?_
    refine Go.by (S' := s₁.setTop (mkF m 31 #[.val (.int a), .val (.int b), .val (.int c_), .val (.int d_), .val (.int x4), .val (.int r2), .val (.int k2), .unset, .unset, .unset, .unset, .unset, .unset] [(.int (2 : Int32)), (.int x4)])) (fun _ kt => XT.iconstV X0.here hx rfl (2 : Int32) (hb hby at_30) (by decide)  kt) ?_
    refine Go.by (S' := s₁.setTop (mkF m 32 #[.val (.int a), .val (.int b), .val (.int c_), .val (.int d_), .val (.int x4), .val (.int r2), .val (.int k2), .unset, .unset, .unset, .unset, .unset, .unset] [(.int (XT.ushr x4 (2 : Int32)))])) (fun _ kt => XT.iushr X0.here hx rfl (hb hby at_31) rfl  kt) ?_
    refine Go.by (S' := s₁.setTop (mkF m 34 #[.val (.int a), .val (.int b), .val (.int c_), .val (.int d_), .val (.int x4), .val (.int r2), .val (.int k2), .unset, .unset, .unset, .unset, .unset, .unset] [(.int (7 : Int32)), (.int (XT.ushr x4 (2 : Int32)))])) (fun _ kt => XT.bipushV X0.here hx rfl (7 : Int32) (hb hby at_32) (by decide)  kt) ?_
    refine Go.by (S' := s₁.setTop (mkF m 35 #[.val (.int a), .val (.int b), .val (.int c_), .val (.int d_), .val (.int x4), .val (.int r2), .val (.int k2), .unset, .unset, .unset, .unset, .unset, .unset] [(.int ((XT.ushr x4 (2 : Int32)) &&& (7 : Int32)))])) (fun _ kt => XS.iand X0.here hx rfl (hb hby at_34) rfl  kt) ?_
    generalize ((XT.ushr x4 (2 : Int32)) &&& (7 : Int32)) = k0
    refine Go.by (S' := s₁.setTop (mkF m 37 #[.val (.int a), .val (.int b), .val (.int c_), .val (.int d_), .val (.int x4), .val (.int r2), .val (.int k2), .val (.int k0), .unset, .unset, .unset, .unset, .unset] [])) (fun _ kt => XS.istore X0.here hx rfl (hb hby at_35) rfl (l' := #[.val (.int a), .val (.int b), .val (.int c_), .val (.int d_), .val (.int x4), .val (.int r2), .val (.int k2), .val (.int k0), .unset, .unset, .unset, .unset, .unset]) rfl  kt) ?_
    obtain ⟨T1, h1, X1, e1, Ex1, A1, D1, -, st1⟩ := newO X0 hx hZ hown (hw _ (List.mem_of_getElem? (i := 0) rfl)) (hw _ (List.mem_of_getElem? (i := 1) rfl)) (hw _ (List.mem_of_getElem? (i := 2) rfl)) e0 (g := (mkF m 37 #[.val (.int a), .val (.int b), .val (.int c_), .val (.int d_), .val (.int x4), .val (.int r2), .val (.int k2), .val (.int k0), .unset, .unset, .unset, .unset, .unset] [])) rfl (hb hby at_37) (by decide) (by decide)
    obtain ⟨b1, gg_b1⟩ : ∃ z, z = h0.size := ⟨_, rfl⟩
    rw [← gg_b1] at A1 D1 st1
    have sz_b1 : h0.size ≤ b1 := by rw [gg_b1]; exact (own_ext_refl h0).1
    have g_b1 : n0 ≤ b1 := Nat.le_trans Z0 sz_b1
    have EX := own_ext_trans (own_ext_refl h0) Ex1
    have E_b1 := A1
    have F_b1_rows : Fld Z h1 b1 "com/example/meshwright/meshwright/Architecture$Mesh" "rows" "I" (.int (0 : Int32)) := D1 (Or.inr (hw _ (List.mem_of_getElem? (i := 15) rfl))) (ty := .int) (by decide)
    have F_b1_columns : Fld Z h1 b1 "com/example/meshwright/meshwright/Architecture$Mesh" "columns" "I" (.int (0 : Int32)) := D1 (Or.inr (hw _ (List.mem_of_getElem? (i := 17) rfl))) (ty := .int) (by decide)
    refine Go.by (S' := T1.setTop (mkF m 40 #[.val (.int a), .val (.int b), .val (.int c_), .val (.int d_), .val (.int x4), .val (.int r2), .val (.int k2), .val (.int k0), .unset, .unset, .unset, .unset, .unset] [(.ref b1)])) st1 ?_
    refine Go.by (S' := T1.setTop (mkF m 41 #[.val (.int a), .val (.int b), .val (.int c_), .val (.int d_), .val (.int x4), .val (.int r2), .val (.int k2), .val (.int k0), .unset, .unset, .unset, .unset, .unset] [(.ref b1), (.ref b1)])) (fun _ kt => XS.dup X1.here hx rfl (hb hby at_40) rfl rfl  kt) ?_
    refine Go.by (S' := T1.setTop (mkF m 42 #[.val (.int a), .val (.int b), .val (.int c_), .val (.int d_), .val (.int x4), .val (.int r2), .val (.int k2), .val (.int k0), .unset, .unset, .unset, .unset, .unset] [(.int a), (.ref b1), (.ref b1)])) (fun _ kt => XS.iloadN X1.here hx rfl (hb hby at_41) rfl  kt) ?_
    refine Go.by (S' := T1.setTop (mkF m 43 #[.val (.int a), .val (.int b), .val (.int c_), .val (.int d_), .val (.int x4), .val (.int r2), .val (.int k2), .val (.int k0), .unset, .unset, .unset, .unset, .unset] [(.int b), (.int a), (.ref b1), (.ref b1)])) (fun _ kt => XS.iloadN X1.here hx rfl (hb hby at_42) rfl  kt) ?_
    obtain ⟨_, _, ⟨T2, L2, k2, n2⟩, -, X2, ⟨Lc2, hQ2, l2, y2, z2⟩, st2⟩ := X1.specialBack hx (y := (⟨"com/example/meshwright/meshwright/Architecture$Mesh", "<init>", "(II)V"⟩ : MethodName)) rfl hown (mvT hZ (hw _ (List.mem_of_getElem? (i := 3) rfl))) (mvT hZ (hw _ (List.mem_of_getElem? (i := 4) rfl))) (mvT hZ (hw _ (List.mem_of_getElem? (i := 5) rfl))) (by decide) (backOf (W := 1) (rm1 l Z a0 hw [] b1 a b h1 n0 F_b1_rows F_b1_columns E_b1 g_b1) hZ (hw _ (List.mem_of_getElem? (i := 5) rfl)) (hw _ (List.mem_of_getElem? (i := 2) rfl)) (by decide) (by decide)) (g := (mkF m 43 #[.val (.int a), .val (.int b), .val (.int c_), .val (.int d_), .val (.int x4), .val (.int r2), .val (.int k2), .val (.int k0), .unset, .unset, .unset, .unset, .unset] [(.int b), (.int a), (.ref b1), (.ref b1)])) rfl (by rw [hml]; rfl) (Steps.refl _) (a := b1) (argsL := [(.int a), (.int b)]) (rest := [(.ref b1)]) (lenOf pd_0 rfl) rfl (by show 2 * 0 + _ ≤ _; exact Nat.le_of_eq rfl) (hb hby at_43) (fun _ _ => ⟨rfl, e1, (by decide : (0 + 1) + 0 ≤ _), (by decide : (0 + 2) + 0 ≤ _)⟩)
    dsimp only [Pt.U, Pt.locs, Pt.cells, Pt.slots] at X2 l2 y2 z2 st2 hQ2
    subst l2 y2 z2
    obtain ⟨rfl, N2q, K2, E_b1, F_b1_rows, F_b1_columns⟩ := hQ2
    have N2 := Fr.app N0 N2q
    have EX := own_ext_keep EX K2 (allS sz_b1 all0)
    refine Go.at (S' := T2.setTop (mkF m 46 #[.val (.int a), .val (.int b), .val (.int c_), .val (.int d_), .val (.int x4), .val (.int r2), .val (.int k2), .val (.int k0), .unset, .unset, .unset, .unset, .unset] [(.ref b1)])) st2 ?_
    refine Go.by (S' := T2.setTop (mkF m 48 #[.val (.int a), .val (.int b), .val (.int c_), .val (.int d_), .val (.int x4), .val (.int r2), .val (.int k2), .val (.int k0), .val (.ref b1), .unset, .unset, .unset, .unset] [])) (fun _ kt => XS.astore X2.here hx rfl (hb hby at_46) rfl rfl (l' := #[.val (.int a), .val (.int b), .val (.int c_), .val (.int d_), .val (.int x4), .val (.int r2), .val (.int k2), .val (.int k0), .val (.ref b1), .unset, .unset, .unset, .unset]) rfl  kt) ?_
    obtain ⟨T3, h3, X3, e3, Ex3, A3, D3, -, st3⟩ := newO X2 hx hZ hown (hw _ (List.mem_of_getElem? (i := 0) rfl)) (hw _ (List.mem_of_getElem? (i := 1) rfl)) (hw _ (List.mem_of_getElem? (i := 2) rfl)) rfl (g := (mkF m 48 #[.val (.int a), .val (.int b), .val (.int c_), .val (.int d_), .val (.int x4), .val (.int r2), .val (.int k2), .val (.int k0), .val (.ref b1), .unset, .unset, .unset, .unset] [])) rfl (hb hby at_48) (by decide) (by decide)
    obtain ⟨b2, gg_b2⟩ : ∃ z, z = T2.heap.size := ⟨_, rfl⟩
    rw [← gg_b2] at A3 D3 st3
    have lt_b1_b2 : b1 < b2 := by rw [gg_b2]; exact E_b1.lt
    have sz_b2 : h0.size ≤ b2 := by rw [gg_b2]; exact EX.1
    have g_b2 : n0 ≤ b2 := Nat.le_trans Z0 sz_b2
    have EX := own_ext_trans EX Ex3
    have E_b1 := E_b1.ext Ex3
    have F_b1_rows := F_b1_rows.ext Ex3
    have F_b1_columns := F_b1_columns.ext Ex3
    have E_b2 := A3
    have F_b2_rows : Fld Z h3 b2 "com/example/meshwright/meshwright/Architecture$Mesh" "rows" "I" (.int (0 : Int32)) := D3 (Or.inr (hw _ (List.mem_of_getElem? (i := 15) rfl))) (ty := .int) (by decide)
    have F_b2_columns : Fld Z h3 b2 "com/example/meshwright/meshwright/Architecture$Mesh" "columns" "I" (.int (0 : Int32)) := D3 (Or.inr (hw _ (List.mem_of_getElem? (i := 17) rfl))) (ty := .int) (by decide)
    refine Go.by (S' := T3.setTop (mkF m 51 #[.val (.int a), .val (.int b), .val (.int c_), .val (.int d_), .val (.int x4), .val (.int r2), .val (.int k2), .val (.int k0), .val (.ref b1), .unset, .unset, .unset, .unset] [(.ref b2)])) st3 ?_
    refine Go.by (S' := T3.setTop (mkF m 52 #[.val (.int a), .val (.int b), .val (.int c_), .val (.int d_), .val (.int x4), .val (.int r2), .val (.int k2), .val (.int k0), .val (.ref b1), .unset, .unset, .unset, .unset] [(.ref b2), (.ref b2)])) (fun _ kt => XS.dup X3.here hx rfl (hb hby at_51) rfl rfl  kt) ?_
    refine Go.by (S' := T3.setTop (mkF m 54 #[.val (.int a), .val (.int b), .val (.int c_), .val (.int d_), .val (.int x4), .val (.int r2), .val (.int k2), .val (.int k0), .val (.ref b1), .unset, .unset, .unset, .unset] [(.int r2), (.ref b2), (.ref b2)])) (fun _ kt => XS.iload X3.here hx rfl (hb hby at_52) rfl  kt) ?_
    refine Go.by (S' := T3.setTop (mkF m 56 #[.val (.int a), .val (.int b), .val (.int c_), .val (.int d_), .val (.int x4), .val (.int r2), .val (.int k2), .val (.int k0), .val (.ref b1), .unset, .unset, .unset, .unset] [(.int k2), (.int r2), (.ref b2), (.ref b2)])) (fun _ kt => XS.iload X3.here hx rfl (hb hby at_54) rfl  kt) ?_
    obtain ⟨_, _, ⟨T4, L4, k4, n4⟩, -, X4, ⟨Lc4, hQ4, l4, y4, z4⟩, st4⟩ := X3.specialBack hx (y := (⟨"com/example/meshwright/meshwright/Architecture$Mesh", "<init>", "(II)V"⟩ : MethodName)) rfl hown (mvT hZ (hw _ (List.mem_of_getElem? (i := 3) rfl))) (mvT hZ (hw _ (List.mem_of_getElem? (i := 4) rfl))) (mvT hZ (hw _ (List.mem_of_getElem? (i := 5) rfl))) (by decide) (backOf (W := 1) (rm1 l Z a0 hw [] b2 r2 k2 h3 n0 F_b2_rows F_b2_columns E_b2 g_b2) hZ (hw _ (List.mem_of_getElem? (i := 5) rfl)) (hw _ (List.mem_of_getElem? (i := 2) rfl)) (by decide) (by decide)) (g := (mkF m 56 #[.val (.int a), .val (.int b), .val (.int c_), .val (.int d_), .val (.int x4), .val (.int r2), .val (.int k2), .val (.int k0), .val (.ref b1), .unset, .unset, .unset, .unset] [(.int k2), (.int r2), (.ref b2), (.ref b2)])) rfl (by rw [hml]; rfl) (Steps.refl _) (a := b2) (argsL := [(.int r2), (.int k2)]) (rest := [(.ref b2)]) (lenOf pd_0 rfl) rfl (by show 2 * 0 + _ ≤ _; exact Nat.le_of_eq rfl) (hb hby at_56) (fun _ _ => ⟨rfl, e3, (by decide : ((0 + 1) + 1) + 0 ≤ _), (by decide : ((0 + 2) + 2) + 0 ≤ _)⟩)
    dsimp only [Pt.U, Pt.locs, Pt.cells, Pt.slots] at X4 l4 y4 z4 st4 hQ4
    subst l4 y4 z4
    obtain ⟨rfl, N4q, K4, E_b2, F_b2_rows, F_b2_columns⟩ := hQ4
    have N4 := Fr.app N2 N4q
    have E_b1 := E_b1.keep K4
    have F_b1_rows := F_b1_rows.keep K4 (ninS (Nat.ne_of_lt lt_b1_b2) nin0)
    have F_b1_columns := F_b1_columns.keep K4 (ninS (Nat.ne_of_lt lt_b1_b2) nin0)
    have EX := own_ext_keep EX K4 (allS sz_b2 all0)
    refine Go.at (S' := T4.setTop (mkF m 59 #[.val (.int a), .val (.int b), .val (.int c_), .val (.int d_), .val (.int x4), .val (.int r2), .val (.int k2), .val (.int k0), .val (.ref b1), .unset, .unset, .unset, .unset] [(.ref b2)])) st4 ?_
    refine Go.by (S' := T4.setTop (mkF m 61 #[.val (.int a), .val (.int b), .val (.int c_), .val (.int d_), .val (.int x4), .val (.int r2), .val (.int k2), .val (.int k0), .val (.ref b1), .val (.ref b2), .unset, .unset, .unset] [])) (fun _ kt => XS.astore X4.here hx rfl (hb hby at_59) rfl rfl (l' := #[.val (.int a), .val (.int b), .val (.int c_), .val (.int d_), .val (.int x4), .val (.int r2), .val (.int k2), .val (.int k0), .val (.ref b1), .val (.ref b2), .unset, .unset, .unset]) rfl  kt) ?_
    refine Go.by (S' := T4.setTop (mkF m 63 #[.val (.int a), .val (.int b), .val (.int c_), .val (.int d_), .val (.int x4), .val (.int r2), .val (.int k2), .val (.int k0), .val (.ref b1), .val (.ref b2), .unset, .unset, .unset] [(.ref b2)])) (fun _ kt => XS.aload X4.here hx rfl (hb hby at_61) rfl rfl  kt) ?_
    refine Go.by (S' := T4.setTop (mkF m 65 #[.val (.int a), .val (.int b), .val (.int c_), .val (.int d_), .val (.int x4), .val (.int r2), .val (.int k2), .val (.int k0), .val (.ref b1), .val (.ref b2), .val (.ref b2), .unset, .unset] [])) (fun _ kt => XS.astore X4.here hx rfl (hb hby at_63) rfl rfl (l' := #[.val (.int a), .val (.int b), .val (.int c_), .val (.int d_), .val (.int x4), .val (.int r2), .val (.int k2), .val (.int k0), .val (.ref b1), .val (.ref b2), .val (.ref b2), .unset, .unset]) rfl  kt) ?_
    refine Go.by (S' := T4.setTop (mkF m 67 #[.val (.int a), .val (.int b), .val (.int c_), .val (.int d_), .val (.int x4), .val (.int r2), .val (.int k2), .val (.int k0), .val (.ref b1), .val (.ref b2), .val (.ref b2), .unset, .unset] [(.int k0)])) (fun _ kt => XS.iload X4.here hx rfl (hb hby at_65) rfl  kt) ?_
    refine Go.by (S' := T4.setTop (mkF m 68 #[.val (.int a), .val (.int b), .val (.int c_), .val (.int d_), .val (.int x4), .val (.int r2), .val (.int k2), .val (.int k0), .val (.ref b1), .val (.ref b2), .val (.ref b2), .unset, .unset] [(.int (1 : Int32)), (.int k0)])) (fun _ kt => XT.iconstV X4.here hx rfl (1 : Int32) (hb hby at_67) (by decide)  kt) ?_
    by_cases hc68_5 : k0 = (1 : Int32)
    · refine Go.by (S' := T4.setTop (mkF m 71 #[.val (.int a), .val (.int b), .val (.int c_), .val (.int d_), .val (.int x4), .val (.int r2), .val (.int k2), .val (.int k0), .val (.ref b1), .val (.ref b2), .val (.ref b2), .unset, .unset] [])) (fun _ kt => XS.icmpNo X4.here hx rfl (hb hby at_68) rfl (XT.ii_ne_f hc68_5)  kt) ?_
      refine Go.by (S' := T4.setTop (mkF m 72 #[.val (.int a), .val (.int b), .val (.int c_), .val (.int d_), .val (.int x4), .val (.int r2), .val (.int k2), .val (.int k0), .val (.ref b1), .val (.ref b2), .val (.ref b2), .unset, .unset] [.null])) (fun _ kt => XS.aconstNull X4.here hx rfl (hb hby at_71)  kt) ?_
      refine Go.by (S' := T4.setTop (mkF m 74 #[.val (.int a), .val (.int b), .val (.int c_), .val (.int d_), .val (.int x4), .val (.int r2), .val (.int k2), .val (.int k0), .val (.ref b1), .val (.ref b2), .val .null, .unset, .unset] [])) (fun _ kt => XS.astore X4.here hx rfl (hb hby at_72) rfl rfl (l' := #[.val (.int a), .val (.int b), .val (.int c_), .val (.int d_), .val (.int x4), .val (.int r2), .val (.int k2), .val (.int k0), .val (.ref b1), .val (.ref b2), .val .null, .unset, .unset]) rfl  kt) ?_
      refine Go.by (S' := T4.setTop (mkF m 111 #[.val (.int a), .val (.int b), .val (.int c_), .val (.int d_), .val (.int x4), .val (.int r2), .val (.int k2), .val (.int k0), .val (.ref b1), .val (.ref b2), .val .null, .unset, .unset] [])) (fun _ kt => XS.goto X4.here hx rfl (pc0 := 74) (pc' := 111) rfl (hb hby at_74) (by decide) (by decide)  kt) ?_
      refine Go.by (S' := T4.setTop (mkF m 113 #[.val (.int a), .val (.int b), .val (.int c_), .val (.int d_), .val (.int x4), .val (.int r2), .val (.int k2), .val (.int k0), .val (.ref b1), .val (.ref b2), .val .null, .unset, .unset] [(.int k0)])) (fun _ kt => XS.iload X4.here hx rfl (hb hby at_111) rfl  kt) ?_
      refine Go.by (S' := T4.setTop (mkF m 114 #[.val (.int a), .val (.int b), .val (.int c_), .val (.int d_), .val (.int x4), .val (.int r2), .val (.int k2), .val (.int k0), .val (.ref b1), .val (.ref b2), .val .null, .unset, .unset] [(.int (1 : Int32)), (.int k0)])) (fun _ kt => XT.iconstV X4.here hx rfl (1 : Int32) (hb hby at_113) (by decide)  kt) ?_
      refine Go.by (S' := T4.setTop (mkF m 133 #[.val (.int a), .val (.int b), .val (.int c_), .val (.int d_), .val (.int x4), .val (.int r2), .val (.int k2), .val (.int k0), .val (.ref b1), .val (.ref b2), .val .null, .unset, .unset] [])) (fun _ kt => XS.icmpYes X4.here hx rfl (pc0 := 114) (pc' := 133) rfl (hb hby at_114) rfl (XT.ii_eq_t hc68_5) (by decide) (by decide)  kt) ?_
      refine Go.by (S' := T4.setTop (mkF m 134 #[.val (.int a), .val (.int b), .val (.int c_), .val (.int d_), .val (.int x4), .val (.int r2), .val (.int k2), .val (.int k0), .val (.ref b1), .val (.ref b2), .val .null, .unset, .unset] [(.int (0 : Int32))])) (fun _ kt => XT.iconstV X4.here hx rfl (0 : Int32) (hb hby at_133) (by decide)  kt) ?_
      refine Go.by (S' := T4.setTop (mkF m 136 #[.val (.int a), .val (.int b), .val (.int c_), .val (.int d_), .val (.int x4), .val (.int r2), .val (.int k2), .val (.int k0), .val (.ref b1), .val (.ref b2), .val .null, .val (.int (0 : Int32)), .unset] [])) (fun _ kt => XS.istore X4.here hx rfl (hb hby at_134) rfl (l' := #[.val (.int a), .val (.int b), .val (.int c_), .val (.int d_), .val (.int x4), .val (.int r2), .val (.int k2), .val (.int k0), .val (.ref b1), .val (.ref b2), .val .null, .val (.int (0 : Int32)), .unset]) rfl  kt) ?_
      refine Go.by (S' := T4.setTop (mkF m 138 #[.val (.int a), .val (.int b), .val (.int c_), .val (.int d_), .val (.int x4), .val (.int r2), .val (.int k2), .val (.int k0), .val (.ref b1), .val (.ref b2), .val .null, .val (.int (0 : Int32)), .unset] [(.int (0 : Int32))])) (fun _ kt => XS.iload X4.here hx rfl (hb hby at_136) rfl  kt) ?_
      refine Go.by (S' := T4.setTop (mkF m 157 #[.val (.int a), .val (.int b), .val (.int c_), .val (.int d_), .val (.int x4), .val (.int r2), .val (.int k2), .val (.int k0), .val (.ref b1), .val (.ref b2), .val .null, .val (.int (0 : Int32)), .unset] [])) (fun _ kt => XS.ifYes X4.here hx rfl (pc0 := 138) (pc' := 157) rfl (hb hby at_138) rfl (XT.i0_eq_t (by decide)) (by decide) (by decide)  kt) ?_
      refine Go.by (S' := T4.setTop (mkF m 158 #[.val (.int a), .val (.int b), .val (.int c_), .val (.int d_), .val (.int x4), .val (.int r2), .val (.int k2), .val (.int k0), .val (.ref b1), .val (.ref b2), .val .null, .val (.int (0 : Int32)), .unset] [(.int (0 : Int32))])) (fun _ kt => XT.iconstV X4.here hx rfl (0 : Int32) (hb hby at_157) (by decide)  kt) ?_
      refine Go.by (S' := T4.setTop (mkF m 160 #[.val (.int a), .val (.int b), .val (.int c_), .val (.int d_), .val (.int x4), .val (.int r2), .val (.int k2), .val (.int k0), .val (.ref b1), .val (.ref b2), .val .null, .val (.int (0 : Int32)), .val (.int (0 : Int32))] [])) (fun _ kt => XS.istore X4.here hx rfl (hb hby at_158) rfl (l' := #[.val (.int a), .val (.int b), .val (.int c_), .val (.int d_), .val (.int x4), .val (.int r2), .val (.int k2), .val (.int k0), .val (.ref b1), .val (.ref b2), .val .null, .val (.int (0 : Int32)), .val (.int (0 : Int32))]) rfl  kt) ?_
      refine Go.by (S' := T4.setTop (mkF m 162 #[.val (.int a), .val (.int b), .val (.int c_), .val (.int d_), .val (.int x4), .val (.int r2), .val (.int k2), .val (.int k0), .val (.ref b1), .val (.ref b2), .val .null, .val (.int (0 : Int32)), .val (.int (0 : Int32))] [(.ref b1)])) (fun _ kt => XS.aload X4.here hx rfl (hb hby at_160) rfl rfl  kt) ?_
      refine Go.by (S' := T4.setTop (mkF m 164 #[.val (.int a), .val (.int b), .val (.int c_), .val (.int d_), .val (.int x4), .val (.int r2), .val (.int k2), .val (.int k0), .val (.ref b1), .val (.ref b2), .val .null, .val (.int (0 : Int32)), .val (.int (0 : Int32))] [.null, (.ref b1)])) (fun _ kt => XS.aload X4.here hx rfl (hb hby at_162) rfl rfl  kt) ?_
      obtain ⟨cq6, kq6, q6a, q6b, q6c⟩ := isOf hZ rfl (E_b1)
      obtain ⟨_, _, ⟨T6, L6, k6, n6⟩, -, X6, ⟨Lc6, hQ6, l6, y6, z6⟩, st6⟩ := X4.virtualBack hx (y := (⟨"com/example/meshwright/meshwright/Architecture$Mesh", "equals", "(Ljava/lang/Object;)Z"⟩ : MethodName)) (z := (⟨"com/example/meshwright/meshwright/Architecture$Mesh", "equals", "(Ljava/lang/Object;)Z"⟩ : MethodName)) hown (mvT hZ (hw _ (List.mem_of_getElem? (i := 18) rfl))) (mvT hZ (hw _ (List.mem_of_getElem? (i := 19) rfl))) (notFace_of_selects (args := #[]) (mvT hZ (hw _ (List.mem_of_getElem? (i := 21) rfl)))) (mvT hZ (hw _ (List.mem_of_getElem? (i := 21) rfl))) (mvT hZ (hw _ (List.mem_of_getElem? (i := 20) rfl))) (by decide) (backOf (W := 0) (rm4n l Z a0 hw [] b1 T4.heap n0) hZ (hw _ (List.mem_of_getElem? (i := 22) rfl)) (hw _ (List.mem_of_getElem? (i := 2) rfl)) (by decide) (by decide)) q6a q6c (g := (mkF m 164 #[.val (.int a), .val (.int b), .val (.int c_), .val (.int d_), .val (.int x4), .val (.int r2), .val (.int k2), .val (.int k0), .val (.ref b1), .val (.ref b2), .val .null, .val (.int (0 : Int32)), .val (.int (0 : Int32))] [.null, (.ref b1)])) rfl (by rw [hml]; rfl) (Steps.refl _) (argsL := [.null]) (rest := []) (lenOf pd_2 rfl) rfl (by show 2 * 0 + _ ≤ _; exact Nat.le_of_eq rfl) (hb hby at_164) (fun _ _ => ⟨rfl, rfl, (by decide : ((0 + 1) + 1) + 0 ≤ _), (by decide : ((0 + 2) + 2) + 0 ≤ _)⟩)
      dsimp only [Pt.U, Pt.locs, Pt.cells, Pt.slots] at X6 l6 y6 z6 st6 hQ6
      subst l6 y6 z6
      obtain ⟨rfl, N6q, e6⟩ := hQ6
      have N6 := Fr.app N4 N6q
      refine Go.at (S' := T6.setTop (mkF m 167 #[.val (.int a), .val (.int b), .val (.int c_), .val (.int d_), .val (.int x4), .val (.int r2), .val (.int k2), .val (.int k0), .val (.ref b1), .val (.ref b2), .val .null, .val (.int (0 : Int32)), .val (.int (0 : Int32))] [(.int (0 : Int32))])) st6 ?_
      refine Go.by (S' := T6.setTop (mkF m 169 #[.val (.int a), .val (.int b), .val (.int c_), .val (.int d_), .val (.int x4), .val (.int r2), .val (.int k2), .val (.int k0), .val (.ref b1), .val (.ref b2), .val .null, .val (.int (0 : Int32)), .val (.int (0 : Int32))] [(.int (0 : Int32)), (.int (0 : Int32))])) (fun _ kt => XS.iload X6.here hx rfl (hb hby at_167) rfl  kt) ?_
      refine Go.by (S' := T6.setTop (mkF m 172 #[.val (.int a), .val (.int b), .val (.int c_), .val (.int d_), .val (.int x4), .val (.int r2), .val (.int k2), .val (.int k0), .val (.ref b1), .val (.ref b2), .val .null, .val (.int (0 : Int32)), .val (.int (0 : Int32))] [])) (fun _ kt => XS.icmpNo X6.here hx rfl (hb hby at_169) rfl (XT.ii_ne_f (by decide))  kt) ?_
      refine Go.by (S' := T6.setTop (mkF m 174 #[.val (.int a), .val (.int b), .val (.int c_), .val (.int d_), .val (.int x4), .val (.int r2), .val (.int k2), .val (.int k0), .val (.ref b1), .val (.ref b2), .val .null, .val (.int (0 : Int32)), .val (.int (0 : Int32))] [(.ref b1)])) (fun _ kt => XS.aload X6.here hx rfl (hb hby at_172) rfl rfl  kt) ?_
      refine Go.by (S' := T6.setTop (mkF m 176 #[.val (.int a), .val (.int b), .val (.int c_), .val (.int d_), .val (.int x4), .val (.int r2), .val (.int k2), .val (.int k0), .val (.ref b1), .val (.ref b2), .val .null, .val (.int (0 : Int32)), .val (.int (0 : Int32))] [(.ref b1), (.ref b1)])) (fun _ kt => XS.aload X6.here hx rfl (hb hby at_174) rfl rfl  kt) ?_
      obtain ⟨cq7, kq7, q7a, q7b, q7c⟩ := isOf hZ e6 (E_b1)
      obtain ⟨_, _, ⟨T7, L7, k7, n7⟩, -, X7, ⟨Lc7, hQ7, l7, y7, z7⟩, st7⟩ := X6.virtualBack hx (y := (⟨"com/example/meshwright/meshwright/Architecture$Mesh", "equals", "(Ljava/lang/Object;)Z"⟩ : MethodName)) (z := (⟨"com/example/meshwright/meshwright/Architecture$Mesh", "equals", "(Ljava/lang/Object;)Z"⟩ : MethodName)) hown (mvT hZ (hw _ (List.mem_of_getElem? (i := 18) rfl))) (mvT hZ (hw _ (List.mem_of_getElem? (i := 19) rfl))) (notFace_of_selects (args := #[]) (mvT hZ (hw _ (List.mem_of_getElem? (i := 21) rfl)))) (mvT hZ (hw _ (List.mem_of_getElem? (i := 21) rfl))) (mvT hZ (hw _ (List.mem_of_getElem? (i := 20) rfl))) (by decide) (backOf (W := 0) (rm4m l Z a0 hw [] b1 b1 a b a b T4.heap n0 F_b1_rows F_b1_columns F_b1_rows F_b1_columns E_b1) hZ (hw _ (List.mem_of_getElem? (i := 22) rfl)) (hw _ (List.mem_of_getElem? (i := 2) rfl)) (by decide) (by decide)) q7a q7c (g := (mkF m 176 #[.val (.int a), .val (.int b), .val (.int c_), .val (.int d_), .val (.int x4), .val (.int r2), .val (.int k2), .val (.int k0), .val (.ref b1), .val (.ref b2), .val .null, .val (.int (0 : Int32)), .val (.int (0 : Int32))] [(.ref b1), (.ref b1)])) rfl (by rw [hml]; rfl) (Steps.refl _) (argsL := [(.ref b1)]) (rest := []) (lenOf pd_2 rfl) rfl (by show 2 * 0 + _ ≤ _; exact Nat.le_of_eq rfl) (hb hby at_176) (fun _ _ => ⟨rfl, e6, (by decide : ((0 + 1) + 1) + 0 ≤ _), (by decide : ((0 + 2) + 2) + 0 ≤ _)⟩)
      dsimp only [Pt.U, Pt.locs, Pt.cells, Pt.slots] at X7 l7 y7 z7 st7 hQ7
      subst l7 y7 z7
      obtain ⟨rfl, N7q, e7⟩ := hQ7
      have N7 := Fr.app N6 N7q
      refine Go.at (S' := T7.setTop (mkF m 179 #[.val (.int a), .val (.int b), .val (.int c_), .val (.int d_), .val (.int x4), .val (.int r2), .val (.int k2), .val (.int k0), .val (.ref b1), .val (.ref b2), .val .null, .val (.int (0 : Int32)), .val (.int (0 : Int32))] [(.int (if a = a ∧ b = b then 1 else 0))])) st7 ?_
      refine Go.by (S' := T7.setTop (mkF m 182 #[.val (.int a), .val (.int b), .val (.int c_), .val (.int d_), .val (.int x4), .val (.int r2), .val (.int k2), .val (.int k0), .val (.ref b1), .val (.ref b2), .val .null, .val (.int (0 : Int32)), .val (.int (0 : Int32))] [])) (fun _ kt => XS.ifNo X7.here hx rfl (hb hby at_179) rfl (XT.i0_eq_f (by simp))  kt) ?_
      refine Go.by (S' := T7.setTop (mkF m 183 #[.val (.int a), .val (.int b), .val (.int c_), .val (.int d_), .val (.int x4), .val (.int r2), .val (.int k2), .val (.int k0), .val (.ref b1), .val (.ref b2), .val .null, .val (.int (0 : Int32)), .val (.int (0 : Int32))] [(.int (1 : Int32))])) (fun _ kt => XT.iconstV X7.here hx rfl (1 : Int32) (hb hby at_182) (by decide)  kt) ?_
      refine Go.by (S' := T7.setTop (mkF m 187 #[.val (.int a), .val (.int b), .val (.int c_), .val (.int d_), .val (.int x4), .val (.int r2), .val (.int k2), .val (.int k0), .val (.ref b1), .val (.ref b2), .val .null, .val (.int (0 : Int32)), .val (.int (0 : Int32))] [(.int (1 : Int32))])) (fun _ kt => XS.goto X7.here hx rfl (pc0 := 183) (pc' := 187) rfl (hb hby at_183) (by decide) (by decide)  kt) ?_
      refine goRet X7 (v := some (.int (nar .boolean (1 : Int32)))) (fun h => by rw [Bd.returns] at h; cases h) Bd.notSynchronized (fun fs hr => retN X7 hx (t := .boolean) Bd.returns (by simp) (hb hby at_187) hr) (by decide) (by decide) ?_
      exact ⟨by simp [own_n1], N7⟩
    · refine Go.by (S' := T4.setTop (mkF m 77 #[.val (.int a), .val (.int b), .val (.int c_), .val (.int d_), .val (.int x4), .val (.int r2), .val (.int k2), .val (.int k0), .val (.ref b1), .val (.ref b2), .val (.ref b2), .unset, .unset] [])) (fun _ kt => XS.icmpYes X4.here hx rfl (pc0 := 68) (pc' := 77) rfl (hb hby at_68) rfl (XT.ii_ne_t hc68_5) (by decide) (by decide)  kt) ?_
      refine Go.by (S' := T4.setTop (mkF m 79 #[.val (.int a), .val (.int b), .val (.int c_), .val (.int d_), .val (.int x4), .val (.int r2), .val (.int k2), .val (.int k0), .val (.ref b1), .val (.ref b2), .val (.ref b2), .unset, .unset] [(.int k0)])) (fun _ kt => XS.iload X4.here hx rfl (hb hby at_77) rfl  kt) ?_
      refine Go.by (S' := T4.setTop (mkF m 80 #[.val (.int a), .val (.int b), .val (.int c_), .val (.int d_), .val (.int x4), .val (.int r2), .val (.int k2), .val (.int k0), .val (.ref b1), .val (.ref b2), .val (.ref b2), .unset, .unset] [(.int (2 : Int32)), (.int k0)])) (fun _ kt => XT.iconstV X4.here hx rfl (2 : Int32) (hb hby at_79) (by decide)  kt) ?_
      by_cases hc80_8 : k0 = (2 : Int32)
      · refine Go.by (S' := T4.setTop (mkF m 83 #[.val (.int a), .val (.int b), .val (.int c_), .val (.int d_), .val (.int x4), .val (.int r2), .val (.int k2), .val (.int k0), .val (.ref b1), .val (.ref b2), .val (.ref b2), .unset, .unset] [])) (fun _ kt => XS.icmpNo X4.here hx rfl (hb hby at_80) rfl (XT.ii_ne_f hc80_8)  kt) ?_
        refine Go.by (S' := T4.setTop (mkF m 84 #[.val (.int a), .val (.int b), .val (.int c_), .val (.int d_), .val (.int x4), .val (.int r2), .val (.int k2), .val (.int k0), .val (.ref b1), .val (.ref b2), .val (.ref b2), .unset, .unset] [(.int a)])) (fun _ kt => XS.iloadN X4.here hx rfl (hb hby at_83) rfl  kt) ?_
        obtain ⟨_, _, ⟨T9, L9, k9, n9⟩, -, X9, ⟨Lc9, hQ9, l9, y9, z9⟩, st9⟩ := Jvm.LawKit.callS X4 hx (y := (⟨"java/lang/Integer", "valueOf", "(I)Ljava/lang/Integer;"⟩ : MethodName)) hown (mvT hZ (hw _ (List.mem_of_getElem? (i := 25) rfl))) (mvT hZ (hw _ (List.mem_of_getElem? (i := 26) rfl))) (mvT hZ (hw _ (List.mem_of_getElem? (i := 27) rfl))) (mvT hZ (hw _ (List.mem_of_getElem? (i := 28) rfl))) (by decide) (backOf (W := 0) (rm5 l Z a0 hw [] a tc cl val T4.heap n0 (Nat.le_trans Z0 EX.1) (SH.ext EX) (SC.ext EX) BX (own_ext_trans EZ EX)) hZ (hw _ (List.mem_of_getElem? (i := 28) rfl)) (hw _ (List.mem_of_getElem? (i := 27) rfl)) (by decide) (by decide)) (g := (mkF m 84 #[.val (.int a), .val (.int b), .val (.int c_), .val (.int d_), .val (.int x4), .val (.int r2), .val (.int k2), .val (.int k0), .val (.ref b1), .val (.ref b2), .val (.ref b2), .unset, .unset] [(.int a)])) rfl (by rw [hml]; rfl) (argsL := [(.int a)]) (rest := []) (lenOf pd_3 rfl) rfl (by show 2 * 0 + _ ≤ _; exact Nat.le_of_eq rfl) (hb hby at_84) (fun _ _ => ⟨rfl, rfl, (by decide : ((0 + 1) + 1) + 1 ≤ _), (by decide : ((0 + 2) + 2) + 1 ≤ _)⟩)
        dsimp only [Pt.U, Pt.locs, Pt.cells, Pt.slots] at X9 l9 y9 z9 st9 hQ9
        subst l9 y9 z9
        obtain ⟨ob, rfl, N9q, Ex9, E_ob⟩ := hQ9
        have N9 := Fr.app N4 N9q
        have E_b1 := E_b1.ext Ex9
        have F_b1_rows := F_b1_rows.ext Ex9
        have F_b1_columns := F_b1_columns.ext Ex9
        have E_b2 := E_b2.ext Ex9
        have F_b2_rows := F_b2_rows.ext Ex9
        have F_b2_columns := F_b2_columns.ext Ex9
        have EX := own_ext_trans EX Ex9
        refine Go.by (S' := T9.setTop (mkF m 87 #[.val (.int a), .val (.int b), .val (.int c_), .val (.int d_), .val (.int x4), .val (.int r2), .val (.int k2), .val (.int k0), .val (.ref b1), .val (.ref b2), .val (.ref b2), .unset, .unset] [(.ref ob)])) st9 ?_
        refine Go.by (S' := T9.setTop (mkF m 89 #[.val (.int a), .val (.int b), .val (.int c_), .val (.int d_), .val (.int x4), .val (.int r2), .val (.int k2), .val (.int k0), .val (.ref b1), .val (.ref b2), .val (.ref ob), .unset, .unset] [])) (fun _ kt => XS.astore X9.here hx rfl (hb hby at_87) rfl rfl (l' := #[.val (.int a), .val (.int b), .val (.int c_), .val (.int d_), .val (.int x4), .val (.int r2), .val (.int k2), .val (.int k0), .val (.ref b1), .val (.ref b2), .val (.ref ob), .unset, .unset]) rfl  kt) ?_
        refine Go.by (S' := T9.setTop (mkF m 111 #[.val (.int a), .val (.int b), .val (.int c_), .val (.int d_), .val (.int x4), .val (.int r2), .val (.int k2), .val (.int k0), .val (.ref b1), .val (.ref b2), .val (.ref ob), .unset, .unset] [])) (fun _ kt => XS.goto X9.here hx rfl (pc0 := 89) (pc' := 111) rfl (hb hby at_89) (by decide) (by decide)  kt) ?_
        refine Go.by (S' := T9.setTop (mkF m 113 #[.val (.int a), .val (.int b), .val (.int c_), .val (.int d_), .val (.int x4), .val (.int r2), .val (.int k2), .val (.int k0), .val (.ref b1), .val (.ref b2), .val (.ref ob), .unset, .unset] [(.int k0)])) (fun _ kt => XS.iload X9.here hx rfl (hb hby at_111) rfl  kt) ?_
        refine Go.by (S' := T9.setTop (mkF m 114 #[.val (.int a), .val (.int b), .val (.int c_), .val (.int d_), .val (.int x4), .val (.int r2), .val (.int k2), .val (.int k0), .val (.ref b1), .val (.ref b2), .val (.ref ob), .unset, .unset] [(.int (1 : Int32)), (.int k0)])) (fun _ kt => XT.iconstV X9.here hx rfl (1 : Int32) (hb hby at_113) (by decide)  kt) ?_
        refine Go.by (S' := T9.setTop (mkF m 117 #[.val (.int a), .val (.int b), .val (.int c_), .val (.int d_), .val (.int x4), .val (.int r2), .val (.int k2), .val (.int k0), .val (.ref b1), .val (.ref b2), .val (.ref ob), .unset, .unset] [])) (fun _ kt => XS.icmpNo X9.here hx rfl (hb hby at_114) rfl (XT.ii_eq_f hc68_5)  kt) ?_
        refine Go.by (S' := T9.setTop (mkF m 119 #[.val (.int a), .val (.int b), .val (.int c_), .val (.int d_), .val (.int x4), .val (.int r2), .val (.int k2), .val (.int k0), .val (.ref b1), .val (.ref b2), .val (.ref ob), .unset, .unset] [(.int k0)])) (fun _ kt => XS.iload X9.here hx rfl (hb hby at_117) rfl  kt) ?_
        refine Go.by (S' := T9.setTop (mkF m 120 #[.val (.int a), .val (.int b), .val (.int c_), .val (.int d_), .val (.int x4), .val (.int r2), .val (.int k2), .val (.int k0), .val (.ref b1), .val (.ref b2), .val (.ref ob), .unset, .unset] [(.int (2 : Int32)), (.int k0)])) (fun _ kt => XT.iconstV X9.here hx rfl (2 : Int32) (hb hby at_119) (by decide)  kt) ?_
        refine Go.by (S' := T9.setTop (mkF m 133 #[.val (.int a), .val (.int b), .val (.int c_), .val (.int d_), .val (.int x4), .val (.int r2), .val (.int k2), .val (.int k0), .val (.ref b1), .val (.ref b2), .val (.ref ob), .unset, .unset] [])) (fun _ kt => XS.icmpYes X9.here hx rfl (pc0 := 120) (pc' := 133) rfl (hb hby at_120) rfl (XT.ii_eq_t hc80_8) (by decide) (by decide)  kt) ?_
        refine Go.by (S' := T9.setTop (mkF m 134 #[.val (.int a), .val (.int b), .val (.int c_), .val (.int d_), .val (.int x4), .val (.int r2), .val (.int k2), .val (.int k0), .val (.ref b1), .val (.ref b2), .val (.ref ob), .unset, .unset] [(.int (0 : Int32))])) (fun _ kt => XT.iconstV X9.here hx rfl (0 : Int32) (hb hby at_133) (by decide)  kt) ?_
        refine Go.by (S' := T9.setTop (mkF m 136 #[.val (.int a), .val (.int b), .val (.int c_), .val (.int d_), .val (.int x4), .val (.int r2), .val (.int k2), .val (.int k0), .val (.ref b1), .val (.ref b2), .val (.ref ob), .val (.int (0 : Int32)), .unset] [])) (fun _ kt => XS.istore X9.here hx rfl (hb hby at_134) rfl (l' := #[.val (.int a), .val (.int b), .val (.int c_), .val (.int d_), .val (.int x4), .val (.int r2), .val (.int k2), .val (.int k0), .val (.ref b1), .val (.ref b2), .val (.ref ob), .val (.int (0 : Int32)), .unset]) rfl  kt) ?_
        refine Go.by (S' := T9.setTop (mkF m 138 #[.val (.int a), .val (.int b), .val (.int c_), .val (.int d_), .val (.int x4), .val (.int r2), .val (.int k2), .val (.int k0), .val (.ref b1), .val (.ref b2), .val (.ref ob), .val (.int (0 : Int32)), .unset] [(.int (0 : Int32))])) (fun _ kt => XS.iload X9.here hx rfl (hb hby at_136) rfl  kt) ?_
        refine Go.by (S' := T9.setTop (mkF m 157 #[.val (.int a), .val (.int b), .val (.int c_), .val (.int d_), .val (.int x4), .val (.int r2), .val (.int k2), .val (.int k0), .val (.ref b1), .val (.ref b2), .val (.ref ob), .val (.int (0 : Int32)), .unset] [])) (fun _ kt => XS.ifYes X9.here hx rfl (pc0 := 138) (pc' := 157) rfl (hb hby at_138) rfl (XT.i0_eq_t (by decide)) (by decide) (by decide)  kt) ?_
        refine Go.by (S' := T9.setTop (mkF m 158 #[.val (.int a), .val (.int b), .val (.int c_), .val (.int d_), .val (.int x4), .val (.int r2), .val (.int k2), .val (.int k0), .val (.ref b1), .val (.ref b2), .val (.ref ob), .val (.int (0 : Int32)), .unset] [(.int (0 : Int32))])) (fun _ kt => XT.iconstV X9.here hx rfl (0 : Int32) (hb hby at_157) (by decide)  kt) ?_
        refine Go.by (S' := T9.setTop (mkF m 160 #[.val (.int a), .val (.int b), .val (.int c_), .val (.int d_), .val (.int x4), .val (.int r2), .val (.int k2), .val (.int k0), .val (.ref b1), .val (.ref b2), .val (.ref ob), .val (.int (0 : Int32)), .val (.int (0 : Int32))] [])) (fun _ kt => XS.istore X9.here hx rfl (hb hby at_158) rfl (l' := #[.val (.int a), .val (.int b), .val (.int c_), .val (.int d_), .val (.int x4), .val (.int r2), .val (.int k2), .val (.int k0), .val (.ref b1), .val (.ref b2), .val (.ref ob), .val (.int (0 : Int32)), .val (.int (0 : Int32))]) rfl  kt) ?_
        refine Go.by (S' := T9.setTop (mkF m 162 #[.val (.int a), .val (.int b), .val (.int c_), .val (.int d_), .val (.int x4), .val (.int r2), .val (.int k2), .val (.int k0), .val (.ref b1), .val (.ref b2), .val (.ref ob), .val (.int (0 : Int32)), .val (.int (0 : Int32))] [(.ref b1)])) (fun _ kt => XS.aload X9.here hx rfl (hb hby at_160) rfl rfl  kt) ?_
        refine Go.by (S' := T9.setTop (mkF m 164 #[.val (.int a), .val (.int b), .val (.int c_), .val (.int d_), .val (.int x4), .val (.int r2), .val (.int k2), .val (.int k0), .val (.ref b1), .val (.ref b2), .val (.ref ob), .val (.int (0 : Int32)), .val (.int (0 : Int32))] [(.ref ob), (.ref b1)])) (fun _ kt => XS.aload X9.here hx rfl (hb hby at_162) rfl rfl  kt) ?_
        obtain ⟨cq10, kq10, q10a, q10b, q10c⟩ := isOf hZ rfl (E_b1)
        obtain ⟨_, _, ⟨T10, L10, k10, n10⟩, -, X10, ⟨Lc10, hQ10, l10, y10, z10⟩, st10⟩ := X9.virtualBack hx (y := (⟨"com/example/meshwright/meshwright/Architecture$Mesh", "equals", "(Ljava/lang/Object;)Z"⟩ : MethodName)) (z := (⟨"com/example/meshwright/meshwright/Architecture$Mesh", "equals", "(Ljava/lang/Object;)Z"⟩ : MethodName)) hown (mvT hZ (hw _ (List.mem_of_getElem? (i := 18) rfl))) (mvT hZ (hw _ (List.mem_of_getElem? (i := 19) rfl))) (notFace_of_selects (args := #[]) (mvT hZ (hw _ (List.mem_of_getElem? (i := 21) rfl)))) (mvT hZ (hw _ (List.mem_of_getElem? (i := 21) rfl))) (mvT hZ (hw _ (List.mem_of_getElem? (i := 20) rfl))) (by decide) (backOf (W := 0) (rm4o l Z a0 hw [] b1 ob "java/lang/Integer" T9.heap n0 E_ob noI) hZ (hw _ (List.mem_of_getElem? (i := 22) rfl)) (hw _ (List.mem_of_getElem? (i := 2) rfl)) (by decide) (by decide)) q10a q10c (g := (mkF m 164 #[.val (.int a), .val (.int b), .val (.int c_), .val (.int d_), .val (.int x4), .val (.int r2), .val (.int k2), .val (.int k0), .val (.ref b1), .val (.ref b2), .val (.ref ob), .val (.int (0 : Int32)), .val (.int (0 : Int32))] [(.ref ob), (.ref b1)])) rfl (by rw [hml]; rfl) (Steps.refl _) (argsL := [(.ref ob)]) (rest := []) (lenOf pd_2 rfl) rfl (by show 2 * 0 + _ ≤ _; exact Nat.le_of_eq rfl) (hb hby at_164) (fun _ _ => ⟨rfl, rfl, (by decide : ((0 + 1) + 1) + 1 + 0 ≤ _), (by decide : ((0 + 2) + 2) + 1 + 0 ≤ _)⟩)
        dsimp only [Pt.U, Pt.locs, Pt.cells, Pt.slots] at X10 l10 y10 z10 st10 hQ10
        subst l10 y10 z10
        obtain ⟨rfl, N10q, e10⟩ := hQ10
        have N10 := Fr.app N9 N10q
        refine Go.at (S' := T10.setTop (mkF m 167 #[.val (.int a), .val (.int b), .val (.int c_), .val (.int d_), .val (.int x4), .val (.int r2), .val (.int k2), .val (.int k0), .val (.ref b1), .val (.ref b2), .val (.ref ob), .val (.int (0 : Int32)), .val (.int (0 : Int32))] [(.int (0 : Int32))])) st10 ?_
        refine Go.by (S' := T10.setTop (mkF m 169 #[.val (.int a), .val (.int b), .val (.int c_), .val (.int d_), .val (.int x4), .val (.int r2), .val (.int k2), .val (.int k0), .val (.ref b1), .val (.ref b2), .val (.ref ob), .val (.int (0 : Int32)), .val (.int (0 : Int32))] [(.int (0 : Int32)), (.int (0 : Int32))])) (fun _ kt => XS.iload X10.here hx rfl (hb hby at_167) rfl  kt) ?_
        refine Go.by (S' := T10.setTop (mkF m 172 #[.val (.int a), .val (.int b), .val (.int c_), .val (.int d_), .val (.int x4), .val (.int r2), .val (.int k2), .val (.int k0), .val (.ref b1), .val (.ref b2), .val (.ref ob), .val (.int (0 : Int32)), .val (.int (0 : Int32))] [])) (fun _ kt => XS.icmpNo X10.here hx rfl (hb hby at_169) rfl (XT.ii_ne_f (by decide))  kt) ?_
        refine Go.by (S' := T10.setTop (mkF m 174 #[.val (.int a), .val (.int b), .val (.int c_), .val (.int d_), .val (.int x4), .val (.int r2), .val (.int k2), .val (.int k0), .val (.ref b1), .val (.ref b2), .val (.ref ob), .val (.int (0 : Int32)), .val (.int (0 : Int32))] [(.ref b1)])) (fun _ kt => XS.aload X10.here hx rfl (hb hby at_172) rfl rfl  kt) ?_
        refine Go.by (S' := T10.setTop (mkF m 176 #[.val (.int a), .val (.int b), .val (.int c_), .val (.int d_), .val (.int x4), .val (.int r2), .val (.int k2), .val (.int k0), .val (.ref b1), .val (.ref b2), .val (.ref ob), .val (.int (0 : Int32)), .val (.int (0 : Int32))] [(.ref b1), (.ref b1)])) (fun _ kt => XS.aload X10.here hx rfl (hb hby at_174) rfl rfl  kt) ?_
        obtain ⟨cq11, kq11, q11a, q11b, q11c⟩ := isOf hZ e10 (E_b1)
        obtain ⟨_, _, ⟨T11, L11, k11, n11⟩, -, X11, ⟨Lc11, hQ11, l11, y11, z11⟩, st11⟩ := X10.virtualBack hx (y := (⟨"com/example/meshwright/meshwright/Architecture$Mesh", "equals", "(Ljava/lang/Object;)Z"⟩ : MethodName)) (z := (⟨"com/example/meshwright/meshwright/Architecture$Mesh", "equals", "(Ljava/lang/Object;)Z"⟩ : MethodName)) hown (mvT hZ (hw _ (List.mem_of_getElem? (i := 18) rfl))) (mvT hZ (hw _ (List.mem_of_getElem? (i := 19) rfl))) (notFace_of_selects (args := #[]) (mvT hZ (hw _ (List.mem_of_getElem? (i := 21) rfl)))) (mvT hZ (hw _ (List.mem_of_getElem? (i := 21) rfl))) (mvT hZ (hw _ (List.mem_of_getElem? (i := 20) rfl))) (by decide) (backOf (W := 0) (rm4m l Z a0 hw [] b1 b1 a b a b T9.heap n0 F_b1_rows F_b1_columns F_b1_rows F_b1_columns E_b1) hZ (hw _ (List.mem_of_getElem? (i := 22) rfl)) (hw _ (List.mem_of_getElem? (i := 2) rfl)) (by decide) (by decide)) q11a q11c (g := (mkF m 176 #[.val (.int a), .val (.int b), .val (.int c_), .val (.int d_), .val (.int x4), .val (.int r2), .val (.int k2), .val (.int k0), .val (.ref b1), .val (.ref b2), .val (.ref ob), .val (.int (0 : Int32)), .val (.int (0 : Int32))] [(.ref b1), (.ref b1)])) rfl (by rw [hml]; rfl) (Steps.refl _) (argsL := [(.ref b1)]) (rest := []) (lenOf pd_2 rfl) rfl (by show 2 * 0 + _ ≤ _; exact Nat.le_of_eq rfl) (hb hby at_176) (fun _ _ => ⟨rfl, e10, (by decide : ((0 + 1) + 1) + 1 + 0 ≤ _), (by decide : ((0 + 2) + 2) + 1 + 0 ≤ _)⟩)
        dsimp only [Pt.U, Pt.locs, Pt.cells, Pt.slots] at X11 l11 y11 z11 st11 hQ11
        subst l11 y11 z11
        obtain ⟨rfl, N11q, e11⟩ := hQ11
        have N11 := Fr.app N10 N11q
        refine Go.at (S' := T11.setTop (mkF m 179 #[.val (.int a), .val (.int b), .val (.int c_), .val (.int d_), .val (.int x4), .val (.int r2), .val (.int k2), .val (.int k0), .val (.ref b1), .val (.ref b2), .val (.ref ob), .val (.int (0 : Int32)), .val (.int (0 : Int32))] [(.int (if a = a ∧ b = b then 1 else 0))])) st11 ?_
        refine Go.by (S' := T11.setTop (mkF m 182 #[.val (.int a), .val (.int b), .val (.int c_), .val (.int d_), .val (.int x4), .val (.int r2), .val (.int k2), .val (.int k0), .val (.ref b1), .val (.ref b2), .val (.ref ob), .val (.int (0 : Int32)), .val (.int (0 : Int32))] [])) (fun _ kt => XS.ifNo X11.here hx rfl (hb hby at_179) rfl (XT.i0_eq_f (by simp))  kt) ?_
        refine Go.by (S' := T11.setTop (mkF m 183 #[.val (.int a), .val (.int b), .val (.int c_), .val (.int d_), .val (.int x4), .val (.int r2), .val (.int k2), .val (.int k0), .val (.ref b1), .val (.ref b2), .val (.ref ob), .val (.int (0 : Int32)), .val (.int (0 : Int32))] [(.int (1 : Int32))])) (fun _ kt => XT.iconstV X11.here hx rfl (1 : Int32) (hb hby at_182) (by decide)  kt) ?_
        refine Go.by (S' := T11.setTop (mkF m 187 #[.val (.int a), .val (.int b), .val (.int c_), .val (.int d_), .val (.int x4), .val (.int r2), .val (.int k2), .val (.int k0), .val (.ref b1), .val (.ref b2), .val (.ref ob), .val (.int (0 : Int32)), .val (.int (0 : Int32))] [(.int (1 : Int32))])) (fun _ kt => XS.goto X11.here hx rfl (pc0 := 183) (pc' := 187) rfl (hb hby at_183) (by decide) (by decide)  kt) ?_
        refine goRet X11 (v := some (.int (nar .boolean (1 : Int32)))) (fun h => by rw [Bd.returns] at h; cases h) Bd.notSynchronized (fun fs hr => retN X11 hx (t := .boolean) Bd.returns (by simp) (hb hby at_187) hr) (by decide) (by decide) ?_
        exact ⟨by simp [own_n1], N11⟩
      · refine Go.by (S' := T4.setTop (mkF m 92 #[.val (.int a), .val (.int b), .val (.int c_), .val (.int d_), .val (.int x4), .val (.int r2), .val (.int k2), .val (.int k0), .val (.ref b1), .val (.ref b2), .val (.ref b2), .unset, .unset] [])) (fun _ kt => XS.icmpYes X4.here hx rfl (pc0 := 80) (pc' := 92) rfl (hb hby at_80) rfl (XT.ii_ne_t hc80_8) (by decide) (by decide)  kt) ?_
        refine Go.by (S' := T4.setTop (mkF m 94 #[.val (.int a), .val (.int b), .val (.int c_), .val (.int d_), .val (.int x4), .val (.int r2), .val (.int k2), .val (.int k0), .val (.ref b1), .val (.ref b2), .val (.ref b2), .unset, .unset] [(.int k0)])) (fun _ kt => XS.iload X4.here hx rfl (hb hby at_92) rfl  kt) ?_
        refine Go.by (S' := T4.setTop (mkF m 95 #[.val (.int a), .val (.int b), .val (.int c_), .val (.int d_), .val (.int x4), .val (.int r2), .val (.int k2), .val (.int k0), .val (.ref b1), .val (.ref b2), .val (.ref b2), .unset, .unset] [(.int (3 : Int32)), (.int k0)])) (fun _ kt => XT.iconstV X4.here hx rfl (3 : Int32) (hb hby at_94) (by decide)  kt) ?_
        by_cases hc95_12 : k0 = (3 : Int32)
        · refine Go.by (S' := T4.setTop (mkF m 98 #[.val (.int a), .val (.int b), .val (.int c_), .val (.int d_), .val (.int x4), .val (.int r2), .val (.int k2), .val (.int k0), .val (.ref b1), .val (.ref b2), .val (.ref b2), .unset, .unset] [])) (fun _ kt => XS.icmpNo X4.here hx rfl (hb hby at_95) rfl (XT.ii_ne_f hc95_12)  kt) ?_
          obtain ⟨T13, h13, X13, e13, Ex13, A13, D13, -, st13⟩ := newO X4 hx hZ hown (hw _ (List.mem_of_getElem? (i := 49) rfl)) (hw _ (List.mem_of_getElem? (i := 50) rfl)) (hw _ (List.mem_of_getElem? (i := 51) rfl)) rfl (g := (mkF m 98 #[.val (.int a), .val (.int b), .val (.int c_), .val (.int d_), .val (.int x4), .val (.int r2), .val (.int k2), .val (.int k0), .val (.ref b1), .val (.ref b2), .val (.ref b2), .unset, .unset] [])) rfl (hb hby at_98) (by decide) (by decide)
          obtain ⟨b3, gg_b3⟩ : ∃ z, z = T4.heap.size := ⟨_, rfl⟩
          rw [← gg_b3] at A13 D13 st13
          have lt_b1_b3 : b1 < b3 := by rw [gg_b3]; exact E_b1.lt
          have lt_b2_b3 : b2 < b3 := by rw [gg_b3]; exact E_b2.lt
          have sz_b3 : h0.size ≤ b3 := by rw [gg_b3]; exact EX.1
          have g_b3 : n0 ≤ b3 := Nat.le_trans Z0 sz_b3
          have EX := own_ext_trans EX Ex13
          have E_b1 := E_b1.ext Ex13
          have F_b1_rows := F_b1_rows.ext Ex13
          have F_b1_columns := F_b1_columns.ext Ex13
          have E_b2 := E_b2.ext Ex13
          have F_b2_rows := F_b2_rows.ext Ex13
          have F_b2_columns := F_b2_columns.ext Ex13
          have E_b3 := A13
          have F_b3_values : Fld Z h13 b3 "com/example/meshwright/meshwright/Architecture$Holding" "values" "I" (.int (0 : Int32)) := D13 (Or.inr (hw _ (List.mem_of_getElem? (i := 57) rfl))) (ty := .int) (by decide)
          have F_b3_cycles : Fld Z h13 b3 "com/example/meshwright/meshwright/Architecture$Holding" "cycles" "I" (.int (0 : Int32)) := D13 (Or.inr (hw _ (List.mem_of_getElem? (i := 59) rfl))) (ty := .int) (by decide)
          refine Go.by (S' := T13.setTop (mkF m 101 #[.val (.int a), .val (.int b), .val (.int c_), .val (.int d_), .val (.int x4), .val (.int r2), .val (.int k2), .val (.int k0), .val (.ref b1), .val (.ref b2), .val (.ref b2), .unset, .unset] [(.ref b3)])) st13 ?_
          refine Go.by (S' := T13.setTop (mkF m 102 #[.val (.int a), .val (.int b), .val (.int c_), .val (.int d_), .val (.int x4), .val (.int r2), .val (.int k2), .val (.int k0), .val (.ref b1), .val (.ref b2), .val (.ref b2), .unset, .unset] [(.ref b3), (.ref b3)])) (fun _ kt => XS.dup X13.here hx rfl (hb hby at_101) rfl rfl  kt) ?_
          refine Go.by (S' := T13.setTop (mkF m 104 #[.val (.int a), .val (.int b), .val (.int c_), .val (.int d_), .val (.int x4), .val (.int r2), .val (.int k2), .val (.int k0), .val (.ref b1), .val (.ref b2), .val (.ref b2), .unset, .unset] [(.int r2), (.ref b3), (.ref b3)])) (fun _ kt => XS.iload X13.here hx rfl (hb hby at_102) rfl  kt) ?_
          refine Go.by (S' := T13.setTop (mkF m 106 #[.val (.int a), .val (.int b), .val (.int c_), .val (.int d_), .val (.int x4), .val (.int r2), .val (.int k2), .val (.int k0), .val (.ref b1), .val (.ref b2), .val (.ref b2), .unset, .unset] [(.int k2), (.int r2), (.ref b3), (.ref b3)])) (fun _ kt => XS.iload X13.here hx rfl (hb hby at_104) rfl  kt) ?_
          obtain ⟨_, _, ⟨T14, L14, k14, n14⟩, -, X14, ⟨Lc14, hQ14, l14, y14, z14⟩, st14⟩ := X13.specialBack hx (y := (⟨"com/example/meshwright/meshwright/Architecture$Holding", "<init>", "(II)V"⟩ : MethodName)) rfl hown (mvT hZ (hw _ (List.mem_of_getElem? (i := 52) rfl))) (mvT hZ (hw _ (List.mem_of_getElem? (i := 53) rfl))) (mvT hZ (hw _ (List.mem_of_getElem? (i := 54) rfl))) (by decide) (backOf (W := 1) (rm8 l Z a0 hw [] b3 r2 k2 h13 n0 F_b3_values F_b3_cycles E_b3 g_b3) hZ (hw _ (List.mem_of_getElem? (i := 54) rfl)) (hw _ (List.mem_of_getElem? (i := 51) rfl)) (by decide) (by decide)) (g := (mkF m 106 #[.val (.int a), .val (.int b), .val (.int c_), .val (.int d_), .val (.int x4), .val (.int r2), .val (.int k2), .val (.int k0), .val (.ref b1), .val (.ref b2), .val (.ref b2), .unset, .unset] [(.int k2), (.int r2), (.ref b3), (.ref b3)])) rfl (by rw [hml]; rfl) (Steps.refl _) (a := b3) (argsL := [(.int r2), (.int k2)]) (rest := [(.ref b3)]) (lenOf pd_0 rfl) rfl (by show 2 * 0 + _ ≤ _; exact Nat.le_of_eq rfl) (hb hby at_106) (fun _ _ => ⟨rfl, e13, (by decide : (((0 + 1) + 1) + 1) + 0 ≤ _), (by decide : (((0 + 2) + 2) + 2) + 0 ≤ _)⟩)
          dsimp only [Pt.U, Pt.locs, Pt.cells, Pt.slots] at X14 l14 y14 z14 st14 hQ14
          subst l14 y14 z14
          obtain ⟨rfl, N14q, K14, E_b3, F_b3_values, F_b3_cycles⟩ := hQ14
          have N14 := Fr.app N4 N14q
          have E_b1 := E_b1.keep K14
          have F_b1_rows := F_b1_rows.keep K14 (ninS (Nat.ne_of_lt lt_b1_b3) nin0)
          have F_b1_columns := F_b1_columns.keep K14 (ninS (Nat.ne_of_lt lt_b1_b3) nin0)
          have E_b2 := E_b2.keep K14
          have F_b2_rows := F_b2_rows.keep K14 (ninS (Nat.ne_of_lt lt_b2_b3) nin0)
          have F_b2_columns := F_b2_columns.keep K14 (ninS (Nat.ne_of_lt lt_b2_b3) nin0)
          have EX := own_ext_keep EX K14 (allS sz_b3 all0)
          refine Go.at (S' := T14.setTop (mkF m 109 #[.val (.int a), .val (.int b), .val (.int c_), .val (.int d_), .val (.int x4), .val (.int r2), .val (.int k2), .val (.int k0), .val (.ref b1), .val (.ref b2), .val (.ref b2), .unset, .unset] [(.ref b3)])) st14 ?_
          refine Go.by (S' := T14.setTop (mkF m 111 #[.val (.int a), .val (.int b), .val (.int c_), .val (.int d_), .val (.int x4), .val (.int r2), .val (.int k2), .val (.int k0), .val (.ref b1), .val (.ref b2), .val (.ref b3), .unset, .unset] [])) (fun _ kt => XS.astore X14.here hx rfl (hb hby at_109) rfl rfl (l' := #[.val (.int a), .val (.int b), .val (.int c_), .val (.int d_), .val (.int x4), .val (.int r2), .val (.int k2), .val (.int k0), .val (.ref b1), .val (.ref b2), .val (.ref b3), .unset, .unset]) rfl  kt) ?_
          refine Go.by (S' := T14.setTop (mkF m 113 #[.val (.int a), .val (.int b), .val (.int c_), .val (.int d_), .val (.int x4), .val (.int r2), .val (.int k2), .val (.int k0), .val (.ref b1), .val (.ref b2), .val (.ref b3), .unset, .unset] [(.int k0)])) (fun _ kt => XS.iload X14.here hx rfl (hb hby at_111) rfl  kt) ?_
          refine Go.by (S' := T14.setTop (mkF m 114 #[.val (.int a), .val (.int b), .val (.int c_), .val (.int d_), .val (.int x4), .val (.int r2), .val (.int k2), .val (.int k0), .val (.ref b1), .val (.ref b2), .val (.ref b3), .unset, .unset] [(.int (1 : Int32)), (.int k0)])) (fun _ kt => XT.iconstV X14.here hx rfl (1 : Int32) (hb hby at_113) (by decide)  kt) ?_
          refine Go.by (S' := T14.setTop (mkF m 117 #[.val (.int a), .val (.int b), .val (.int c_), .val (.int d_), .val (.int x4), .val (.int r2), .val (.int k2), .val (.int k0), .val (.ref b1), .val (.ref b2), .val (.ref b3), .unset, .unset] [])) (fun _ kt => XS.icmpNo X14.here hx rfl (hb hby at_114) rfl (XT.ii_eq_f hc68_5)  kt) ?_
          refine Go.by (S' := T14.setTop (mkF m 119 #[.val (.int a), .val (.int b), .val (.int c_), .val (.int d_), .val (.int x4), .val (.int r2), .val (.int k2), .val (.int k0), .val (.ref b1), .val (.ref b2), .val (.ref b3), .unset, .unset] [(.int k0)])) (fun _ kt => XS.iload X14.here hx rfl (hb hby at_117) rfl  kt) ?_
          refine Go.by (S' := T14.setTop (mkF m 120 #[.val (.int a), .val (.int b), .val (.int c_), .val (.int d_), .val (.int x4), .val (.int r2), .val (.int k2), .val (.int k0), .val (.ref b1), .val (.ref b2), .val (.ref b3), .unset, .unset] [(.int (2 : Int32)), (.int k0)])) (fun _ kt => XT.iconstV X14.here hx rfl (2 : Int32) (hb hby at_119) (by decide)  kt) ?_
          refine Go.by (S' := T14.setTop (mkF m 123 #[.val (.int a), .val (.int b), .val (.int c_), .val (.int d_), .val (.int x4), .val (.int r2), .val (.int k2), .val (.int k0), .val (.ref b1), .val (.ref b2), .val (.ref b3), .unset, .unset] [])) (fun _ kt => XS.icmpNo X14.here hx rfl (hb hby at_120) rfl (XT.ii_eq_f hc80_8)  kt) ?_
          refine Go.by (S' := T14.setTop (mkF m 125 #[.val (.int a), .val (.int b), .val (.int c_), .val (.int d_), .val (.int x4), .val (.int r2), .val (.int k2), .val (.int k0), .val (.ref b1), .val (.ref b2), .val (.ref b3), .unset, .unset] [(.int k0)])) (fun _ kt => XS.iload X14.here hx rfl (hb hby at_123) rfl  kt) ?_
          refine Go.by (S' := T14.setTop (mkF m 126 #[.val (.int a), .val (.int b), .val (.int c_), .val (.int d_), .val (.int x4), .val (.int r2), .val (.int k2), .val (.int k0), .val (.ref b1), .val (.ref b2), .val (.ref b3), .unset, .unset] [(.int (3 : Int32)), (.int k0)])) (fun _ kt => XT.iconstV X14.here hx rfl (3 : Int32) (hb hby at_125) (by decide)  kt) ?_
          refine Go.by (S' := T14.setTop (mkF m 133 #[.val (.int a), .val (.int b), .val (.int c_), .val (.int d_), .val (.int x4), .val (.int r2), .val (.int k2), .val (.int k0), .val (.ref b1), .val (.ref b2), .val (.ref b3), .unset, .unset] [])) (fun _ kt => XS.icmpYes X14.here hx rfl (pc0 := 126) (pc' := 133) rfl (hb hby at_126) rfl (XT.ii_eq_t hc95_12) (by decide) (by decide)  kt) ?_
          refine Go.by (S' := T14.setTop (mkF m 134 #[.val (.int a), .val (.int b), .val (.int c_), .val (.int d_), .val (.int x4), .val (.int r2), .val (.int k2), .val (.int k0), .val (.ref b1), .val (.ref b2), .val (.ref b3), .unset, .unset] [(.int (0 : Int32))])) (fun _ kt => XT.iconstV X14.here hx rfl (0 : Int32) (hb hby at_133) (by decide)  kt) ?_
          refine Go.by (S' := T14.setTop (mkF m 136 #[.val (.int a), .val (.int b), .val (.int c_), .val (.int d_), .val (.int x4), .val (.int r2), .val (.int k2), .val (.int k0), .val (.ref b1), .val (.ref b2), .val (.ref b3), .val (.int (0 : Int32)), .unset] [])) (fun _ kt => XS.istore X14.here hx rfl (hb hby at_134) rfl (l' := #[.val (.int a), .val (.int b), .val (.int c_), .val (.int d_), .val (.int x4), .val (.int r2), .val (.int k2), .val (.int k0), .val (.ref b1), .val (.ref b2), .val (.ref b3), .val (.int (0 : Int32)), .unset]) rfl  kt) ?_
          refine Go.by (S' := T14.setTop (mkF m 138 #[.val (.int a), .val (.int b), .val (.int c_), .val (.int d_), .val (.int x4), .val (.int r2), .val (.int k2), .val (.int k0), .val (.ref b1), .val (.ref b2), .val (.ref b3), .val (.int (0 : Int32)), .unset] [(.int (0 : Int32))])) (fun _ kt => XS.iload X14.here hx rfl (hb hby at_136) rfl  kt) ?_
          refine Go.by (S' := T14.setTop (mkF m 157 #[.val (.int a), .val (.int b), .val (.int c_), .val (.int d_), .val (.int x4), .val (.int r2), .val (.int k2), .val (.int k0), .val (.ref b1), .val (.ref b2), .val (.ref b3), .val (.int (0 : Int32)), .unset] [])) (fun _ kt => XS.ifYes X14.here hx rfl (pc0 := 138) (pc' := 157) rfl (hb hby at_138) rfl (XT.i0_eq_t (by decide)) (by decide) (by decide)  kt) ?_
          refine Go.by (S' := T14.setTop (mkF m 158 #[.val (.int a), .val (.int b), .val (.int c_), .val (.int d_), .val (.int x4), .val (.int r2), .val (.int k2), .val (.int k0), .val (.ref b1), .val (.ref b2), .val (.ref b3), .val (.int (0 : Int32)), .unset] [(.int (0 : Int32))])) (fun _ kt => XT.iconstV X14.here hx rfl (0 : Int32) (hb hby at_157) (by decide)  kt) ?_
          refine Go.by (S' := T14.setTop (mkF m 160 #[.val (.int a), .val (.int b), .val (.int c_), .val (.int d_), .val (.int x4), .val (.int r2), .val (.int k2), .val (.int k0), .val (.ref b1), .val (.ref b2), .val (.ref b3), .val (.int (0 : Int32)), .val (.int (0 : Int32))] [])) (fun _ kt => XS.istore X14.here hx rfl (hb hby at_158) rfl (l' := #[.val (.int a), .val (.int b), .val (.int c_), .val (.int d_), .val (.int x4), .val (.int r2), .val (.int k2), .val (.int k0), .val (.ref b1), .val (.ref b2), .val (.ref b3), .val (.int (0 : Int32)), .val (.int (0 : Int32))]) rfl  kt) ?_
          refine Go.by (S' := T14.setTop (mkF m 162 #[.val (.int a), .val (.int b), .val (.int c_), .val (.int d_), .val (.int x4), .val (.int r2), .val (.int k2), .val (.int k0), .val (.ref b1), .val (.ref b2), .val (.ref b3), .val (.int (0 : Int32)), .val (.int (0 : Int32))] [(.ref b1)])) (fun _ kt => XS.aload X14.here hx rfl (hb hby at_160) rfl rfl  kt) ?_
          refine Go.by (S' := T14.setTop (mkF m 164 #[.val (.int a), .val (.int b), .val (.int c_), .val (.int d_), .val (.int x4), .val (.int r2), .val (.int k2), .val (.int k0), .val (.ref b1), .val (.ref b2), .val (.ref b3), .val (.int (0 : Int32)), .val (.int (0 : Int32))] [(.ref b3), (.ref b1)])) (fun _ kt => XS.aload X14.here hx rfl (hb hby at_162) rfl rfl  kt) ?_
          obtain ⟨cq15, kq15, q15a, q15b, q15c⟩ := isOf hZ rfl (E_b1)
          obtain ⟨_, _, ⟨T15, L15, k15, n15⟩, -, X15, ⟨Lc15, hQ15, l15, y15, z15⟩, st15⟩ := X14.virtualBack hx (y := (⟨"com/example/meshwright/meshwright/Architecture$Mesh", "equals", "(Ljava/lang/Object;)Z"⟩ : MethodName)) (z := (⟨"com/example/meshwright/meshwright/Architecture$Mesh", "equals", "(Ljava/lang/Object;)Z"⟩ : MethodName)) hown (mvT hZ (hw _ (List.mem_of_getElem? (i := 18) rfl))) (mvT hZ (hw _ (List.mem_of_getElem? (i := 19) rfl))) (notFace_of_selects (args := #[]) (mvT hZ (hw _ (List.mem_of_getElem? (i := 21) rfl)))) (mvT hZ (hw _ (List.mem_of_getElem? (i := 21) rfl))) (mvT hZ (hw _ (List.mem_of_getElem? (i := 20) rfl))) (by decide) (backOf (W := 0) (rm4o l Z a0 hw [] b1 b3 "com/example/meshwright/meshwright/Architecture$Holding" T14.heap n0 E_b3 noH) hZ (hw _ (List.mem_of_getElem? (i := 22) rfl)) (hw _ (List.mem_of_getElem? (i := 2) rfl)) (by decide) (by decide)) q15a q15c (g := (mkF m 164 #[.val (.int a), .val (.int b), .val (.int c_), .val (.int d_), .val (.int x4), .val (.int r2), .val (.int k2), .val (.int k0), .val (.ref b1), .val (.ref b2), .val (.ref b3), .val (.int (0 : Int32)), .val (.int (0 : Int32))] [(.ref b3), (.ref b1)])) rfl (by rw [hml]; rfl) (Steps.refl _) (argsL := [(.ref b3)]) (rest := []) (lenOf pd_2 rfl) rfl (by show 2 * 0 + _ ≤ _; exact Nat.le_of_eq rfl) (hb hby at_164) (fun _ _ => ⟨rfl, rfl, (by decide : (((0 + 1) + 1) + 1) + 0 ≤ _), (by decide : (((0 + 2) + 2) + 2) + 0 ≤ _)⟩)
          dsimp only [Pt.U, Pt.locs, Pt.cells, Pt.slots] at X15 l15 y15 z15 st15 hQ15
          subst l15 y15 z15
          obtain ⟨rfl, N15q, e15⟩ := hQ15
          have N15 := Fr.app N14 N15q
          refine Go.at (S' := T15.setTop (mkF m 167 #[.val (.int a), .val (.int b), .val (.int c_), .val (.int d_), .val (.int x4), .val (.int r2), .val (.int k2), .val (.int k0), .val (.ref b1), .val (.ref b2), .val (.ref b3), .val (.int (0 : Int32)), .val (.int (0 : Int32))] [(.int (0 : Int32))])) st15 ?_
          refine Go.by (S' := T15.setTop (mkF m 169 #[.val (.int a), .val (.int b), .val (.int c_), .val (.int d_), .val (.int x4), .val (.int r2), .val (.int k2), .val (.int k0), .val (.ref b1), .val (.ref b2), .val (.ref b3), .val (.int (0 : Int32)), .val (.int (0 : Int32))] [(.int (0 : Int32)), (.int (0 : Int32))])) (fun _ kt => XS.iload X15.here hx rfl (hb hby at_167) rfl  kt) ?_
          refine Go.by (S' := T15.setTop (mkF m 172 #[.val (.int a), .val (.int b), .val (.int c_), .val (.int d_), .val (.int x4), .val (.int r2), .val (.int k2), .val (.int k0), .val (.ref b1), .val (.ref b2), .val (.ref b3), .val (.int (0 : Int32)), .val (.int (0 : Int32))] [])) (fun _ kt => XS.icmpNo X15.here hx rfl (hb hby at_169) rfl (XT.ii_ne_f (by decide))  kt) ?_
          refine Go.by (S' := T15.setTop (mkF m 174 #[.val (.int a), .val (.int b), .val (.int c_), .val (.int d_), .val (.int x4), .val (.int r2), .val (.int k2), .val (.int k0), .val (.ref b1), .val (.ref b2), .val (.ref b3), .val (.int (0 : Int32)), .val (.int (0 : Int32))] [(.ref b1)])) (fun _ kt => XS.aload X15.here hx rfl (hb hby at_172) rfl rfl  kt) ?_
          refine Go.by (S' := T15.setTop (mkF m 176 #[.val (.int a), .val (.int b), .val (.int c_), .val (.int d_), .val (.int x4), .val (.int r2), .val (.int k2), .val (.int k0), .val (.ref b1), .val (.ref b2), .val (.ref b3), .val (.int (0 : Int32)), .val (.int (0 : Int32))] [(.ref b1), (.ref b1)])) (fun _ kt => XS.aload X15.here hx rfl (hb hby at_174) rfl rfl  kt) ?_
          obtain ⟨cq16, kq16, q16a, q16b, q16c⟩ := isOf hZ e15 (E_b1)
          obtain ⟨_, _, ⟨T16, L16, k16, n16⟩, -, X16, ⟨Lc16, hQ16, l16, y16, z16⟩, st16⟩ := X15.virtualBack hx (y := (⟨"com/example/meshwright/meshwright/Architecture$Mesh", "equals", "(Ljava/lang/Object;)Z"⟩ : MethodName)) (z := (⟨"com/example/meshwright/meshwright/Architecture$Mesh", "equals", "(Ljava/lang/Object;)Z"⟩ : MethodName)) hown (mvT hZ (hw _ (List.mem_of_getElem? (i := 18) rfl))) (mvT hZ (hw _ (List.mem_of_getElem? (i := 19) rfl))) (notFace_of_selects (args := #[]) (mvT hZ (hw _ (List.mem_of_getElem? (i := 21) rfl)))) (mvT hZ (hw _ (List.mem_of_getElem? (i := 21) rfl))) (mvT hZ (hw _ (List.mem_of_getElem? (i := 20) rfl))) (by decide) (backOf (W := 0) (rm4m l Z a0 hw [] b1 b1 a b a b T14.heap n0 F_b1_rows F_b1_columns F_b1_rows F_b1_columns E_b1) hZ (hw _ (List.mem_of_getElem? (i := 22) rfl)) (hw _ (List.mem_of_getElem? (i := 2) rfl)) (by decide) (by decide)) q16a q16c (g := (mkF m 176 #[.val (.int a), .val (.int b), .val (.int c_), .val (.int d_), .val (.int x4), .val (.int r2), .val (.int k2), .val (.int k0), .val (.ref b1), .val (.ref b2), .val (.ref b3), .val (.int (0 : Int32)), .val (.int (0 : Int32))] [(.ref b1), (.ref b1)])) rfl (by rw [hml]; rfl) (Steps.refl _) (argsL := [(.ref b1)]) (rest := []) (lenOf pd_2 rfl) rfl (by show 2 * 0 + _ ≤ _; exact Nat.le_of_eq rfl) (hb hby at_176) (fun _ _ => ⟨rfl, e15, (by decide : (((0 + 1) + 1) + 1) + 0 ≤ _), (by decide : (((0 + 2) + 2) + 2) + 0 ≤ _)⟩)
          dsimp only [Pt.U, Pt.locs, Pt.cells, Pt.slots] at X16 l16 y16 z16 st16 hQ16
          subst l16 y16 z16
          obtain ⟨rfl, N16q, e16⟩ := hQ16
          have N16 := Fr.app N15 N16q
          refine Go.at (S' := T16.setTop (mkF m 179 #[.val (.int a), .val (.int b), .val (.int c_), .val (.int d_), .val (.int x4), .val (.int r2), .val (.int k2), .val (.int k0), .val (.ref b1), .val (.ref b2), .val (.ref b3), .val (.int (0 : Int32)), .val (.int (0 : Int32))] [(.int (if a = a ∧ b = b then 1 else 0))])) st16 ?_
          refine Go.by (S' := T16.setTop (mkF m 182 #[.val (.int a), .val (.int b), .val (.int c_), .val (.int d_), .val (.int x4), .val (.int r2), .val (.int k2), .val (.int k0), .val (.ref b1), .val (.ref b2), .val (.ref b3), .val (.int (0 : Int32)), .val (.int (0 : Int32))] [])) (fun _ kt => XS.ifNo X16.here hx rfl (hb hby at_179) rfl (XT.i0_eq_f (by simp))  kt) ?_
          refine Go.by (S' := T16.setTop (mkF m 183 #[.val (.int a), .val (.int b), .val (.int c_), .val (.int d_), .val (.int x4), .val (.int r2), .val (.int k2), .val (.int k0), .val (.ref b1), .val (.ref b2), .val (.ref b3), .val (.int (0 : Int32)), .val (.int (0 : Int32))] [(.int (1 : Int32))])) (fun _ kt => XT.iconstV X16.here hx rfl (1 : Int32) (hb hby at_182) (by decide)  kt) ?_
          refine Go.by (S' := T16.setTop (mkF m 187 #[.val (.int a), .val (.int b), .val (.int c_), .val (.int d_), .val (.int x4), .val (.int r2), .val (.int k2), .val (.int k0), .val (.ref b1), .val (.ref b2), .val (.ref b3), .val (.int (0 : Int32)), .val (.int (0 : Int32))] [(.int (1 : Int32))])) (fun _ kt => XS.goto X16.here hx rfl (pc0 := 183) (pc' := 187) rfl (hb hby at_183) (by decide) (by decide)  kt) ?_
          refine goRet X16 (v := some (.int (nar .boolean (1 : Int32)))) (fun h => by rw [Bd.returns] at h; cases h) Bd.notSynchronized (fun fs hr => retN X16 hx (t := .boolean) Bd.returns (by simp) (hb hby at_187) hr) (by decide) (by decide) ?_
          exact ⟨by simp [own_n1], N16⟩
        · refine Go.by (S' := T4.setTop (mkF m 111 #[.val (.int a), .val (.int b), .val (.int c_), .val (.int d_), .val (.int x4), .val (.int r2), .val (.int k2), .val (.int k0), .val (.ref b1), .val (.ref b2), .val (.ref b2), .unset, .unset] [])) (fun _ kt => XS.icmpYes X4.here hx rfl (pc0 := 95) (pc' := 111) rfl (hb hby at_95) rfl (XT.ii_ne_t hc95_12) (by decide) (by decide)  kt) ?_
          refine Go.by (S' := T4.setTop (mkF m 113 #[.val (.int a), .val (.int b), .val (.int c_), .val (.int d_), .val (.int x4), .val (.int r2), .val (.int k2), .val (.int k0), .val (.ref b1), .val (.ref b2), .val (.ref b2), .unset, .unset] [(.int k0)])) (fun _ kt => XS.iload X4.here hx rfl (hb hby at_111) rfl  kt) ?_
          refine Go.by (S' := T4.setTop (mkF m 114 #[.val (.int a), .val (.int b), .val (.int c_), .val (.int d_), .val (.int x4), .val (.int r2), .val (.int k2), .val (.int k0), .val (.ref b1), .val (.ref b2), .val (.ref b2), .unset, .unset] [(.int (1 : Int32)), (.int k0)])) (fun _ kt => XT.iconstV X4.here hx rfl (1 : Int32) (hb hby at_113) (by decide)  kt) ?_
          refine Go.by (S' := T4.setTop (mkF m 117 #[.val (.int a), .val (.int b), .val (.int c_), .val (.int d_), .val (.int x4), .val (.int r2), .val (.int k2), .val (.int k0), .val (.ref b1), .val (.ref b2), .val (.ref b2), .unset, .unset] [])) (fun _ kt => XS.icmpNo X4.here hx rfl (hb hby at_114) rfl (XT.ii_eq_f hc68_5)  kt) ?_
          refine Go.by (S' := T4.setTop (mkF m 119 #[.val (.int a), .val (.int b), .val (.int c_), .val (.int d_), .val (.int x4), .val (.int r2), .val (.int k2), .val (.int k0), .val (.ref b1), .val (.ref b2), .val (.ref b2), .unset, .unset] [(.int k0)])) (fun _ kt => XS.iload X4.here hx rfl (hb hby at_117) rfl  kt) ?_
          refine Go.by (S' := T4.setTop (mkF m 120 #[.val (.int a), .val (.int b), .val (.int c_), .val (.int d_), .val (.int x4), .val (.int r2), .val (.int k2), .val (.int k0), .val (.ref b1), .val (.ref b2), .val (.ref b2), .unset, .unset] [(.int (2 : Int32)), (.int k0)])) (fun _ kt => XT.iconstV X4.here hx rfl (2 : Int32) (hb hby at_119) (by decide)  kt) ?_
          refine Go.by (S' := T4.setTop (mkF m 123 #[.val (.int a), .val (.int b), .val (.int c_), .val (.int d_), .val (.int x4), .val (.int r2), .val (.int k2), .val (.int k0), .val (.ref b1), .val (.ref b2), .val (.ref b2), .unset, .unset] [])) (fun _ kt => XS.icmpNo X4.here hx rfl (hb hby at_120) rfl (XT.ii_eq_f hc80_8)  kt) ?_
          refine Go.by (S' := T4.setTop (mkF m 125 #[.val (.int a), .val (.int b), .val (.int c_), .val (.int d_), .val (.int x4), .val (.int r2), .val (.int k2), .val (.int k0), .val (.ref b1), .val (.ref b2), .val (.ref b2), .unset, .unset] [(.int k0)])) (fun _ kt => XS.iload X4.here hx rfl (hb hby at_123) rfl  kt) ?_
          refine Go.by (S' := T4.setTop (mkF m 126 #[.val (.int a), .val (.int b), .val (.int c_), .val (.int d_), .val (.int x4), .val (.int r2), .val (.int k2), .val (.int k0), .val (.ref b1), .val (.ref b2), .val (.ref b2), .unset, .unset] [(.int (3 : Int32)), (.int k0)])) (fun _ kt => XT.iconstV X4.here hx rfl (3 : Int32) (hb hby at_125) (by decide)  kt) ?_
          refine Go.by (S' := T4.setTop (mkF m 129 #[.val (.int a), .val (.int b), .val (.int c_), .val (.int d_), .val (.int x4), .val (.int r2), .val (.int k2), .val (.int k0), .val (.ref b1), .val (.ref b2), .val (.ref b2), .unset, .unset] [])) (fun _ kt => XS.icmpNo X4.here hx rfl (hb hby at_126) rfl (XT.ii_eq_f hc95_12)  kt) ?_
          refine Go.by (S' := T4.setTop (mkF m 130 #[.val (.int a), .val (.int b), .val (.int c_), .val (.int d_), .val (.int x4), .val (.int r2), .val (.int k2), .val (.int k0), .val (.ref b1), .val (.ref b2), .val (.ref b2), .unset, .unset] [(.int (1 : Int32))])) (fun _ kt => XT.iconstV X4.here hx rfl (1 : Int32) (hb hby at_129) (by decide)  kt) ?_
          refine Go.by (S' := T4.setTop (mkF m 134 #[.val (.int a), .val (.int b), .val (.int c_), .val (.int d_), .val (.int x4), .val (.int r2), .val (.int k2), .val (.int k0), .val (.ref b1), .val (.ref b2), .val (.ref b2), .unset, .unset] [(.int (1 : Int32))])) (fun _ kt => XS.goto X4.here hx rfl (pc0 := 130) (pc' := 134) rfl (hb hby at_130) (by decide) (by decide)  kt) ?_
          refine Go.by (S' := T4.setTop (mkF m 136 #[.val (.int a), .val (.int b), .val (.int c_), .val (.int d_), .val (.int x4), .val (.int r2), .val (.int k2), .val (.int k0), .val (.ref b1), .val (.ref b2), .val (.ref b2), .val (.int (1 : Int32)), .unset] [])) (fun _ kt => XS.istore X4.here hx rfl (hb hby at_134) rfl (l' := #[.val (.int a), .val (.int b), .val (.int c_), .val (.int d_), .val (.int x4), .val (.int r2), .val (.int k2), .val (.int k0), .val (.ref b1), .val (.ref b2), .val (.ref b2), .val (.int (1 : Int32)), .unset]) rfl  kt) ?_
          refine Go.by (S' := T4.setTop (mkF m 138 #[.val (.int a), .val (.int b), .val (.int c_), .val (.int d_), .val (.int x4), .val (.int r2), .val (.int k2), .val (.int k0), .val (.ref b1), .val (.ref b2), .val (.ref b2), .val (.int (1 : Int32)), .unset] [(.int (1 : Int32))])) (fun _ kt => XS.iload X4.here hx rfl (hb hby at_136) rfl  kt) ?_
          refine Go.by (S' := T4.setTop (mkF m 141 #[.val (.int a), .val (.int b), .val (.int c_), .val (.int d_), .val (.int x4), .val (.int r2), .val (.int k2), .val (.int k0), .val (.ref b1), .val (.ref b2), .val (.ref b2), .val (.int (1 : Int32)), .unset] [])) (fun _ kt => XS.ifNo X4.here hx rfl (hb hby at_138) rfl (XT.i0_eq_f (by decide))  kt) ?_
          refine Go.by (S' := T4.setTop (mkF m 142 #[.val (.int a), .val (.int b), .val (.int c_), .val (.int d_), .val (.int x4), .val (.int r2), .val (.int k2), .val (.int k0), .val (.ref b1), .val (.ref b2), .val (.ref b2), .val (.int (1 : Int32)), .unset] [(.int a)])) (fun _ kt => XS.iloadN X4.here hx rfl (hb hby at_141) rfl  kt) ?_
          refine Go.by (S' := T4.setTop (mkF m 144 #[.val (.int a), .val (.int b), .val (.int c_), .val (.int d_), .val (.int x4), .val (.int r2), .val (.int k2), .val (.int k0), .val (.ref b1), .val (.ref b2), .val (.ref b2), .val (.int (1 : Int32)), .unset] [(.int r2), (.int a)])) (fun _ kt => XS.iload X4.here hx rfl (hb hby at_142) rfl  kt) ?_
          by_cases hc144_17 : a = r2
          · refine Go.by (S' := T4.setTop (mkF m 147 #[.val (.int a), .val (.int b), .val (.int c_), .val (.int d_), .val (.int x4), .val (.int r2), .val (.int k2), .val (.int k0), .val (.ref b1), .val (.ref b2), .val (.ref b2), .val (.int (1 : Int32)), .unset] [])) (fun _ kt => XS.icmpNo X4.here hx rfl (hb hby at_144) rfl (XT.ii_ne_f hc144_17)  kt) ?_
            refine Go.by (S' := T4.setTop (mkF m 148 #[.val (.int a), .val (.int b), .val (.int c_), .val (.int d_), .val (.int x4), .val (.int r2), .val (.int k2), .val (.int k0), .val (.ref b1), .val (.ref b2), .val (.ref b2), .val (.int (1 : Int32)), .unset] [(.int b)])) (fun _ kt => XS.iloadN X4.here hx rfl (hb hby at_147) rfl  kt) ?_
            refine Go.by (S' := T4.setTop (mkF m 150 #[.val (.int a), .val (.int b), .val (.int c_), .val (.int d_), .val (.int x4), .val (.int r2), .val (.int k2), .val (.int k0), .val (.ref b1), .val (.ref b2), .val (.ref b2), .val (.int (1 : Int32)), .unset] [(.int k2), (.int b)])) (fun _ kt => XS.iload X4.here hx rfl (hb hby at_148) rfl  kt) ?_
            by_cases hc150_18 : b = k2
            · refine Go.by (S' := T4.setTop (mkF m 153 #[.val (.int a), .val (.int b), .val (.int c_), .val (.int d_), .val (.int x4), .val (.int r2), .val (.int k2), .val (.int k0), .val (.ref b1), .val (.ref b2), .val (.ref b2), .val (.int (1 : Int32)), .unset] [])) (fun _ kt => XS.icmpNo X4.here hx rfl (hb hby at_150) rfl (XT.ii_ne_f hc150_18)  kt) ?_
              refine Go.by (S' := T4.setTop (mkF m 154 #[.val (.int a), .val (.int b), .val (.int c_), .val (.int d_), .val (.int x4), .val (.int r2), .val (.int k2), .val (.int k0), .val (.ref b1), .val (.ref b2), .val (.ref b2), .val (.int (1 : Int32)), .unset] [(.int (1 : Int32))])) (fun _ kt => XT.iconstV X4.here hx rfl (1 : Int32) (hb hby at_153) (by decide)  kt) ?_
              refine Go.by (S' := T4.setTop (mkF m 158 #[.val (.int a), .val (.int b), .val (.int c_), .val (.int d_), .val (.int x4), .val (.int r2), .val (.int k2), .val (.int k0), .val (.ref b1), .val (.ref b2), .val (.ref b2), .val (.int (1 : Int32)), .unset] [(.int (1 : Int32))])) (fun _ kt => XS.goto X4.here hx rfl (pc0 := 154) (pc' := 158) rfl (hb hby at_154) (by decide) (by decide)  kt) ?_
              refine Go.by (S' := T4.setTop (mkF m 160 #[.val (.int a), .val (.int b), .val (.int c_), .val (.int d_), .val (.int x4), .val (.int r2), .val (.int k2), .val (.int k0), .val (.ref b1), .val (.ref b2), .val (.ref b2), .val (.int (1 : Int32)), .val (.int (1 : Int32))] [])) (fun _ kt => XS.istore X4.here hx rfl (hb hby at_158) rfl (l' := #[.val (.int a), .val (.int b), .val (.int c_), .val (.int d_), .val (.int x4), .val (.int r2), .val (.int k2), .val (.int k0), .val (.ref b1), .val (.ref b2), .val (.ref b2), .val (.int (1 : Int32)), .val (.int (1 : Int32))]) rfl  kt) ?_
              refine Go.by (S' := T4.setTop (mkF m 162 #[.val (.int a), .val (.int b), .val (.int c_), .val (.int d_), .val (.int x4), .val (.int r2), .val (.int k2), .val (.int k0), .val (.ref b1), .val (.ref b2), .val (.ref b2), .val (.int (1 : Int32)), .val (.int (1 : Int32))] [(.ref b1)])) (fun _ kt => XS.aload X4.here hx rfl (hb hby at_160) rfl rfl  kt) ?_
              refine Go.by (S' := T4.setTop (mkF m 164 #[.val (.int a), .val (.int b), .val (.int c_), .val (.int d_), .val (.int x4), .val (.int r2), .val (.int k2), .val (.int k0), .val (.ref b1), .val (.ref b2), .val (.ref b2), .val (.int (1 : Int32)), .val (.int (1 : Int32))] [(.ref b2), (.ref b1)])) (fun _ kt => XS.aload X4.here hx rfl (hb hby at_162) rfl rfl  kt) ?_
              obtain ⟨cq19, kq19, q19a, q19b, q19c⟩ := isOf hZ rfl (E_b1)
              obtain ⟨_, _, ⟨T19, L19, k19, n19⟩, -, X19, ⟨Lc19, hQ19, l19, y19, z19⟩, st19⟩ := X4.virtualBack hx (y := (⟨"com/example/meshwright/meshwright/Architecture$Mesh", "equals", "(Ljava/lang/Object;)Z"⟩ : MethodName)) (z := (⟨"com/example/meshwright/meshwright/Architecture$Mesh", "equals", "(Ljava/lang/Object;)Z"⟩ : MethodName)) hown (mvT hZ (hw _ (List.mem_of_getElem? (i := 18) rfl))) (mvT hZ (hw _ (List.mem_of_getElem? (i := 19) rfl))) (notFace_of_selects (args := #[]) (mvT hZ (hw _ (List.mem_of_getElem? (i := 21) rfl)))) (mvT hZ (hw _ (List.mem_of_getElem? (i := 21) rfl))) (mvT hZ (hw _ (List.mem_of_getElem? (i := 20) rfl))) (by decide) (backOf (W := 0) (rm4m l Z a0 hw [] b1 b2 a b r2 k2 T4.heap n0 F_b1_rows F_b1_columns F_b2_rows F_b2_columns E_b2) hZ (hw _ (List.mem_of_getElem? (i := 22) rfl)) (hw _ (List.mem_of_getElem? (i := 2) rfl)) (by decide) (by decide)) q19a q19c (g := (mkF m 164 #[.val (.int a), .val (.int b), .val (.int c_), .val (.int d_), .val (.int x4), .val (.int r2), .val (.int k2), .val (.int k0), .val (.ref b1), .val (.ref b2), .val (.ref b2), .val (.int (1 : Int32)), .val (.int (1 : Int32))] [(.ref b2), (.ref b1)])) rfl (by rw [hml]; rfl) (Steps.refl _) (argsL := [(.ref b2)]) (rest := []) (lenOf pd_2 rfl) rfl (by show 2 * 0 + _ ≤ _; exact Nat.le_of_eq rfl) (hb hby at_164) (fun _ _ => ⟨rfl, rfl, (by decide : ((0 + 1) + 1) + 0 ≤ _), (by decide : ((0 + 2) + 2) + 0 ≤ _)⟩)
              dsimp only [Pt.U, Pt.locs, Pt.cells, Pt.slots] at X19 l19 y19 z19 st19 hQ19
              subst l19 y19 z19
              obtain ⟨rfl, N19q, e19⟩ := hQ19
              have N19 := Fr.app N4 N19q
              refine Go.at (S' := T19.setTop (mkF m 167 #[.val (.int a), .val (.int b), .val (.int c_), .val (.int d_), .val (.int x4), .val (.int r2), .val (.int k2), .val (.int k0), .val (.ref b1), .val (.ref b2), .val (.ref b2), .val (.int (1 : Int32)), .val (.int (1 : Int32))] [(.int (if a = r2 ∧ b = k2 then 1 else 0))])) st19 ?_
              refine Go.by (S' := T19.setTop (mkF m 169 #[.val (.int a), .val (.int b), .val (.int c_), .val (.int d_), .val (.int x4), .val (.int r2), .val (.int k2), .val (.int k0), .val (.ref b1), .val (.ref b2), .val (.ref b2), .val (.int (1 : Int32)), .val (.int (1 : Int32))] [(.int (1 : Int32)), (.int (if a = r2 ∧ b = k2 then 1 else 0))])) (fun _ kt => XS.iload X19.here hx rfl (hb hby at_167) rfl  kt) ?_
              refine Go.by (S' := T19.setTop (mkF m 172 #[.val (.int a), .val (.int b), .val (.int c_), .val (.int d_), .val (.int x4), .val (.int r2), .val (.int k2), .val (.int k0), .val (.ref b1), .val (.ref b2), .val (.ref b2), .val (.int (1 : Int32)), .val (.int (1 : Int32))] [])) (fun _ kt => XS.icmpNo X19.here hx rfl (hb hby at_169) rfl (XT.ii_ne_f (by simp [hc68_5, hc80_8, hc95_12, hc144_17, hc150_18]))  kt) ?_
              refine Go.by (S' := T19.setTop (mkF m 174 #[.val (.int a), .val (.int b), .val (.int c_), .val (.int d_), .val (.int x4), .val (.int r2), .val (.int k2), .val (.int k0), .val (.ref b1), .val (.ref b2), .val (.ref b2), .val (.int (1 : Int32)), .val (.int (1 : Int32))] [(.ref b1)])) (fun _ kt => XS.aload X19.here hx rfl (hb hby at_172) rfl rfl  kt) ?_
              refine Go.by (S' := T19.setTop (mkF m 176 #[.val (.int a), .val (.int b), .val (.int c_), .val (.int d_), .val (.int x4), .val (.int r2), .val (.int k2), .val (.int k0), .val (.ref b1), .val (.ref b2), .val (.ref b2), .val (.int (1 : Int32)), .val (.int (1 : Int32))] [(.ref b1), (.ref b1)])) (fun _ kt => XS.aload X19.here hx rfl (hb hby at_174) rfl rfl  kt) ?_
              obtain ⟨cq20, kq20, q20a, q20b, q20c⟩ := isOf hZ e19 (E_b1)
              obtain ⟨_, _, ⟨T20, L20, k20, n20⟩, -, X20, ⟨Lc20, hQ20, l20, y20, z20⟩, st20⟩ := X19.virtualBack hx (y := (⟨"com/example/meshwright/meshwright/Architecture$Mesh", "equals", "(Ljava/lang/Object;)Z"⟩ : MethodName)) (z := (⟨"com/example/meshwright/meshwright/Architecture$Mesh", "equals", "(Ljava/lang/Object;)Z"⟩ : MethodName)) hown (mvT hZ (hw _ (List.mem_of_getElem? (i := 18) rfl))) (mvT hZ (hw _ (List.mem_of_getElem? (i := 19) rfl))) (notFace_of_selects (args := #[]) (mvT hZ (hw _ (List.mem_of_getElem? (i := 21) rfl)))) (mvT hZ (hw _ (List.mem_of_getElem? (i := 21) rfl))) (mvT hZ (hw _ (List.mem_of_getElem? (i := 20) rfl))) (by decide) (backOf (W := 0) (rm4m l Z a0 hw [] b1 b1 a b a b T4.heap n0 F_b1_rows F_b1_columns F_b1_rows F_b1_columns E_b1) hZ (hw _ (List.mem_of_getElem? (i := 22) rfl)) (hw _ (List.mem_of_getElem? (i := 2) rfl)) (by decide) (by decide)) q20a q20c (g := (mkF m 176 #[.val (.int a), .val (.int b), .val (.int c_), .val (.int d_), .val (.int x4), .val (.int r2), .val (.int k2), .val (.int k0), .val (.ref b1), .val (.ref b2), .val (.ref b2), .val (.int (1 : Int32)), .val (.int (1 : Int32))] [(.ref b1), (.ref b1)])) rfl (by rw [hml]; rfl) (Steps.refl _) (argsL := [(.ref b1)]) (rest := []) (lenOf pd_2 rfl) rfl (by show 2 * 0 + _ ≤ _; exact Nat.le_of_eq rfl) (hb hby at_176) (fun _ _ => ⟨rfl, e19, (by decide : ((0 + 1) + 1) + 0 ≤ _), (by decide : ((0 + 2) + 2) + 0 ≤ _)⟩)
              dsimp only [Pt.U, Pt.locs, Pt.cells, Pt.slots] at X20 l20 y20 z20 st20 hQ20
              subst l20 y20 z20
              obtain ⟨rfl, N20q, e20⟩ := hQ20
              have N20 := Fr.app N19 N20q
              refine Go.at (S' := T20.setTop (mkF m 179 #[.val (.int a), .val (.int b), .val (.int c_), .val (.int d_), .val (.int x4), .val (.int r2), .val (.int k2), .val (.int k0), .val (.ref b1), .val (.ref b2), .val (.ref b2), .val (.int (1 : Int32)), .val (.int (1 : Int32))] [(.int (if a = a ∧ b = b then 1 else 0))])) st20 ?_
              refine Go.by (S' := T20.setTop (mkF m 182 #[.val (.int a), .val (.int b), .val (.int c_), .val (.int d_), .val (.int x4), .val (.int r2), .val (.int k2), .val (.int k0), .val (.ref b1), .val (.ref b2), .val (.ref b2), .val (.int (1 : Int32)), .val (.int (1 : Int32))] [])) (fun _ kt => XS.ifNo X20.here hx rfl (hb hby at_179) rfl (XT.i0_eq_f (by simp))  kt) ?_
              refine Go.by (S' := T20.setTop (mkF m 183 #[.val (.int a), .val (.int b), .val (.int c_), .val (.int d_), .val (.int x4), .val (.int r2), .val (.int k2), .val (.int k0), .val (.ref b1), .val (.ref b2), .val (.ref b2), .val (.int (1 : Int32)), .val (.int (1 : Int32))] [(.int (1 : Int32))])) (fun _ kt => XT.iconstV X20.here hx rfl (1 : Int32) (hb hby at_182) (by decide)  kt) ?_
              refine Go.by (S' := T20.setTop (mkF m 187 #[.val (.int a), .val (.int b), .val (.int c_), .val (.int d_), .val (.int x4), .val (.int r2), .val (.int k2), .val (.int k0), .val (.ref b1), .val (.ref b2), .val (.ref b2), .val (.int (1 : Int32)), .val (.int (1 : Int32))] [(.int (1 : Int32))])) (fun _ kt => XS.goto X20.here hx rfl (pc0 := 183) (pc' := 187) rfl (hb hby at_183) (by decide) (by decide)  kt) ?_
              refine goRet X20 (v := some (.int (nar .boolean (1 : Int32)))) (fun h => by rw [Bd.returns] at h; cases h) Bd.notSynchronized (fun fs hr => retN X20 hx (t := .boolean) Bd.returns (by simp) (hb hby at_187) hr) (by decide) (by decide) ?_
              exact ⟨by simp [own_n1], N20⟩
            · refine Go.by (S' := T4.setTop (mkF m 157 #[.val (.int a), .val (.int b), .val (.int c_), .val (.int d_), .val (.int x4), .val (.int r2), .val (.int k2), .val (.int k0), .val (.ref b1), .val (.ref b2), .val (.ref b2), .val (.int (1 : Int32)), .unset] [])) (fun _ kt => XS.icmpYes X4.here hx rfl (pc0 := 150) (pc' := 157) rfl (hb hby at_150) rfl (XT.ii_ne_t hc150_18) (by decide) (by decide)  kt) ?_
              refine Go.by (S' := T4.setTop (mkF m 158 #[.val (.int a), .val (.int b), .val (.int c_), .val (.int d_), .val (.int x4), .val (.int r2), .val (.int k2), .val (.int k0), .val (.ref b1), .val (.ref b2), .val (.ref b2), .val (.int (1 : Int32)), .unset] [(.int (0 : Int32))])) (fun _ kt => XT.iconstV X4.here hx rfl (0 : Int32) (hb hby at_157) (by decide)  kt) ?_
              refine Go.by (S' := T4.setTop (mkF m 160 #[.val (.int a), .val (.int b), .val (.int c_), .val (.int d_), .val (.int x4), .val (.int r2), .val (.int k2), .val (.int k0), .val (.ref b1), .val (.ref b2), .val (.ref b2), .val (.int (1 : Int32)), .val (.int (0 : Int32))] [])) (fun _ kt => XS.istore X4.here hx rfl (hb hby at_158) rfl (l' := #[.val (.int a), .val (.int b), .val (.int c_), .val (.int d_), .val (.int x4), .val (.int r2), .val (.int k2), .val (.int k0), .val (.ref b1), .val (.ref b2), .val (.ref b2), .val (.int (1 : Int32)), .val (.int (0 : Int32))]) rfl  kt) ?_
              refine Go.by (S' := T4.setTop (mkF m 162 #[.val (.int a), .val (.int b), .val (.int c_), .val (.int d_), .val (.int x4), .val (.int r2), .val (.int k2), .val (.int k0), .val (.ref b1), .val (.ref b2), .val (.ref b2), .val (.int (1 : Int32)), .val (.int (0 : Int32))] [(.ref b1)])) (fun _ kt => XS.aload X4.here hx rfl (hb hby at_160) rfl rfl  kt) ?_
              refine Go.by (S' := T4.setTop (mkF m 164 #[.val (.int a), .val (.int b), .val (.int c_), .val (.int d_), .val (.int x4), .val (.int r2), .val (.int k2), .val (.int k0), .val (.ref b1), .val (.ref b2), .val (.ref b2), .val (.int (1 : Int32)), .val (.int (0 : Int32))] [(.ref b2), (.ref b1)])) (fun _ kt => XS.aload X4.here hx rfl (hb hby at_162) rfl rfl  kt) ?_
              obtain ⟨cq21, kq21, q21a, q21b, q21c⟩ := isOf hZ rfl (E_b1)
              obtain ⟨_, _, ⟨T21, L21, k21, n21⟩, -, X21, ⟨Lc21, hQ21, l21, y21, z21⟩, st21⟩ := X4.virtualBack hx (y := (⟨"com/example/meshwright/meshwright/Architecture$Mesh", "equals", "(Ljava/lang/Object;)Z"⟩ : MethodName)) (z := (⟨"com/example/meshwright/meshwright/Architecture$Mesh", "equals", "(Ljava/lang/Object;)Z"⟩ : MethodName)) hown (mvT hZ (hw _ (List.mem_of_getElem? (i := 18) rfl))) (mvT hZ (hw _ (List.mem_of_getElem? (i := 19) rfl))) (notFace_of_selects (args := #[]) (mvT hZ (hw _ (List.mem_of_getElem? (i := 21) rfl)))) (mvT hZ (hw _ (List.mem_of_getElem? (i := 21) rfl))) (mvT hZ (hw _ (List.mem_of_getElem? (i := 20) rfl))) (by decide) (backOf (W := 0) (rm4m l Z a0 hw [] b1 b2 a b r2 k2 T4.heap n0 F_b1_rows F_b1_columns F_b2_rows F_b2_columns E_b2) hZ (hw _ (List.mem_of_getElem? (i := 22) rfl)) (hw _ (List.mem_of_getElem? (i := 2) rfl)) (by decide) (by decide)) q21a q21c (g := (mkF m 164 #[.val (.int a), .val (.int b), .val (.int c_), .val (.int d_), .val (.int x4), .val (.int r2), .val (.int k2), .val (.int k0), .val (.ref b1), .val (.ref b2), .val (.ref b2), .val (.int (1 : Int32)), .val (.int (0 : Int32))] [(.ref b2), (.ref b1)])) rfl (by rw [hml]; rfl) (Steps.refl _) (argsL := [(.ref b2)]) (rest := []) (lenOf pd_2 rfl) rfl (by show 2 * 0 + _ ≤ _; exact Nat.le_of_eq rfl) (hb hby at_164) (fun _ _ => ⟨rfl, rfl, (by decide : ((0 + 1) + 1) + 0 ≤ _), (by decide : ((0 + 2) + 2) + 0 ≤ _)⟩)
              dsimp only [Pt.U, Pt.locs, Pt.cells, Pt.slots] at X21 l21 y21 z21 st21 hQ21
              subst l21 y21 z21
              obtain ⟨rfl, N21q, e21⟩ := hQ21
              have N21 := Fr.app N4 N21q
              refine Go.at (S' := T21.setTop (mkF m 167 #[.val (.int a), .val (.int b), .val (.int c_), .val (.int d_), .val (.int x4), .val (.int r2), .val (.int k2), .val (.int k0), .val (.ref b1), .val (.ref b2), .val (.ref b2), .val (.int (1 : Int32)), .val (.int (0 : Int32))] [(.int (if a = r2 ∧ b = k2 then 1 else 0))])) st21 ?_
              refine Go.by (S' := T21.setTop (mkF m 169 #[.val (.int a), .val (.int b), .val (.int c_), .val (.int d_), .val (.int x4), .val (.int r2), .val (.int k2), .val (.int k0), .val (.ref b1), .val (.ref b2), .val (.ref b2), .val (.int (1 : Int32)), .val (.int (0 : Int32))] [(.int (0 : Int32)), (.int (if a = r2 ∧ b = k2 then 1 else 0))])) (fun _ kt => XS.iload X21.here hx rfl (hb hby at_167) rfl  kt) ?_
              refine Go.by (S' := T21.setTop (mkF m 172 #[.val (.int a), .val (.int b), .val (.int c_), .val (.int d_), .val (.int x4), .val (.int r2), .val (.int k2), .val (.int k0), .val (.ref b1), .val (.ref b2), .val (.ref b2), .val (.int (1 : Int32)), .val (.int (0 : Int32))] [])) (fun _ kt => XS.icmpNo X21.here hx rfl (hb hby at_169) rfl (XT.ii_ne_f (by simp [hc68_5, hc80_8, hc95_12, hc144_17, hc150_18]))  kt) ?_
              refine Go.by (S' := T21.setTop (mkF m 174 #[.val (.int a), .val (.int b), .val (.int c_), .val (.int d_), .val (.int x4), .val (.int r2), .val (.int k2), .val (.int k0), .val (.ref b1), .val (.ref b2), .val (.ref b2), .val (.int (1 : Int32)), .val (.int (0 : Int32))] [(.ref b1)])) (fun _ kt => XS.aload X21.here hx rfl (hb hby at_172) rfl rfl  kt) ?_
              refine Go.by (S' := T21.setTop (mkF m 176 #[.val (.int a), .val (.int b), .val (.int c_), .val (.int d_), .val (.int x4), .val (.int r2), .val (.int k2), .val (.int k0), .val (.ref b1), .val (.ref b2), .val (.ref b2), .val (.int (1 : Int32)), .val (.int (0 : Int32))] [(.ref b1), (.ref b1)])) (fun _ kt => XS.aload X21.here hx rfl (hb hby at_174) rfl rfl  kt) ?_
              obtain ⟨cq22, kq22, q22a, q22b, q22c⟩ := isOf hZ e21 (E_b1)
              obtain ⟨_, _, ⟨T22, L22, k22, n22⟩, -, X22, ⟨Lc22, hQ22, l22, y22, z22⟩, st22⟩ := X21.virtualBack hx (y := (⟨"com/example/meshwright/meshwright/Architecture$Mesh", "equals", "(Ljava/lang/Object;)Z"⟩ : MethodName)) (z := (⟨"com/example/meshwright/meshwright/Architecture$Mesh", "equals", "(Ljava/lang/Object;)Z"⟩ : MethodName)) hown (mvT hZ (hw _ (List.mem_of_getElem? (i := 18) rfl))) (mvT hZ (hw _ (List.mem_of_getElem? (i := 19) rfl))) (notFace_of_selects (args := #[]) (mvT hZ (hw _ (List.mem_of_getElem? (i := 21) rfl)))) (mvT hZ (hw _ (List.mem_of_getElem? (i := 21) rfl))) (mvT hZ (hw _ (List.mem_of_getElem? (i := 20) rfl))) (by decide) (backOf (W := 0) (rm4m l Z a0 hw [] b1 b1 a b a b T4.heap n0 F_b1_rows F_b1_columns F_b1_rows F_b1_columns E_b1) hZ (hw _ (List.mem_of_getElem? (i := 22) rfl)) (hw _ (List.mem_of_getElem? (i := 2) rfl)) (by decide) (by decide)) q22a q22c (g := (mkF m 176 #[.val (.int a), .val (.int b), .val (.int c_), .val (.int d_), .val (.int x4), .val (.int r2), .val (.int k2), .val (.int k0), .val (.ref b1), .val (.ref b2), .val (.ref b2), .val (.int (1 : Int32)), .val (.int (0 : Int32))] [(.ref b1), (.ref b1)])) rfl (by rw [hml]; rfl) (Steps.refl _) (argsL := [(.ref b1)]) (rest := []) (lenOf pd_2 rfl) rfl (by show 2 * 0 + _ ≤ _; exact Nat.le_of_eq rfl) (hb hby at_176) (fun _ _ => ⟨rfl, e21, (by decide : ((0 + 1) + 1) + 0 ≤ _), (by decide : ((0 + 2) + 2) + 0 ≤ _)⟩)
              dsimp only [Pt.U, Pt.locs, Pt.cells, Pt.slots] at X22 l22 y22 z22 st22 hQ22
              subst l22 y22 z22
              obtain ⟨rfl, N22q, e22⟩ := hQ22
              have N22 := Fr.app N21 N22q
              refine Go.at (S' := T22.setTop (mkF m 179 #[.val (.int a), .val (.int b), .val (.int c_), .val (.int d_), .val (.int x4), .val (.int r2), .val (.int k2), .val (.int k0), .val (.ref b1), .val (.ref b2), .val (.ref b2), .val (.int (1 : Int32)), .val (.int (0 : Int32))] [(.int (if a = a ∧ b = b then 1 else 0))])) st22 ?_
              refine Go.by (S' := T22.setTop (mkF m 182 #[.val (.int a), .val (.int b), .val (.int c_), .val (.int d_), .val (.int x4), .val (.int r2), .val (.int k2), .val (.int k0), .val (.ref b1), .val (.ref b2), .val (.ref b2), .val (.int (1 : Int32)), .val (.int (0 : Int32))] [])) (fun _ kt => XS.ifNo X22.here hx rfl (hb hby at_179) rfl (XT.i0_eq_f (by simp))  kt) ?_
              refine Go.by (S' := T22.setTop (mkF m 183 #[.val (.int a), .val (.int b), .val (.int c_), .val (.int d_), .val (.int x4), .val (.int r2), .val (.int k2), .val (.int k0), .val (.ref b1), .val (.ref b2), .val (.ref b2), .val (.int (1 : Int32)), .val (.int (0 : Int32))] [(.int (1 : Int32))])) (fun _ kt => XT.iconstV X22.here hx rfl (1 : Int32) (hb hby at_182) (by decide)  kt) ?_
              refine Go.by (S' := T22.setTop (mkF m 187 #[.val (.int a), .val (.int b), .val (.int c_), .val (.int d_), .val (.int x4), .val (.int r2), .val (.int k2), .val (.int k0), .val (.ref b1), .val (.ref b2), .val (.ref b2), .val (.int (1 : Int32)), .val (.int (0 : Int32))] [(.int (1 : Int32))])) (fun _ kt => XS.goto X22.here hx rfl (pc0 := 183) (pc' := 187) rfl (hb hby at_183) (by decide) (by decide)  kt) ?_
              refine goRet X22 (v := some (.int (nar .boolean (1 : Int32)))) (fun h => by rw [Bd.returns] at h; cases h) Bd.notSynchronized (fun fs hr => retN X22 hx (t := .boolean) Bd.returns (by simp) (hb hby at_187) hr) (by decide) (by decide) ?_
              exact ⟨by simp [own_n1], N22⟩
          · refine Go.by (S' := T4.setTop (mkF m 157 #[.val (.int a), .val (.int b), .val (.int c_), .val (.int d_), .val (.int x4), .val (.int r2), .val (.int k2), .val (.int k0), .val (.ref b1), .val (.ref b2), .val (.ref b2), .val (.int (1 : Int32)), .unset] [])) (fun _ kt => XS.icmpYes X4.here hx rfl (pc0 := 144) (pc' := 157) rfl (hb hby at_144) rfl (XT.ii_ne_t hc144_17) (by decide) (by decide)  kt) ?_
            refine Go.by (S' := T4.setTop (mkF m 158 #[.val (.int a), .val (.int b), .val (.int c_), .val (.int d_), .val (.int x4), .val (.int r2), .val (.int k2), .val (.int k0), .val (.ref b1), .val (.ref b2), .val (.ref b2), .val (.int (1 : Int32)), .unset] [(.int (0 : Int32))])) (fun _ kt => XT.iconstV X4.here hx rfl (0 : Int32) (hb hby at_157) (by decide)  kt) ?_
            refine Go.by (S' := T4.setTop (mkF m 160 #[.val (.int a), .val (.int b), .val (.int c_), .val (.int d_), .val (.int x4), .val (.int r2), .val (.int k2), .val (.int k0), .val (.ref b1), .val (.ref b2), .val (.ref b2), .val (.int (1 : Int32)), .val (.int (0 : Int32))] [])) (fun _ kt => XS.istore X4.here hx rfl (hb hby at_158) rfl (l' := #[.val (.int a), .val (.int b), .val (.int c_), .val (.int d_), .val (.int x4), .val (.int r2), .val (.int k2), .val (.int k0), .val (.ref b1), .val (.ref b2), .val (.ref b2), .val (.int (1 : Int32)), .val (.int (0 : Int32))]) rfl  kt) ?_
            refine Go.by (S' := T4.setTop (mkF m 162 #[.val (.int a), .val (.int b), .val (.int c_), .val (.int d_), .val (.int x4), .val (.int r2), .val (.int k2), .val (.int k0), .val (.ref b1), .val (.ref b2), .val (.ref b2), .val (.int (1 : Int32)), .val (.int (0 : Int32))] [(.ref b1)])) (fun _ kt => XS.aload X4.here hx rfl (hb hby at_160) rfl rfl  kt) ?_
            refine Go.by (S' := T4.setTop (mkF m 164 #[.val (.int a), .val (.int b), .val (.int c_), .val (.int d_), .val (.int x4), .val (.int r2), .val (.int k2), .val (.int k0), .val (.ref b1), .val (.ref b2), .val (.ref b2), .val (.int (1 : Int32)), .val (.int (0 : Int32))] [(.ref b2), (.ref b1)])) (fun _ kt => XS.aload X4.here hx rfl (hb hby at_162) rfl rfl  kt) ?_
            obtain ⟨cq23, kq23, q23a, q23b, q23c⟩ := isOf hZ rfl (E_b1)
            obtain ⟨_, _, ⟨T23, L23, k23, n23⟩, -, X23, ⟨Lc23, hQ23, l23, y23, z23⟩, st23⟩ := X4.virtualBack hx (y := (⟨"com/example/meshwright/meshwright/Architecture$Mesh", "equals", "(Ljava/lang/Object;)Z"⟩ : MethodName)) (z := (⟨"com/example/meshwright/meshwright/Architecture$Mesh", "equals", "(Ljava/lang/Object;)Z"⟩ : MethodName)) hown (mvT hZ (hw _ (List.mem_of_getElem? (i := 18) rfl))) (mvT hZ (hw _ (List.mem_of_getElem? (i := 19) rfl))) (notFace_of_selects (args := #[]) (mvT hZ (hw _ (List.mem_of_getElem? (i := 21) rfl)))) (mvT hZ (hw _ (List.mem_of_getElem? (i := 21) rfl))) (mvT hZ (hw _ (List.mem_of_getElem? (i := 20) rfl))) (by decide) (backOf (W := 0) (rm4m l Z a0 hw [] b1 b2 a b r2 k2 T4.heap n0 F_b1_rows F_b1_columns F_b2_rows F_b2_columns E_b2) hZ (hw _ (List.mem_of_getElem? (i := 22) rfl)) (hw _ (List.mem_of_getElem? (i := 2) rfl)) (by decide) (by decide)) q23a q23c (g := (mkF m 164 #[.val (.int a), .val (.int b), .val (.int c_), .val (.int d_), .val (.int x4), .val (.int r2), .val (.int k2), .val (.int k0), .val (.ref b1), .val (.ref b2), .val (.ref b2), .val (.int (1 : Int32)), .val (.int (0 : Int32))] [(.ref b2), (.ref b1)])) rfl (by rw [hml]; rfl) (Steps.refl _) (argsL := [(.ref b2)]) (rest := []) (lenOf pd_2 rfl) rfl (by show 2 * 0 + _ ≤ _; exact Nat.le_of_eq rfl) (hb hby at_164) (fun _ _ => ⟨rfl, rfl, (by decide : ((0 + 1) + 1) + 0 ≤ _), (by decide : ((0 + 2) + 2) + 0 ≤ _)⟩)
            dsimp only [Pt.U, Pt.locs, Pt.cells, Pt.slots] at X23 l23 y23 z23 st23 hQ23
            subst l23 y23 z23
            obtain ⟨rfl, N23q, e23⟩ := hQ23
            have N23 := Fr.app N4 N23q
            refine Go.at (S' := T23.setTop (mkF m 167 #[.val (.int a), .val (.int b), .val (.int c_), .val (.int d_), .val (.int x4), .val (.int r2), .val (.int k2), .val (.int k0), .val (.ref b1), .val (.ref b2), .val (.ref b2), .val (.int (1 : Int32)), .val (.int (0 : Int32))] [(.int (if a = r2 ∧ b = k2 then 1 else 0))])) st23 ?_
            refine Go.by (S' := T23.setTop (mkF m 169 #[.val (.int a), .val (.int b), .val (.int c_), .val (.int d_), .val (.int x4), .val (.int r2), .val (.int k2), .val (.int k0), .val (.ref b1), .val (.ref b2), .val (.ref b2), .val (.int (1 : Int32)), .val (.int (0 : Int32))] [(.int (0 : Int32)), (.int (if a = r2 ∧ b = k2 then 1 else 0))])) (fun _ kt => XS.iload X23.here hx rfl (hb hby at_167) rfl  kt) ?_
            refine Go.by (S' := T23.setTop (mkF m 172 #[.val (.int a), .val (.int b), .val (.int c_), .val (.int d_), .val (.int x4), .val (.int r2), .val (.int k2), .val (.int k0), .val (.ref b1), .val (.ref b2), .val (.ref b2), .val (.int (1 : Int32)), .val (.int (0 : Int32))] [])) (fun _ kt => XS.icmpNo X23.here hx rfl (hb hby at_169) rfl (XT.ii_ne_f (by simp [hc68_5, hc80_8, hc95_12, hc144_17]))  kt) ?_
            refine Go.by (S' := T23.setTop (mkF m 174 #[.val (.int a), .val (.int b), .val (.int c_), .val (.int d_), .val (.int x4), .val (.int r2), .val (.int k2), .val (.int k0), .val (.ref b1), .val (.ref b2), .val (.ref b2), .val (.int (1 : Int32)), .val (.int (0 : Int32))] [(.ref b1)])) (fun _ kt => XS.aload X23.here hx rfl (hb hby at_172) rfl rfl  kt) ?_
            refine Go.by (S' := T23.setTop (mkF m 176 #[.val (.int a), .val (.int b), .val (.int c_), .val (.int d_), .val (.int x4), .val (.int r2), .val (.int k2), .val (.int k0), .val (.ref b1), .val (.ref b2), .val (.ref b2), .val (.int (1 : Int32)), .val (.int (0 : Int32))] [(.ref b1), (.ref b1)])) (fun _ kt => XS.aload X23.here hx rfl (hb hby at_174) rfl rfl  kt) ?_
            obtain ⟨cq24, kq24, q24a, q24b, q24c⟩ := isOf hZ e23 (E_b1)
            obtain ⟨_, _, ⟨T24, L24, k24, n24⟩, -, X24, ⟨Lc24, hQ24, l24, y24, z24⟩, st24⟩ := X23.virtualBack hx (y := (⟨"com/example/meshwright/meshwright/Architecture$Mesh", "equals", "(Ljava/lang/Object;)Z"⟩ : MethodName)) (z := (⟨"com/example/meshwright/meshwright/Architecture$Mesh", "equals", "(Ljava/lang/Object;)Z"⟩ : MethodName)) hown (mvT hZ (hw _ (List.mem_of_getElem? (i := 18) rfl))) (mvT hZ (hw _ (List.mem_of_getElem? (i := 19) rfl))) (notFace_of_selects (args := #[]) (mvT hZ (hw _ (List.mem_of_getElem? (i := 21) rfl)))) (mvT hZ (hw _ (List.mem_of_getElem? (i := 21) rfl))) (mvT hZ (hw _ (List.mem_of_getElem? (i := 20) rfl))) (by decide) (backOf (W := 0) (rm4m l Z a0 hw [] b1 b1 a b a b T4.heap n0 F_b1_rows F_b1_columns F_b1_rows F_b1_columns E_b1) hZ (hw _ (List.mem_of_getElem? (i := 22) rfl)) (hw _ (List.mem_of_getElem? (i := 2) rfl)) (by decide) (by decide)) q24a q24c (g := (mkF m 176 #[.val (.int a), .val (.int b), .val (.int c_), .val (.int d_), .val (.int x4), .val (.int r2), .val (.int k2), .val (.int k0), .val (.ref b1), .val (.ref b2), .val (.ref b2), .val (.int (1 : Int32)), .val (.int (0 : Int32))] [(.ref b1), (.ref b1)])) rfl (by rw [hml]; rfl) (Steps.refl _) (argsL := [(.ref b1)]) (rest := []) (lenOf pd_2 rfl) rfl (by show 2 * 0 + _ ≤ _; exact Nat.le_of_eq rfl) (hb hby at_176) (fun _ _ => ⟨rfl, e23, (by decide : ((0 + 1) + 1) + 0 ≤ _), (by decide : ((0 + 2) + 2) + 0 ≤ _)⟩)
            dsimp only [Pt.U, Pt.locs, Pt.cells, Pt.slots] at X24 l24 y24 z24 st24 hQ24
            subst l24 y24 z24
            obtain ⟨rfl, N24q, e24⟩ := hQ24
            have N24 := Fr.app N23 N24q
            refine Go.at (S' := T24.setTop (mkF m 179 #[.val (.int a), .val (.int b), .val (.int c_), .val (.int d_), .val (.int x4), .val (.int r2), .val (.int k2), .val (.int k0), .val (.ref b1), .val (.ref b2), .val (.ref b2), .val (.int (1 : Int32)), .val (.int (0 : Int32))] [(.int (if a = a ∧ b = b then 1 else 0))])) st24 ?_
            refine Go.by (S' := T24.setTop (mkF m 182 #[.val (.int a), .val (.int b), .val (.int c_), .val (.int d_), .val (.int x4), .val (.int r2), .val (.int k2), .val (.int k0), .val (.ref b1), .val (.ref b2), .val (.ref b2), .val (.int (1 : Int32)), .val (.int (0 : Int32))] [])) (fun _ kt => XS.ifNo X24.here hx rfl (hb hby at_179) rfl (XT.i0_eq_f (by simp))  kt) ?_
            refine Go.by (S' := T24.setTop (mkF m 183 #[.val (.int a), .val (.int b), .val (.int c_), .val (.int d_), .val (.int x4), .val (.int r2), .val (.int k2), .val (.int k0), .val (.ref b1), .val (.ref b2), .val (.ref b2), .val (.int (1 : Int32)), .val (.int (0 : Int32))] [(.int (1 : Int32))])) (fun _ kt => XT.iconstV X24.here hx rfl (1 : Int32) (hb hby at_182) (by decide)  kt) ?_
            refine Go.by (S' := T24.setTop (mkF m 187 #[.val (.int a), .val (.int b), .val (.int c_), .val (.int d_), .val (.int x4), .val (.int r2), .val (.int k2), .val (.int k0), .val (.ref b1), .val (.ref b2), .val (.ref b2), .val (.int (1 : Int32)), .val (.int (0 : Int32))] [(.int (1 : Int32))])) (fun _ kt => XS.goto X24.here hx rfl (pc0 := 183) (pc' := 187) rfl (hb hby at_183) (by decide) (by decide)  kt) ?_
            refine goRet X24 (v := some (.int (nar .boolean (1 : Int32)))) (fun h => by rw [Bd.returns] at h; cases h) Bd.notSynchronized (fun fs hr => retN X24 hx (t := .boolean) Bd.returns (by simp) (hb hby at_187) hr) (by decide) (by decide) ?_
            exact ⟨by simp [own_n1], N24⟩
  have t12 : ∀ r2 : Int32, Go p e below (s₁.setTop (mkF m 12 #[.val (.int a), .val (.int b), .val (.int c_), .val (.int d_), .val (.int x4), .unset, .unset, .unset, .unset, .unset, .unset, .unset, .unset] [(.int r2)])) (fun o U => ∃ v L, o = Outcome.returned v ∧ LawQ n0 v U.heap L ∧ FrameEnd s o U L room_1.cells room_1.slots) := by
    intro r2
    refine Go.by (S' := s₁.setTop (mkF m 14 #[.val (.int a), .val (.int b), .val (.int c_), .val (.int d_), .val (.int x4), .val (.int r2), .unset, .unset, .unset, .unset, .unset, .unset, .unset] [])) (fun _ kt => XS.istore X0.here hx rfl (hb hby at_12) rfl (l' := #[.val (.int a), .val (.int b), .val (.int c_), .val (.int d_), .val (.int x4), .val (.int r2), .unset, .unset, .unset, .unset, .unset, .unset, .unset]) rfl  kt) ?_
    refine Go.by (S' := s₁.setTop (mkF m 16 #[.val (.int a), .val (.int b), .val (.int c_), .val (.int d_), .val (.int x4), .val (.int r2), .unset, .unset, .unset, .unset, .unset, .unset, .unset] [(.int x4)])) (fun _ kt => XS.iload X0.here hx rfl (hb hby at_14) rfl  kt) ?_
    refine Go.by (S' := s₁.setTop (mkF m 17 #[.val (.int a), .val (.int b), .val (.int c_), .val (.int d_), .val (.int x4), .val (.int r2), .unset, .unset, .unset, .unset, .unset, .unset, .unset] [(.int (2 : Int32)), (.int x4)])) (fun _ kt => XT.iconstV X0.here hx rfl (2 : Int32) (hb hby at_16) (by decide)  kt) ?_
    refine Go.by (S' := s₁.setTop (mkF m 18 #[.val (.int a), .val (.int b), .val (.int c_), .val (.int d_), .val (.int x4), .val (.int r2), .unset, .unset, .unset, .unset, .unset, .unset, .unset] [(.int (x4 &&& (2 : Int32)))])) (fun _ kt => XS.iand X0.here hx rfl (hb hby at_17) rfl  kt) ?_
    by_cases hc18_25 : (x4 &&& (2 : Int32)) = (0 : Int32)
    · refine Go.by (S' := s₁.setTop (mkF m 25 #[.val (.int a), .val (.int b), .val (.int c_), .val (.int d_), .val (.int x4), .val (.int r2), .unset, .unset, .unset, .unset, .unset, .unset, .unset] [])) (fun _ kt => XS.ifYes X0.here hx rfl (pc0 := 18) (pc' := 25) rfl (hb hby at_18) rfl (XT.i0_eq_t hc18_25) (by decide) (by decide)  kt) ?_
      refine Go.by (S' := s₁.setTop (mkF m 26 #[.val (.int a), .val (.int b), .val (.int c_), .val (.int d_), .val (.int x4), .val (.int r2), .unset, .unset, .unset, .unset, .unset, .unset, .unset] [(.int d_)])) (fun _ kt => XS.iloadN X0.here hx rfl (hb hby at_25) rfl  kt) ?_
      exact t26 _ _
    · refine Go.by (S' := s₁.setTop (mkF m 21 #[.val (.int a), .val (.int b), .val (.int c_), .val (.int d_), .val (.int x4), .val (.int r2), .unset, .unset, .unset, .unset, .unset, .unset, .unset] [])) (fun _ kt => XS.ifNo X0.here hx rfl (hb hby at_18) rfl (XT.i0_eq_f hc18_25)  kt) ?_
      refine Go.by (S' := s₁.setTop (mkF m 22 #[.val (.int a), .val (.int b), .val (.int c_), .val (.int d_), .val (.int x4), .val (.int r2), .unset, .unset, .unset, .unset, .unset, .unset, .unset] [(.int b)])) (fun _ kt => XS.iloadN X0.here hx rfl (hb hby at_21) rfl  kt) ?_
      refine Go.by (S' := s₁.setTop (mkF m 26 #[.val (.int a), .val (.int b), .val (.int c_), .val (.int d_), .val (.int x4), .val (.int r2), .unset, .unset, .unset, .unset, .unset, .unset, .unset] [(.int b)])) (fun _ kt => XS.goto X0.here hx rfl (pc0 := 22) (pc' := 26) rfl (hb hby at_22) (by decide) (by decide)  kt) ?_
      exact t26 _ _
  refine goIn (ef_rm0 m a b c_ d_ x4) ?_
  refine Go.by (S' := s₁.setTop (mkF m 2 #[.val (.int a), .val (.int b), .val (.int c_), .val (.int d_), .val (.int x4), .unset, .unset, .unset, .unset, .unset, .unset, .unset, .unset] [(.int x4)])) (fun _ kt => XS.iload X0.here hx rfl (hb hby at_0) rfl  kt) ?_
  refine Go.by (S' := s₁.setTop (mkF m 3 #[.val (.int a), .val (.int b), .val (.int c_), .val (.int d_), .val (.int x4), .unset, .unset, .unset, .unset, .unset, .unset, .unset, .unset] [(.int (1 : Int32)), (.int x4)])) (fun _ kt => XT.iconstV X0.here hx rfl (1 : Int32) (hb hby at_2) (by decide)  kt) ?_
  refine Go.by (S' := s₁.setTop (mkF m 4 #[.val (.int a), .val (.int b), .val (.int c_), .val (.int d_), .val (.int x4), .unset, .unset, .unset, .unset, .unset, .unset, .unset, .unset] [(.int (x4 &&& (1 : Int32)))])) (fun _ kt => XS.iand X0.here hx rfl (hb hby at_3) rfl  kt) ?_
  by_cases hc4_26 : (x4 &&& (1 : Int32)) = (0 : Int32)
  · refine Go.by (S' := s₁.setTop (mkF m 11 #[.val (.int a), .val (.int b), .val (.int c_), .val (.int d_), .val (.int x4), .unset, .unset, .unset, .unset, .unset, .unset, .unset, .unset] [])) (fun _ kt => XS.ifYes X0.here hx rfl (pc0 := 4) (pc' := 11) rfl (hb hby at_4) rfl (XT.i0_eq_t hc4_26) (by decide) (by decide)  kt) ?_
    refine Go.by (S' := s₁.setTop (mkF m 12 #[.val (.int a), .val (.int b), .val (.int c_), .val (.int d_), .val (.int x4), .unset, .unset, .unset, .unset, .unset, .unset, .unset, .unset] [(.int c_)])) (fun _ kt => XS.iloadN X0.here hx rfl (hb hby at_11) rfl  kt) ?_
    exact t12 _
  · refine Go.by (S' := s₁.setTop (mkF m 7 #[.val (.int a), .val (.int b), .val (.int c_), .val (.int d_), .val (.int x4), .unset, .unset, .unset, .unset, .unset, .unset, .unset, .unset] [])) (fun _ kt => XS.ifNo X0.here hx rfl (hb hby at_4) rfl (XT.i0_eq_f hc4_26)  kt) ?_
    refine Go.by (S' := s₁.setTop (mkF m 8 #[.val (.int a), .val (.int b), .val (.int c_), .val (.int d_), .val (.int x4), .unset, .unset, .unset, .unset, .unset, .unset, .unset, .unset] [(.int a)])) (fun _ kt => XS.iloadN X0.here hx rfl (hb hby at_7) rfl  kt) ?_
    refine Go.by (S' := s₁.setTop (mkF m 12 #[.val (.int a), .val (.int b), .val (.int c_), .val (.int d_), .val (.int x4), .unset, .unset, .unset, .unset, .unset, .unset, .unset, .unset] [(.int a)])) (fun _ kt => XS.goto X0.here hx rfl (pc0 := 8) (pc' := 12) rfl (hb hby at_8) (by decide) (by decide)  kt) ?_
    exact t12 _
theorem own_len {s : State} {args : Array Value} {t : Term} {a : Addr} {cl : Cell} {ty : FieldType} (et : ∀ idx, t.eval args s none idx s = some (.ref a)) (A : Arr s s.heap a cl ty)
    (h : (Jvm.Cond.eq (.length t) (.int 256)).value args s none s [] = some true) : cl.slots.size = 256 := by
  have e := eqv_i (F := Jvm.Term.int 256) rfl h
  have hat : s.arrayAt? a = some cl := A.fin (Vm.Alike.refl _)
  by_cases q : cl.slots.size < 2 ^ 31
  · have e' : cl.slots.size.toInt32 = 256 := by simpa [Term.eval, et, hat, q] using e
    have := congrArg Int32.toInt e'
    rw [len_toInt q] at this
    have e2 : (256 : Int32).toInt = 256 := by decide
    rw [e2] at this; omega
  · simp [Term.eval, et, hat, q] at e
set_option maxRecDepth 65536 in
set_option maxHeartbeats 40000000 in
theorem comes_1 {Post : Tables → Env → Array Value → State → Outcome → State → Prop} (hpost : ∀ tb e args s v u, (limb_1_1.after args s (.returned v) u = true ∧ limb_1_2.after args s (.returned v) u = true ∧ True) → FrameEnd s (.returned v) u (Jvm.fieldLocs frame_1_writes args s ++ Jvm.arrayLocs frame_1_arrays args s ++ Jvm.staticLocs frame_1_statics s) 16 128 → Post tb e args s (.returned v) u) :
    ArmFor flags0 classFile x code maxLocals ret World_1 tables_1 room_1 Calls_1 rest_1 Pre_1 Post := by
  intro l hfl _ _ p e ha hc hk s m args below hf hA hF happ hP
  obtain ⟨hcalls, hrest, hpre⟩ := hP
  obtain ⟨-, -, -, hnamed, -, -, -, hat⟩ := (Spec.applies_iff hf).mp happ
  obtain ⟨hg, hn⟩ := and_e (Cond.before_iff.mp (show (Jvm.Cond.and given_1 narrow_1).before args s = true from hpre))
  obtain ⟨gc, gr0⟩ := and_e hg
  obtain ⟨gi0, gr1⟩ := and_e gr0
  obtain ⟨gi1, gr2⟩ := and_e gr1
  obtain ⟨gi2, gr3⟩ := and_e gr2
  obtain ⟨gi3, gr4⟩ := and_e gr3
  have gi4 := gr4
  obtain ⟨w0, w1, w2, w3, w4, rfl⟩ : ∃ w0 w1 w2 w3 w4 : Value, args = #[w0, w1, w2, w3, w4] := by
    have hs : args.size = 5 := by simpa [Cond.value, given_1] using gc
    obtain ⟨L⟩ := args
    match L, hs with
    | [w0, w1, w2, w3, w4], _ => exact ⟨w0, w1, w2, w3, w4, rfl⟩
  have hw := fun d (hd : d ∈ tables_1) => atoms_spec (ws := Jvm.Cond.code x code maxLocals ret :: tables_1) hat d (List.mem_cons_of_mem _ hd)
  have hfit : Fit s := fun {y c} hc i hi => by
    obtain ⟨ha, rfl⟩ := Array.getElem?_eq_some_iff.mp hc
    have q := List.all_eq_true.mp ((Array.all_eq_true_iff_forall_mem.mp hF) _ (Array.getElem_mem ha)) i (List.mem_range.mpr hi)
    simpa [Array.getElem?_eq_getElem hi] using q
  obtain ⟨hsets, hown0⟩ := atoms_of _ (rest_1_c_eq ▸ (show rest_1_c.before _ s = true from hrest))
  obtain ⟨i0, ei0⟩ := is_v gi0
  obtain rfl : w0 = (.int i0) := Option.some.inj ei0
  obtain ⟨i1, ei1⟩ := is_v gi1
  obtain rfl : w1 = (.int i1) := Option.some.inj ei1
  obtain ⟨i2, ei2⟩ := is_v gi2
  obtain rfl : w2 = (.int i2) := Option.some.inj ei2
  obtain ⟨i3, ei3⟩ := is_v gi3
  obtain rfl : w3 = (.int i3) := Option.some.inj ei3
  obtain ⟨i4, ei4⟩ := is_v gi4
  obtain rfl : w4 = (.int i4) := Option.some.inj ei4
  have q4 := Cond.before_iff.mp (hsets _ (List.mem_of_getElem? (i := 4) rfl))
  obtain ⟨tc, et0⟩ := arr_v q4
  have et : ∀ idx, (Jvm.Term.static "java/lang/Integer$IntegerCache" "cache" "[Ljava/lang/Integer;").eval #[.int i0, .int i1, .int i2, .int i3, .int i4] s none idx s = some (.ref tc) := fun _ => et0
  obtain ⟨cl, A⟩ := Arr.start et0 q4
  have SH := Sta.start (eqv_i (F := Jvm.Term.int 127) rfl (Cond.before_iff.mp (hsets _ (List.mem_of_getElem? (i := 3) rfl)))) (Or.inr ⟨(hw _ (List.mem_of_getElem? (i := 30) rfl)), (hsets _ (List.mem_of_getElem? (i := 0) rfl))⟩)
  have SC := Sta.start et0 (Or.inr ⟨(hw _ (List.mem_of_getElem? (i := 30) rfl)), (hsets _ (List.mem_of_getElem? (i := 2) rfl))⟩)
  have sz : cl.slots.size = 256 := own_len et A (Cond.before_iff.mp (hsets _ (List.mem_of_getElem? (i := 6) rfl)))
  have BX : Bxs s tc cl "java/lang/Integer" "I" 256 (fun j => .int (j - 128)) := Bxs.start (F := Jvm.Term.sub (Jvm.Term.index 0) (Jvm.Term.int 128)) et A (by rw [sz]; decide) (by rw [sz]; rfl) (by decide) (Cond.before_iff.mp (hsets _ (List.mem_of_getElem? (i := 7) rfl))) (fun X j nn hh => eqv_i (by simp [Term.eval, (back32 nn).1]) hh)
  obtain ⟨n, o, h1, h2, h3, _, L, rfl, ⟨rfl, N⟩, hq⟩ := rm0 l s _ hw tables_1 i0 i1 i2 i3 i4 tc cl _ s.heap s.heap.size (Nat.le_refl _) SH SC BX (own_ext_refl _) p e ha hc hk s m _ below hf ((Spec.applies_iff_loose hf).mp happ).1 ⟨rfl, State.Warmed39.refl s, rfl⟩ trivial
  refine ⟨n, _, h1, h2, h3, hpost _ _ _ _ _ _ ⟨Cond.after_iff.mpr rfl, Cond.after_iff.mpr (eq_i res_at (Term.int_eval (1)) rfl), trivial⟩ ⟨hq.1, hq.2.1, (hq.2.2.sift fun y hy => Or.inr (N y hy)).mono (by decide) (by decide)⟩⟩
theorem main_1_1 : Claimed_1_1 := comes_1 fun _ _ _ _ _ _ h hF => ⟨h.1, hF⟩
theorem main_1_2 : Claimed_1_2 := comes_1 fun _ _ _ _ _ _ h hF => ⟨h.2.1, hF⟩
end Jvm.Pilot.@@N@@
namespace Jvm.Pilot.@@N@@
open Jvm Jvm.ClassFile Sem Op Lib Jvm.Free Jvm.Stand Jvm.Pilot.@@N@@.Jvm.D
/-! MADE BY PROGRAM (witnessworld.py) out of the Statement's table words and the real class files: 18 classes; the members and pool entries that the words name. The judged class is class 1, her method 1. -/
namespace start1
open Jvm.ClassFile
def u (s : String) : CpInfo := .utf8 (stringToUtf16 s)
/-- a pool by its gaps: so many unusable entries, then the entry; so many at the end -/
def gap : Nat → List CpInfo → List CpInfo
  | 0, r => r
  | n + 1, r => .unusable :: gap n r
def poolList (es : List (Nat × CpInfo)) (last : Nat) : List CpInfo := es.foldr (fun e r => gap e.1 (e.2 :: r)) (gap last [])
def pool (es : List (Nat × CpInfo)) (last : Nat) : Array CpInfo := ⟨poolList es last⟩
def fileOf (pool : Array CpInfo) (this : Nat) (attrs : Array Attribute := #[]) (ms : Array MethodInfo := #[]) (fl : Nat := 33) (sup : Nat := 0) (ifs : Array Nat := #[]) (fds : Array FieldInfo := #[]) : ClassFile where
  minorVersion := 0
  majorVersion := 65
  constantPool := pool
  accessFlags := fl
  thisClass := this
  superClass := sup
  interfaces := ifs
  fields := fds
  methods := ms
  attributes := attrs
def plain (name : String) (sup : Option ClassId) : Class where
  name := name
  kind := .ordinary
  loader := none
  accessFlags := 33
  super := sup
  interfaces := #[]
  cf := none
  fields := #[]
  methods := #[]
  instanceTypes := #[]
  staticTypes := #[]
  resolved := #[]
  callSites := []
  init := .initialized
  statics := none
  mirror := none

def pool0 : Array CpInfo := pool [(5, u "<init>"), (0, u "()V"), (1, .class_ 10), (1, u "java/lang/Object")] 113

def k0c0 : Code := { maxStack := 0, maxLocals := 1, code := object_method_1_code, exceptionTable := #[], attributes := #[] }
def k0m0 : Method := { name := "<init>", desc := "()V", sig := { parameters := [], returnType := none }, accessFlags := 1, code := some k0c0 }
/-- java/lang/Object -/
def k0 : Class := { plain "java/lang/Object" none with
  accessFlags := 33
  interfaces := #[]
  cf := some (fileOf pool0 8 #[] #[{ accessFlags := 1, nameIndex := 5, descriptorIndex := 6, attributes := #[] }] 33 0 #[] #[])
  fields := #[]
  methods := #[k0m0]
  instanceTypes := #[]
  staticTypes := #[]
  resolved := Array.replicate 124 none
  statics := none }

def pool1 : Array CpInfo := pool [(2, .class_ 4), (1, u "java/lang/Object"), (0, u "<init>"), (0, u "()V"), (0, .class_ 8), (0, u "com/example/meshwright/meshwright/Architecture$Mesh"), (0, .methodref 7 10), (0, .nameAndType 5 11), (0, u "(II)V"), (0, .methodref 13 14), (0, .class_ 15), (0, .nameAndType 16 17), (0, u "java/lang/Integer"), (0, u "valueOf"), (0, u "(I)Ljava/lang/Integer;"), (0, .class_ 19), (0, u "com/example/meshwright/meshwright/Architecture$Holding"), (0, .methodref 18 10), (0, .methodref 7 22), (0, .nameAndType 23 24), (0, u "equals"), (0, u "(Ljava/lang/Object;)Z"), (0, .class_ 26), (0, u "com/example/meshwright/meshwright/MeshEqualsPinLaw"), (2, u "law"), (0, u "(IIIII)Z")] 8

def k1m0 : Method := { name := "<init>", desc := "()V", sig := { parameters := [], returnType := none }, accessFlags := 1, code := none }
def k1c1 : Code := { maxStack := 4, maxLocals := 13, code := code, exceptionTable := #[], attributes := #[] }
def k1m1 : Method := { name := "law", desc := "(IIIII)Z", sig := { parameters := [.int, .int, .int, .int, .int], returnType := some .boolean }, accessFlags := 9, code := some k1c1 }
/-- com/example/meshwright/meshwright/MeshEqualsPinLaw -/
def k1 : Class := { plain "com/example/meshwright/meshwright/MeshEqualsPinLaw" (some 0) with
  accessFlags := 49
  interfaces := #[]
  cf := some (fileOf pool1 25 #[] #[{ accessFlags := 1, nameIndex := 5, descriptorIndex := 6, attributes := #[] }, { accessFlags := 9, nameIndex := 29, descriptorIndex := 30, attributes := #[] }] 49 2 #[] #[])
  fields := #[]
  methods := #[k1m0, k1m1]
  instanceTypes := #[]
  staticTypes := #[]
  resolved := Array.replicate 39 none
  statics := none }

def pool2 : Array CpInfo := pool [(1, .methodref 2 3), (0, .class_ 4), (0, .nameAndType 5 6), (0, u "java/lang/Object"), (0, u "<init>"), (0, u "()V"), (0, .class_ 8), (0, u "java/lang/Record")] 13

def k2c0 : Code := { maxStack := 1, maxLocals := 1, code := jdk_30_method_1_code, exceptionTable := #[], attributes := #[] }
def k2m0 : Method := { name := "<init>", desc := "()V", sig := { parameters := [], returnType := none }, accessFlags := 4, code := some k2c0 }
/-- java/lang/Record -/
def k2 : Class := { plain "java/lang/Record" (some 0) with
  accessFlags := 1057
  interfaces := #[]
  cf := some (fileOf pool2 7 #[] #[{ accessFlags := 4, nameIndex := 5, descriptorIndex := 6, attributes := #[] }] 1057 2 #[] #[])
  fields := #[]
  methods := #[k2m0]
  instanceTypes := #[]
  staticTypes := #[]
  resolved := Array.replicate 22 none
  statics := none }

def pool3 : Array CpInfo := pool [(1, .methodref 2 3), (0, .class_ 4), (0, .nameAndType 5 6), (0, u "java/lang/Record"), (0, u "<init>"), (0, u "()V"), (0, .fieldref 8 9), (0, .class_ 10), (0, .nameAndType 11 12), (0, u "com/example/meshwright/meshwright/Architecture$Mesh"), (0, u "rows"), (0, u "I"), (0, .fieldref 8 14), (0, .nameAndType 15 12), (0, u "columns"), (6, u "CLOCKWISE"), (0, u "[[I"), (6, u "UNIT_ORDER"), (15, u "AROUND"), (57, u "LATENCY"), (2, u "(II)V"), (3, u "equals"), (0, u "(Ljava/lang/Object;)Z"), (24, .class_ 138), (0, u "com/example/meshwright/meshwright/Architecture")] 46

def k3c0 : Code := { maxStack := 2, maxLocals := 3, code := prog_4_method_1_code, exceptionTable := #[], attributes := #[] }
def k3m0 : Method := { name := "<init>", desc := "(II)V", sig := { parameters := [.int, .int], returnType := none }, accessFlags := 0, code := some k3c0 }
def k3c1 : Code := { maxStack := 2, maxLocals := 3, code := prog_4_method_2_code, exceptionTable := #[], attributes := #[] }
def k3m1 : Method := { name := "equals", desc := "(Ljava/lang/Object;)Z", sig := { parameters := [(.object "java/lang/Object")], returnType := some .boolean }, accessFlags := 1, code := some k3c1 }
/-- com/example/meshwright/meshwright/Architecture$Mesh -/
def k3 : Class := { plain "com/example/meshwright/meshwright/Architecture$Mesh" (some 2) with
  accessFlags := 48
  interfaces := #[]
  cf := some (fileOf pool3 8 #[.nestHost 137] #[{ accessFlags := 0, nameIndex := 5, descriptorIndex := 107, attributes := #[] }, { accessFlags := 1, nameIndex := 111, descriptorIndex := 112, attributes := #[] }] 48 2 #[] #[{ accessFlags := 18, nameIndex := 11, descriptorIndex := 12, attributes := #[] }, { accessFlags := 18, nameIndex := 15, descriptorIndex := 12, attributes := #[] }, { accessFlags := 24, nameIndex := 104, descriptorIndex := 12, attributes := #[] }, { accessFlags := 26, nameIndex := 22, descriptorIndex := 23, attributes := #[] }, { accessFlags := 26, nameIndex := 30, descriptorIndex := 23, attributes := #[] }, { accessFlags := 26, nameIndex := 46, descriptorIndex := 23, attributes := #[] }])
  fields := #[{ name := "rows", type := .int, accessFlags := 18, slot := 0, constantValue := 0 }, { name := "columns", type := .int, accessFlags := 18, slot := 1, constantValue := 0 }, { name := "LATENCY", type := .int, accessFlags := 24, slot := 0, constantValue := 0 }, { name := "CLOCKWISE", type := (.array (.array .int)), accessFlags := 26, slot := 1, constantValue := 0 }, { name := "UNIT_ORDER", type := (.array (.array .int)), accessFlags := 26, slot := 2, constantValue := 0 }, { name := "AROUND", type := (.array (.array .int)), accessFlags := 26, slot := 3, constantValue := 0 }]
  methods := #[k3m0, k3m1]
  instanceTypes := #[.int, .int]
  staticTypes := #[.int, (.array (.array .int)), (.array (.array .int)), (.array (.array .int))]
  resolved := Array.replicate 185 none
  statics := none }

def pool4 : Array CpInfo := pool [(1, .class_ 2), (0, u "java/io/Serializable"), (0, .class_ 4), (0, u "java/lang/Object")] 2

/-- java/io/Serializable -/
def k4 : Class := { plain "java/io/Serializable" (some 0) with
  accessFlags := 1537
  interfaces := #[]
  cf := some (fileOf pool4 1 #[] #[] 1537 3 #[] #[])
  fields := #[]
  methods := #[]
  instanceTypes := #[]
  staticTypes := #[]
  resolved := Array.replicate 7 none
  statics := none }

def pool5 : Array CpInfo := pool [(1, .methodref 2 3), (0, .class_ 4), (0, .nameAndType 5 6), (0, u "java/lang/Object"), (0, u "<init>"), (0, u "()V"), (1, .class_ 10), (1, u "java/lang/Number"), (2, .class_ 14), (0, u "java/io/Serializable"), (0, u "serialVersionUID"), (0, u "J")] 20

def k5c0 : Code := { maxStack := 1, maxLocals := 1, code := jdk_18_method_1_code, exceptionTable := #[], attributes := #[] }
def k5m0 : Method := { name := "<init>", desc := "()V", sig := { parameters := [], returnType := none }, accessFlags := 1, code := some k5c0 }
/-- java/lang/Number -/
def k5 : Class := { plain "java/lang/Number" (some 0) with
  accessFlags := 1057
  interfaces := #[4]
  cf := some (fileOf pool5 8 #[] #[{ accessFlags := 1, nameIndex := 5, descriptorIndex := 6, attributes := #[] }] 1057 2 #[13] #[{ accessFlags := 26, nameIndex := 15, descriptorIndex := 16, attributes := #[] }])
  fields := #[{ name := "serialVersionUID", type := .long, accessFlags := 26, slot := 0, constantValue := 0 }]
  methods := #[k5m0]
  instanceTypes := #[]
  staticTypes := #[.long]
  resolved := Array.replicate 37 none
  statics := none }

def pool6 : Array CpInfo := pool [(1, .class_ 2), (0, u "java/lang/Comparable"), (0, .class_ 4), (0, u "java/lang/Object")] 7

/-- java/lang/Comparable -/
def k6 : Class := { plain "java/lang/Comparable" (some 0) with
  accessFlags := 1537
  interfaces := #[]
  cf := some (fileOf pool6 1 #[] #[] 1537 3 #[] #[])
  fields := #[]
  methods := #[]
  instanceTypes := #[]
  staticTypes := #[]
  resolved := Array.replicate 12 none
  statics := none }

def pool7 : Array CpInfo := pool [(1, .class_ 2), (0, u "java/lang/constant/Constable"), (0, .class_ 4), (0, u "java/lang/Object")] 6

/-- java/lang/constant/Constable -/
def k7 : Class := { plain "java/lang/constant/Constable" (some 0) with
  accessFlags := 1537
  interfaces := #[]
  cf := some (fileOf pool7 1 #[] #[] 1537 3 #[] #[])
  fields := #[]
  methods := #[]
  instanceTypes := #[]
  staticTypes := #[]
  resolved := Array.replicate 11 none
  statics := none }

def pool8 : Array CpInfo := pool [(1, .class_ 2), (0, u "java/lang/constant/ConstantDesc"), (0, .class_ 4), (0, u "java/lang/Object")] 32

/-- java/lang/constant/ConstantDesc -/
def k8 : Class := { plain "java/lang/constant/ConstantDesc" (some 0) with
  accessFlags := 1537
  interfaces := #[]
  cf := some (fileOf pool8 1 #[] #[] 1537 3 #[] #[])
  fields := #[]
  methods := #[]
  instanceTypes := #[]
  staticTypes := #[]
  resolved := Array.replicate 37 none
  statics := none }

def pool9 : Array CpInfo := pool [(1, .class_ 2), (0, u "java/lang/Integer"), (16, u "digits"), (0, u "[C"), (46, u "<init>"), (17, u "DigitOnes"), (0, u "[B"), (2, u "DigitTens"), (10, .nameAndType 67 101), (0, u "()V"), (85, u "valueOf"), (0, u "(I)Ljava/lang/Integer;"), (0, .class_ 190), (0, u "java/lang/Integer$IntegerCache"), (0, .fieldref 189 192), (0, .nameAndType 193 194), (0, u "high"), (0, u "I"), (0, .fieldref 189 196), (0, .nameAndType 197 198), (0, u "cache"), (0, u "[Ljava/lang/Integer;"), (0, .methodref 1 200), (0, .nameAndType 67 201), (0, u "(I)V"), (0, .methodref 203 100), (0, .class_ 204), (0, u "java/lang/Number"), (0, .fieldref 1 206), (0, .nameAndType 207 194), (0, u "value"), (94, u "TYPE"), (0, u "Ljava/lang/Class;"), (0, .class_ 305), (0, u "java/lang/Comparable"), (0, .class_ 307), (0, u "java/lang/constant/Constable"), (0, .class_ 309), (0, u "java/lang/constant/ConstantDesc"), (0, u "MIN_VALUE"), (1, u "MAX_VALUE"), (3, u "SIZE"), (1, u "BYTES"), (1, u "serialVersionUID"), (0, u "J")] 131

def k9c0 : Code := { maxStack := 3, maxLocals := 1, code := jdk_33_method_22_code, exceptionTable := #[], attributes := #[] }
def k9m0 : Method := { name := "valueOf", desc := "(I)Ljava/lang/Integer;", sig := { parameters := [.int], returnType := some (.object "java/lang/Integer") }, accessFlags := 9, code := some k9c0 }
def k9c1 : Code := { maxStack := 2, maxLocals := 2, code := jdk_33_method_23_code, exceptionTable := #[], attributes := #[] }
def k9m1 : Method := { name := "<init>", desc := "(I)V", sig := { parameters := [.int], returnType := none }, accessFlags := 1, code := some k9c1 }
/-- java/lang/Integer -/
def k9 : Class := { plain "java/lang/Integer" (some 5) with
  accessFlags := 49
  interfaces := #[6, 7, 8]
  cf := some (fileOf pool9 1 #[.nestMembers #[189]] #[{ accessFlags := 9, nameIndex := 187, descriptorIndex := 188, attributes := #[] }, { accessFlags := 1, nameIndex := 67, descriptorIndex := 201, attributes := #[] }] 49 203 #[304, 306, 308] #[{ accessFlags := 25, nameIndex := 310, descriptorIndex := 194, attributes := #[] }, { accessFlags := 25, nameIndex := 312, descriptorIndex := 194, attributes := #[] }, { accessFlags := 25, nameIndex := 302, descriptorIndex := 303, attributes := #[] }, { accessFlags := 24, nameIndex := 19, descriptorIndex := 20, attributes := #[] }, { accessFlags := 24, nameIndex := 89, descriptorIndex := 86, attributes := #[] }, { accessFlags := 24, nameIndex := 85, descriptorIndex := 86, attributes := #[] }, { accessFlags := 18, nameIndex := 207, descriptorIndex := 194, attributes := #[] }, { accessFlags := 25, nameIndex := 316, descriptorIndex := 194, attributes := #[] }, { accessFlags := 25, nameIndex := 318, descriptorIndex := 194, attributes := #[] }, { accessFlags := 26, nameIndex := 320, descriptorIndex := 321, attributes := #[] }])
  fields := #[{ name := "MIN_VALUE", type := .int, accessFlags := 25, slot := 0, constantValue := 0 }, { name := "MAX_VALUE", type := .int, accessFlags := 25, slot := 1, constantValue := 0 }, { name := "TYPE", type := (.object "java/lang/Class"), accessFlags := 25, slot := 2, constantValue := 0 }, { name := "digits", type := (.array .char), accessFlags := 24, slot := 3, constantValue := 0 }, { name := "DigitTens", type := (.array .byte), accessFlags := 24, slot := 4, constantValue := 0 }, { name := "DigitOnes", type := (.array .byte), accessFlags := 24, slot := 5, constantValue := 0 }, { name := "value", type := .int, accessFlags := 18, slot := 0, constantValue := 0 }, { name := "SIZE", type := .int, accessFlags := 25, slot := 6, constantValue := 0 }, { name := "BYTES", type := .int, accessFlags := 25, slot := 7, constantValue := 0 }, { name := "serialVersionUID", type := .long, accessFlags := 26, slot := 8, constantValue := 0 }]
  methods := #[k9m0, k9m1]
  instanceTypes := #[.int]
  staticTypes := #[.int, .int, (.object "java/lang/Class"), (.array .char), (.array .byte), (.array .byte), .int, .int, .long]
  resolved := Array.replicate 453 none
  statics := none }

def pool10 : Array CpInfo := pool [(2, .class_ 4), (1, u "java/lang/Object"), (0, u "<init>"), (0, u "()V"), (0, .class_ 8), (0, u "java/lang/Integer"), (7, .class_ 18), (1, u "java/lang/Integer$IntegerCache"), (0, u "$assertionsDisabled"), (0, u "Z"), (26, u "high"), (0, u "I"), (8, u "archivedCache"), (0, u "[Ljava/lang/Integer;"), (12, u "cache"), (0, u "low")] 27

def k10m0 : Method := { name := "<init>", desc := "()V", sig := { parameters := [], returnType := none }, accessFlags := 2, code := none }
/-- java/lang/Integer$IntegerCache -/
def k10 : Class := { plain "java/lang/Integer$IntegerCache" (some 0) with
  accessFlags := 48
  interfaces := #[]
  cf := some (fileOf pool10 16 #[.nestHost 7] #[{ accessFlags := 2, nameIndex := 5, descriptorIndex := 6, attributes := #[] }] 48 2 #[] #[{ accessFlags := 24, nameIndex := 72, descriptorIndex := 48, attributes := #[] }, { accessFlags := 24, nameIndex := 47, descriptorIndex := 48, attributes := #[] }, { accessFlags := 24, nameIndex := 71, descriptorIndex := 58, attributes := #[] }, { accessFlags := 8, nameIndex := 57, descriptorIndex := 58, attributes := #[] }, { accessFlags := 4120, nameIndex := 19, descriptorIndex := 20, attributes := #[] }])
  fields := #[{ name := "low", type := .int, accessFlags := 24, slot := 0, constantValue := 0 }, { name := "high", type := .int, accessFlags := 24, slot := 1, constantValue := 0 }, { name := "cache", type := (.array (.object "java/lang/Integer")), accessFlags := 24, slot := 2, constantValue := 0 }, { name := "archivedCache", type := (.array (.object "java/lang/Integer")), accessFlags := 8, slot := 3, constantValue := 0 }, { name := "$assertionsDisabled", type := .boolean, accessFlags := 4120, slot := 4, constantValue := 0 }]
  methods := #[k10m0]
  instanceTypes := #[]
  staticTypes := #[.int, .int, (.array (.object "java/lang/Integer")), (.array (.object "java/lang/Integer")), .boolean]
  resolved := Array.replicate 100 none
  statics := some 0 }

def pool11 : Array CpInfo := pool [(1, .methodref 2 3), (0, .class_ 4), (0, .nameAndType 5 6), (0, u "java/lang/Record"), (0, u "<init>"), (0, u "()V"), (0, .fieldref 8 9), (0, .class_ 10), (0, .nameAndType 11 12), (0, u "com/example/meshwright/meshwright/Architecture$Holding"), (0, u "values"), (0, u "I"), (0, .fieldref 8 14), (0, .nameAndType 15 12), (0, u "cycles"), (14, u "(II)V"), (2, u "NONE"), (0, u "Lcom/example/meshwright/meshwright/Architecture$Holding;"), (10, .class_ 46), (0, u "com/example/meshwright/meshwright/Architecture")] 20

def k11c0 : Code := { maxStack := 2, maxLocals := 3, code := prog_2_method_1_code, exceptionTable := #[], attributes := #[] }
def k11m0 : Method := { name := "<init>", desc := "(II)V", sig := { parameters := [.int, .int], returnType := none }, accessFlags := 0, code := some k11c0 }
/-- com/example/meshwright/meshwright/Architecture$Holding -/
def k11 : Class := { plain "com/example/meshwright/meshwright/Architecture$Holding" (some 2) with
  accessFlags := 48
  interfaces := #[]
  cf := some (fileOf pool11 8 #[.nestHost 45] #[{ accessFlags := 0, nameIndex := 5, descriptorIndex := 30, attributes := #[] }] 48 2 #[] #[{ accessFlags := 18, nameIndex := 11, descriptorIndex := 12, attributes := #[] }, { accessFlags := 18, nameIndex := 15, descriptorIndex := 12, attributes := #[] }, { accessFlags := 24, nameIndex := 33, descriptorIndex := 34, attributes := #[] }])
  fields := #[{ name := "values", type := .int, accessFlags := 18, slot := 0, constantValue := 0 }, { name := "cycles", type := .int, accessFlags := 18, slot := 1, constantValue := 0 }, { name := "NONE", type := (.object "com/example/meshwright/meshwright/Architecture$Holding"), accessFlags := 24, slot := 0, constantValue := 0 }]
  methods := #[k11m0]
  instanceTypes := #[.int, .int]
  staticTypes := #[(.object "com/example/meshwright/meshwright/Architecture$Holding")]
  resolved := Array.replicate 67 none
  statics := none }

def pool12 : Array CpInfo := pool [(1, u "java/lang/Cloneable"), (0, .class_ 1), (0, u "java/lang/Object"), (0, .class_ 3)] 3

/-- java/lang/Cloneable -/
def k12 : Class := { plain "java/lang/Cloneable" (some 0) with
  accessFlags := 1537
  interfaces := #[]
  cf := some (fileOf pool12 2 #[] #[] 1537 4 #[] #[])
  fields := #[]
  methods := #[]
  instanceTypes := #[]
  staticTypes := #[]
  resolved := Array.replicate 8 none
  statics := none }

/-- the primitive byte -/
def k13 : Class := { plain "byte" none with kind := .primitive 'B', accessFlags := 0x411 }
/-- [B -/
def k14 : Class := { plain "[B" (some 0) with kind := .array 13 .byte, interfaces := #[12, 4], accessFlags := 1041 }

/-- the primitive int -/
def k15 : Class := { plain "int" none with kind := .primitive 'I', accessFlags := 0x411 }
/-- [I -/
def k16 : Class := { plain "[I" (some 0) with kind := .array 15 .int, interfaces := #[12, 4], accessFlags := 1041 }

/-- [Ljava/lang/Integer; -/
def k17 : Class := { plain "[Ljava/lang/Integer;" (some 0) with kind := .array 9 (.object "java/lang/Integer"), interfaces := #[12, 4], accessFlags := 1041 }

def heap : Heap := #[{ cls := 10, slots := #[.int 0, .int 127, .ref 1, .null, .int 0], vm := .statics 10 },
  { cls := 17, slots := #[.ref 2, .ref 3, .ref 4, .ref 5, .ref 6, .ref 7, .ref 8, .ref 9, .ref 10, .ref 11, .ref 12, .ref 13, .ref 14, .ref 15, .ref 16, .ref 17, .ref 18, .ref 19, .ref 20, .ref 21, .ref 22, .ref 23, .ref 24, .ref 25, .ref 26, .ref 27, .ref 28, .ref 29, .ref 30, .ref 31, .ref 32, .ref 33, .ref 34, .ref 35, .ref 36, .ref 37, .ref 38, .ref 39, .ref 40, .ref 41, .ref 42, .ref 43, .ref 44, .ref 45, .ref 46, .ref 47, .ref 48, .ref 49, .ref 50, .ref 51, .ref 52, .ref 53, .ref 54, .ref 55, .ref 56, .ref 57, .ref 58, .ref 59, .ref 60, .ref 61, .ref 62, .ref 63, .ref 64, .ref 65, .ref 66, .ref 67, .ref 68, .ref 69, .ref 70, .ref 71, .ref 72, .ref 73, .ref 74, .ref 75, .ref 76, .ref 77, .ref 78, .ref 79, .ref 80, .ref 81, .ref 82, .ref 83, .ref 84, .ref 85, .ref 86, .ref 87, .ref 88, .ref 89, .ref 90, .ref 91, .ref 92, .ref 93, .ref 94, .ref 95, .ref 96, .ref 97, .ref 98, .ref 99, .ref 100, .ref 101, .ref 102, .ref 103, .ref 104, .ref 105, .ref 106, .ref 107, .ref 108, .ref 109, .ref 110, .ref 111, .ref 112, .ref 113, .ref 114, .ref 115, .ref 116, .ref 117, .ref 118, .ref 119, .ref 120, .ref 121, .ref 122, .ref 123, .ref 124, .ref 125, .ref 126, .ref 127, .ref 128, .ref 129, .ref 130, .ref 131, .ref 132, .ref 133, .ref 134, .ref 135, .ref 136, .ref 137, .ref 138, .ref 139, .ref 140, .ref 141, .ref 142, .ref 143, .ref 144, .ref 145, .ref 146, .ref 147, .ref 148, .ref 149, .ref 150, .ref 151, .ref 152, .ref 153, .ref 154, .ref 155, .ref 156, .ref 157, .ref 158, .ref 159, .ref 160, .ref 161, .ref 162, .ref 163, .ref 164, .ref 165, .ref 166, .ref 167, .ref 168, .ref 169, .ref 170, .ref 171, .ref 172, .ref 173, .ref 174, .ref 175, .ref 176, .ref 177, .ref 178, .ref 179, .ref 180, .ref 181, .ref 182, .ref 183, .ref 184, .ref 185, .ref 186, .ref 187, .ref 188, .ref 189, .ref 190, .ref 191, .ref 192, .ref 193, .ref 194, .ref 195, .ref 196, .ref 197, .ref 198, .ref 199, .ref 200, .ref 201, .ref 202, .ref 203, .ref 204, .ref 205, .ref 206, .ref 207, .ref 208, .ref 209, .ref 210, .ref 211, .ref 212, .ref 213, .ref 214, .ref 215, .ref 216, .ref 217, .ref 218, .ref 219, .ref 220, .ref 221, .ref 222, .ref 223, .ref 224, .ref 225, .ref 226, .ref 227, .ref 228, .ref 229, .ref 230, .ref 231, .ref 232, .ref 233, .ref 234, .ref 235, .ref 236, .ref 237, .ref 238, .ref 239, .ref 240, .ref 241, .ref 242, .ref 243, .ref 244, .ref 245, .ref 246, .ref 247, .ref 248, .ref 249, .ref 250, .ref 251, .ref 252, .ref 253, .ref 254, .ref 255, .ref 256, .ref 257], vm := .none },
  { cls := 9, slots := #[.int (-128)], vm := .none },
  { cls := 9, slots := #[.int (-127)], vm := .none },
  { cls := 9, slots := #[.int (-126)], vm := .none },
  { cls := 9, slots := #[.int (-125)], vm := .none },
  { cls := 9, slots := #[.int (-124)], vm := .none },
  { cls := 9, slots := #[.int (-123)], vm := .none },
  { cls := 9, slots := #[.int (-122)], vm := .none },
  { cls := 9, slots := #[.int (-121)], vm := .none },
  { cls := 9, slots := #[.int (-120)], vm := .none },
  { cls := 9, slots := #[.int (-119)], vm := .none },
  { cls := 9, slots := #[.int (-118)], vm := .none },
  { cls := 9, slots := #[.int (-117)], vm := .none },
  { cls := 9, slots := #[.int (-116)], vm := .none },
  { cls := 9, slots := #[.int (-115)], vm := .none },
  { cls := 9, slots := #[.int (-114)], vm := .none },
  { cls := 9, slots := #[.int (-113)], vm := .none },
  { cls := 9, slots := #[.int (-112)], vm := .none },
  { cls := 9, slots := #[.int (-111)], vm := .none },
  { cls := 9, slots := #[.int (-110)], vm := .none },
  { cls := 9, slots := #[.int (-109)], vm := .none },
  { cls := 9, slots := #[.int (-108)], vm := .none },
  { cls := 9, slots := #[.int (-107)], vm := .none },
  { cls := 9, slots := #[.int (-106)], vm := .none },
  { cls := 9, slots := #[.int (-105)], vm := .none },
  { cls := 9, slots := #[.int (-104)], vm := .none },
  { cls := 9, slots := #[.int (-103)], vm := .none },
  { cls := 9, slots := #[.int (-102)], vm := .none },
  { cls := 9, slots := #[.int (-101)], vm := .none },
  { cls := 9, slots := #[.int (-100)], vm := .none },
  { cls := 9, slots := #[.int (-99)], vm := .none },
  { cls := 9, slots := #[.int (-98)], vm := .none },
  { cls := 9, slots := #[.int (-97)], vm := .none },
  { cls := 9, slots := #[.int (-96)], vm := .none },
  { cls := 9, slots := #[.int (-95)], vm := .none },
  { cls := 9, slots := #[.int (-94)], vm := .none },
  { cls := 9, slots := #[.int (-93)], vm := .none },
  { cls := 9, slots := #[.int (-92)], vm := .none },
  { cls := 9, slots := #[.int (-91)], vm := .none },
  { cls := 9, slots := #[.int (-90)], vm := .none },
  { cls := 9, slots := #[.int (-89)], vm := .none },
  { cls := 9, slots := #[.int (-88)], vm := .none },
  { cls := 9, slots := #[.int (-87)], vm := .none },
  { cls := 9, slots := #[.int (-86)], vm := .none },
  { cls := 9, slots := #[.int (-85)], vm := .none },
  { cls := 9, slots := #[.int (-84)], vm := .none },
  { cls := 9, slots := #[.int (-83)], vm := .none },
  { cls := 9, slots := #[.int (-82)], vm := .none },
  { cls := 9, slots := #[.int (-81)], vm := .none },
  { cls := 9, slots := #[.int (-80)], vm := .none },
  { cls := 9, slots := #[.int (-79)], vm := .none },
  { cls := 9, slots := #[.int (-78)], vm := .none },
  { cls := 9, slots := #[.int (-77)], vm := .none },
  { cls := 9, slots := #[.int (-76)], vm := .none },
  { cls := 9, slots := #[.int (-75)], vm := .none },
  { cls := 9, slots := #[.int (-74)], vm := .none },
  { cls := 9, slots := #[.int (-73)], vm := .none },
  { cls := 9, slots := #[.int (-72)], vm := .none },
  { cls := 9, slots := #[.int (-71)], vm := .none },
  { cls := 9, slots := #[.int (-70)], vm := .none },
  { cls := 9, slots := #[.int (-69)], vm := .none },
  { cls := 9, slots := #[.int (-68)], vm := .none },
  { cls := 9, slots := #[.int (-67)], vm := .none },
  { cls := 9, slots := #[.int (-66)], vm := .none },
  { cls := 9, slots := #[.int (-65)], vm := .none },
  { cls := 9, slots := #[.int (-64)], vm := .none },
  { cls := 9, slots := #[.int (-63)], vm := .none },
  { cls := 9, slots := #[.int (-62)], vm := .none },
  { cls := 9, slots := #[.int (-61)], vm := .none },
  { cls := 9, slots := #[.int (-60)], vm := .none },
  { cls := 9, slots := #[.int (-59)], vm := .none },
  { cls := 9, slots := #[.int (-58)], vm := .none },
  { cls := 9, slots := #[.int (-57)], vm := .none },
  { cls := 9, slots := #[.int (-56)], vm := .none },
  { cls := 9, slots := #[.int (-55)], vm := .none },
  { cls := 9, slots := #[.int (-54)], vm := .none },
  { cls := 9, slots := #[.int (-53)], vm := .none },
  { cls := 9, slots := #[.int (-52)], vm := .none },
  { cls := 9, slots := #[.int (-51)], vm := .none },
  { cls := 9, slots := #[.int (-50)], vm := .none },
  { cls := 9, slots := #[.int (-49)], vm := .none },
  { cls := 9, slots := #[.int (-48)], vm := .none },
  { cls := 9, slots := #[.int (-47)], vm := .none },
  { cls := 9, slots := #[.int (-46)], vm := .none },
  { cls := 9, slots := #[.int (-45)], vm := .none },
  { cls := 9, slots := #[.int (-44)], vm := .none },
  { cls := 9, slots := #[.int (-43)], vm := .none },
  { cls := 9, slots := #[.int (-42)], vm := .none },
  { cls := 9, slots := #[.int (-41)], vm := .none },
  { cls := 9, slots := #[.int (-40)], vm := .none },
  { cls := 9, slots := #[.int (-39)], vm := .none },
  { cls := 9, slots := #[.int (-38)], vm := .none },
  { cls := 9, slots := #[.int (-37)], vm := .none },
  { cls := 9, slots := #[.int (-36)], vm := .none },
  { cls := 9, slots := #[.int (-35)], vm := .none },
  { cls := 9, slots := #[.int (-34)], vm := .none },
  { cls := 9, slots := #[.int (-33)], vm := .none },
  { cls := 9, slots := #[.int (-32)], vm := .none },
  { cls := 9, slots := #[.int (-31)], vm := .none },
  { cls := 9, slots := #[.int (-30)], vm := .none },
  { cls := 9, slots := #[.int (-29)], vm := .none },
  { cls := 9, slots := #[.int (-28)], vm := .none },
  { cls := 9, slots := #[.int (-27)], vm := .none },
  { cls := 9, slots := #[.int (-26)], vm := .none },
  { cls := 9, slots := #[.int (-25)], vm := .none },
  { cls := 9, slots := #[.int (-24)], vm := .none },
  { cls := 9, slots := #[.int (-23)], vm := .none },
  { cls := 9, slots := #[.int (-22)], vm := .none },
  { cls := 9, slots := #[.int (-21)], vm := .none },
  { cls := 9, slots := #[.int (-20)], vm := .none },
  { cls := 9, slots := #[.int (-19)], vm := .none },
  { cls := 9, slots := #[.int (-18)], vm := .none },
  { cls := 9, slots := #[.int (-17)], vm := .none },
  { cls := 9, slots := #[.int (-16)], vm := .none },
  { cls := 9, slots := #[.int (-15)], vm := .none },
  { cls := 9, slots := #[.int (-14)], vm := .none },
  { cls := 9, slots := #[.int (-13)], vm := .none },
  { cls := 9, slots := #[.int (-12)], vm := .none },
  { cls := 9, slots := #[.int (-11)], vm := .none },
  { cls := 9, slots := #[.int (-10)], vm := .none },
  { cls := 9, slots := #[.int (-9)], vm := .none },
  { cls := 9, slots := #[.int (-8)], vm := .none },
  { cls := 9, slots := #[.int (-7)], vm := .none },
  { cls := 9, slots := #[.int (-6)], vm := .none },
  { cls := 9, slots := #[.int (-5)], vm := .none },
  { cls := 9, slots := #[.int (-4)], vm := .none },
  { cls := 9, slots := #[.int (-3)], vm := .none },
  { cls := 9, slots := #[.int (-2)], vm := .none },
  { cls := 9, slots := #[.int (-1)], vm := .none },
  { cls := 9, slots := #[.int 0], vm := .none },
  { cls := 9, slots := #[.int 1], vm := .none },
  { cls := 9, slots := #[.int 2], vm := .none },
  { cls := 9, slots := #[.int 3], vm := .none },
  { cls := 9, slots := #[.int 4], vm := .none },
  { cls := 9, slots := #[.int 5], vm := .none },
  { cls := 9, slots := #[.int 6], vm := .none },
  { cls := 9, slots := #[.int 7], vm := .none },
  { cls := 9, slots := #[.int 8], vm := .none },
  { cls := 9, slots := #[.int 9], vm := .none },
  { cls := 9, slots := #[.int 10], vm := .none },
  { cls := 9, slots := #[.int 11], vm := .none },
  { cls := 9, slots := #[.int 12], vm := .none },
  { cls := 9, slots := #[.int 13], vm := .none },
  { cls := 9, slots := #[.int 14], vm := .none },
  { cls := 9, slots := #[.int 15], vm := .none },
  { cls := 9, slots := #[.int 16], vm := .none },
  { cls := 9, slots := #[.int 17], vm := .none },
  { cls := 9, slots := #[.int 18], vm := .none },
  { cls := 9, slots := #[.int 19], vm := .none },
  { cls := 9, slots := #[.int 20], vm := .none },
  { cls := 9, slots := #[.int 21], vm := .none },
  { cls := 9, slots := #[.int 22], vm := .none },
  { cls := 9, slots := #[.int 23], vm := .none },
  { cls := 9, slots := #[.int 24], vm := .none },
  { cls := 9, slots := #[.int 25], vm := .none },
  { cls := 9, slots := #[.int 26], vm := .none },
  { cls := 9, slots := #[.int 27], vm := .none },
  { cls := 9, slots := #[.int 28], vm := .none },
  { cls := 9, slots := #[.int 29], vm := .none },
  { cls := 9, slots := #[.int 30], vm := .none },
  { cls := 9, slots := #[.int 31], vm := .none },
  { cls := 9, slots := #[.int 32], vm := .none },
  { cls := 9, slots := #[.int 33], vm := .none },
  { cls := 9, slots := #[.int 34], vm := .none },
  { cls := 9, slots := #[.int 35], vm := .none },
  { cls := 9, slots := #[.int 36], vm := .none },
  { cls := 9, slots := #[.int 37], vm := .none },
  { cls := 9, slots := #[.int 38], vm := .none },
  { cls := 9, slots := #[.int 39], vm := .none },
  { cls := 9, slots := #[.int 40], vm := .none },
  { cls := 9, slots := #[.int 41], vm := .none },
  { cls := 9, slots := #[.int 42], vm := .none },
  { cls := 9, slots := #[.int 43], vm := .none },
  { cls := 9, slots := #[.int 44], vm := .none },
  { cls := 9, slots := #[.int 45], vm := .none },
  { cls := 9, slots := #[.int 46], vm := .none },
  { cls := 9, slots := #[.int 47], vm := .none },
  { cls := 9, slots := #[.int 48], vm := .none },
  { cls := 9, slots := #[.int 49], vm := .none },
  { cls := 9, slots := #[.int 50], vm := .none },
  { cls := 9, slots := #[.int 51], vm := .none },
  { cls := 9, slots := #[.int 52], vm := .none },
  { cls := 9, slots := #[.int 53], vm := .none },
  { cls := 9, slots := #[.int 54], vm := .none },
  { cls := 9, slots := #[.int 55], vm := .none },
  { cls := 9, slots := #[.int 56], vm := .none },
  { cls := 9, slots := #[.int 57], vm := .none },
  { cls := 9, slots := #[.int 58], vm := .none },
  { cls := 9, slots := #[.int 59], vm := .none },
  { cls := 9, slots := #[.int 60], vm := .none },
  { cls := 9, slots := #[.int 61], vm := .none },
  { cls := 9, slots := #[.int 62], vm := .none },
  { cls := 9, slots := #[.int 63], vm := .none },
  { cls := 9, slots := #[.int 64], vm := .none },
  { cls := 9, slots := #[.int 65], vm := .none },
  { cls := 9, slots := #[.int 66], vm := .none },
  { cls := 9, slots := #[.int 67], vm := .none },
  { cls := 9, slots := #[.int 68], vm := .none },
  { cls := 9, slots := #[.int 69], vm := .none },
  { cls := 9, slots := #[.int 70], vm := .none },
  { cls := 9, slots := #[.int 71], vm := .none },
  { cls := 9, slots := #[.int 72], vm := .none },
  { cls := 9, slots := #[.int 73], vm := .none },
  { cls := 9, slots := #[.int 74], vm := .none },
  { cls := 9, slots := #[.int 75], vm := .none },
  { cls := 9, slots := #[.int 76], vm := .none },
  { cls := 9, slots := #[.int 77], vm := .none },
  { cls := 9, slots := #[.int 78], vm := .none },
  { cls := 9, slots := #[.int 79], vm := .none },
  { cls := 9, slots := #[.int 80], vm := .none },
  { cls := 9, slots := #[.int 81], vm := .none },
  { cls := 9, slots := #[.int 82], vm := .none },
  { cls := 9, slots := #[.int 83], vm := .none },
  { cls := 9, slots := #[.int 84], vm := .none },
  { cls := 9, slots := #[.int 85], vm := .none },
  { cls := 9, slots := #[.int 86], vm := .none },
  { cls := 9, slots := #[.int 87], vm := .none },
  { cls := 9, slots := #[.int 88], vm := .none },
  { cls := 9, slots := #[.int 89], vm := .none },
  { cls := 9, slots := #[.int 90], vm := .none },
  { cls := 9, slots := #[.int 91], vm := .none },
  { cls := 9, slots := #[.int 92], vm := .none },
  { cls := 9, slots := #[.int 93], vm := .none },
  { cls := 9, slots := #[.int 94], vm := .none },
  { cls := 9, slots := #[.int 95], vm := .none },
  { cls := 9, slots := #[.int 96], vm := .none },
  { cls := 9, slots := #[.int 97], vm := .none },
  { cls := 9, slots := #[.int 98], vm := .none },
  { cls := 9, slots := #[.int 99], vm := .none },
  { cls := 9, slots := #[.int 100], vm := .none },
  { cls := 9, slots := #[.int 101], vm := .none },
  { cls := 9, slots := #[.int 102], vm := .none },
  { cls := 9, slots := #[.int 103], vm := .none },
  { cls := 9, slots := #[.int 104], vm := .none },
  { cls := 9, slots := #[.int 105], vm := .none },
  { cls := 9, slots := #[.int 106], vm := .none },
  { cls := 9, slots := #[.int 107], vm := .none },
  { cls := 9, slots := #[.int 108], vm := .none },
  { cls := 9, slots := #[.int 109], vm := .none },
  { cls := 9, slots := #[.int 110], vm := .none },
  { cls := 9, slots := #[.int 111], vm := .none },
  { cls := 9, slots := #[.int 112], vm := .none },
  { cls := 9, slots := #[.int 113], vm := .none },
  { cls := 9, slots := #[.int 114], vm := .none },
  { cls := 9, slots := #[.int 115], vm := .none },
  { cls := 9, slots := #[.int 116], vm := .none },
  { cls := 9, slots := #[.int 117], vm := .none },
  { cls := 9, slots := #[.int 118], vm := .none },
  { cls := 9, slots := #[.int 119], vm := .none },
  { cls := 9, slots := #[.int 120], vm := .none },
  { cls := 9, slots := #[.int 121], vm := .none },
  { cls := 9, slots := #[.int 122], vm := .none },
  { cls := 9, slots := #[.int 123], vm := .none },
  { cls := 9, slots := #[.int 124], vm := .none },
  { cls := 9, slots := #[.int 125], vm := .none },
  { cls := 9, slots := #[.int 126], vm := .none },
  { cls := 9, slots := #[.int 127], vm := .none }]
def classes : Array Class := #[k0, k1, k2, k3, k4, k5, k6, k7, k8, k9, k10, k11, k12, k13, k14, k15, k16, k17]
def interned : List (Array UInt16 × Addr) := []
def slotsUsed : Nat := 517
def theMethod : MethodId := ⟨1, 1⟩
def args0 : Array Value := #[.int 1, .int 2, .int 3, .int 4, .int 5]
def aboutOver (below : List Frame) : State where
  vm := { classes := classes, interned := interned.toArray }
  heap := heap
  slotsUsed := slotsUsed
  threads := #[{ frames := .invoking theMethod args0 :: below }]
def below0 : List Frame := [.native { method := ⟨0, 0⟩, args := #[] }]
def about1 : State := aboutOver below0
def p0 : Program := .bare "" "" ""
def e0 : Env := launch0.env 0 0 0
theorem w_frames : about1.frames = Frame.invoking theMethod args0 :: below0 := rfl
set_option maxRecDepth 65536 in
theorem w_args : argsFit about1.vm theMethod args0 = true := by decide +kernel
set_option maxRecDepth 65536 in
theorem w_heap : heapFits about1 = true := by decide +kernel
set_option maxRecDepth 65536 in
theorem w_runnable : about1.curStatus? = some .runnable := by decide +kernel
set_option maxRecDepth 65536 in
theorem w_alone : about1.alone = true := by decide +kernel
set_option maxRecDepth 65536 in
theorem w_named : about1.methodNamed? x = some theMethod := by decide +kernel
set_option maxRecDepth 65536 in
theorem w_hears : about1.hears theMethod below0 = true := by decide +kernel
set_option maxRecDepth 65536 in
theorem w_ripe : about1.ripe theMethod args0 below0 = true := by decide +kernel
theorem w_running : about1.status = .running := rfl
set_option maxRecDepth 65536 in
theorem w_room : about1.hasRoom e0.platform room_1 = true :=
  launch0.hasRoom_least _ room_1 (by decide +kernel) (by decide +kernel) (by decide +kernel) (by decide +kernel) (by decide +kernel) (by decide +kernel)
theorem allAtoms_all (ts : List Jvm.Cond) (a : Array Jvm.Value) (st : Jvm.State) : (allAtoms ts).before a st = ts.all (fun c => c.before a st) := by
  induction ts with
  | nil => rfl
  | cons c t ih =>
    show (Jvm.Cond.and c (allAtoms t)).before a st = _
    rw [Jvm.Cond.before_and, ih, List.all_cons]
def words1 : List Jvm.Cond := Jvm.Cond.code x code maxLocals ret :: tables_1
/-- a 'code' word, met by the world's own term for the bytes: nothing is compared byte by byte -/
theorem code_word {y : MethodName} {bytes : ByteArray} {mx : Nat} {rt : Option FieldType} {a : Array Value} {s : State} {m : MethodId} {meth : Method} {c : Code} (h1 : s.methodNamed? y = some m) (h2 : s.vm.method? m = some meth) (h3 : meth.code = some c) (h4 : c.code = bytes)
    (h5 : (c.maxLocals == mx && c.exceptionTable.isEmpty && decide (c.maxStack ≤ mostOperands) && decide (meth.sig.returnType = rt) && !meth.locks && decide (parseMethodDescriptor y.desc = some meth.sig)) = true) : (Jvm.Cond.code y bytes mx rt).before a s = true := by
  simp only [Bool.and_eq_true, beq_iff_eq, Bool.not_eq_true', decide_eq_true_eq] at h5
  obtain ⟨⟨⟨⟨⟨g1, g2⟩, g3⟩, g4⟩, g5⟩, g6⟩ := h5
  simp [Cond.before, Cond.holds, Cond.value, h1, h2, h3, h4, g1, g2, g3, g4, g5, g6]
def isCode : Jvm.Cond → Bool
  | .code _ _ _ _ => true
  | _ => false
theorem all_split {L : List Jvm.Cond} {P : Jvm.Cond → Bool} (h1 : L.all (fun c => isCode c || P c) = true) (h2 : ∀ c ∈ L.filter isCode, P c = true) : L.all P = true := by
  refine List.all_eq_true.mpr fun c hc => ?_
  have h := List.all_eq_true.mp h1 c hc
  rcases Bool.eq_false_or_eq_true (isCode c) with hi | hi
  · exact h2 c (List.mem_filter.mpr ⟨hc, hi⟩)
  · simpa [hi] using h
set_option maxRecDepth 65536 in
theorem w_c0 : (Jvm.Cond.code x code maxLocals ret).before args0 about1 = true := code_word (m := ⟨1, 1⟩) (meth := k1m1) (c := k1c1) (by decide +kernel) rfl rfl rfl (by decide +kernel)
set_option maxRecDepth 65536 in
theorem w_c1 : (Jvm.Cond.code ({ cls := "com/example/meshwright/meshwright/Architecture$Mesh", name := "<init>", desc := "(II)V" } : Jvm.MethodName) prog_4_method_1_code (3 : Nat) (Option.none : Option Jvm.ClassFile.FieldType)).before args0 about1 = true := code_word (m := ⟨3, 0⟩) (meth := k3m0) (c := k3c0) (by decide +kernel) rfl rfl rfl (by decide +kernel)
set_option maxRecDepth 65536 in
theorem w_c2 : (Jvm.Cond.code ({ cls := "java/lang/Record", name := "<init>", desc := "()V" } : Jvm.MethodName) jdk_30_method_1_code (1 : Nat) (Option.none : Option Jvm.ClassFile.FieldType)).before args0 about1 = true := code_word (m := ⟨2, 0⟩) (meth := k2m0) (c := k2c0) (by decide +kernel) rfl rfl rfl (by decide +kernel)
set_option maxRecDepth 65536 in
theorem w_c3 : (Jvm.Cond.code ({ cls := "java/lang/Object", name := "<init>", desc := "()V" } : Jvm.MethodName) object_method_1_code (1 : Nat) (Option.none : Option Jvm.ClassFile.FieldType)).before args0 about1 = true := code_word (m := ⟨0, 0⟩) (meth := k0m0) (c := k0c0) (by decide +kernel) rfl rfl rfl (by decide +kernel)
set_option maxRecDepth 65536 in
theorem w_c4 : (Jvm.Cond.code ({ cls := "com/example/meshwright/meshwright/Architecture$Mesh", name := "equals", desc := "(Ljava/lang/Object;)Z" } : Jvm.MethodName) prog_4_method_2_code (3 : Nat) (Option.some Jvm.ClassFile.FieldType.boolean)).before args0 about1 = true := code_word (m := ⟨3, 1⟩) (meth := k3m1) (c := k3c1) (by decide +kernel) rfl rfl rfl (by decide +kernel)
set_option maxRecDepth 65536 in
theorem w_c5 : (Jvm.Cond.code ({ cls := "java/lang/Integer", name := "valueOf", desc := "(I)Ljava/lang/Integer;" } : Jvm.MethodName) jdk_33_method_22_code (1 : Nat) (Option.some (Jvm.ClassFile.FieldType.object "java/lang/Integer"))).before args0 about1 = true := code_word (m := ⟨9, 0⟩) (meth := k9m0) (c := k9c0) (by decide +kernel) rfl rfl rfl (by decide +kernel)
set_option maxRecDepth 65536 in
theorem w_c6 : (Jvm.Cond.code ({ cls := "java/lang/Integer", name := "<init>", desc := "(I)V" } : Jvm.MethodName) jdk_33_method_23_code (2 : Nat) (Option.none : Option Jvm.ClassFile.FieldType)).before args0 about1 = true := code_word (m := ⟨9, 1⟩) (meth := k9m1) (c := k9c1) (by decide +kernel) rfl rfl rfl (by decide +kernel)
set_option maxRecDepth 65536 in
theorem w_c7 : (Jvm.Cond.code ({ cls := "java/lang/Number", name := "<init>", desc := "()V" } : Jvm.MethodName) jdk_18_method_1_code (1 : Nat) (Option.none : Option Jvm.ClassFile.FieldType)).before args0 about1 = true := code_word (m := ⟨5, 0⟩) (meth := k5m0) (c := k5c0) (by decide +kernel) rfl rfl rfl (by decide +kernel)
set_option maxRecDepth 65536 in
theorem w_c8 : (Jvm.Cond.code ({ cls := "com/example/meshwright/meshwright/Architecture$Holding", name := "<init>", desc := "(II)V" } : Jvm.MethodName) prog_2_method_1_code (3 : Nat) (Option.none : Option Jvm.ClassFile.FieldType)).before args0 about1 = true := code_word (m := ⟨11, 0⟩) (meth := k11m0) (c := k11c0) (by decide +kernel) rfl rfl rfl (by decide +kernel)
def codes1 : List Jvm.Cond := [Jvm.Cond.code x code maxLocals ret, Jvm.Cond.code ({ cls := "com/example/meshwright/meshwright/Architecture$Mesh", name := "<init>", desc := "(II)V" } : Jvm.MethodName) prog_4_method_1_code (3 : Nat) (Option.none : Option Jvm.ClassFile.FieldType), Jvm.Cond.code ({ cls := "java/lang/Record", name := "<init>", desc := "()V" } : Jvm.MethodName) jdk_30_method_1_code (1 : Nat) (Option.none : Option Jvm.ClassFile.FieldType), Jvm.Cond.code ({ cls := "java/lang/Object", name := "<init>", desc := "()V" } : Jvm.MethodName) object_method_1_code (1 : Nat) (Option.none : Option Jvm.ClassFile.FieldType), Jvm.Cond.code ({ cls := "com/example/meshwright/meshwright/Architecture$Mesh", name := "equals", desc := "(Ljava/lang/Object;)Z" } : Jvm.MethodName) prog_4_method_2_code (3 : Nat) (Option.some Jvm.ClassFile.FieldType.boolean), Jvm.Cond.code ({ cls := "java/lang/Integer", name := "valueOf", desc := "(I)Ljava/lang/Integer;" } : Jvm.MethodName) jdk_33_method_22_code (1 : Nat) (Option.some (Jvm.ClassFile.FieldType.object "java/lang/Integer")), Jvm.Cond.code ({ cls := "java/lang/Integer", name := "<init>", desc := "(I)V" } : Jvm.MethodName) jdk_33_method_23_code (2 : Nat) (Option.none : Option Jvm.ClassFile.FieldType), Jvm.Cond.code ({ cls := "java/lang/Number", name := "<init>", desc := "()V" } : Jvm.MethodName) jdk_18_method_1_code (1 : Nat) (Option.none : Option Jvm.ClassFile.FieldType), Jvm.Cond.code ({ cls := "com/example/meshwright/meshwright/Architecture$Holding", name := "<init>", desc := "(II)V" } : Jvm.MethodName) prog_2_method_1_code (3 : Nat) (Option.none : Option Jvm.ClassFile.FieldType)]
set_option maxRecDepth 65536 in
theorem codes_eq : words1.filter isCode = codes1 := rfl
theorem w_codes : ∀ c ∈ words1.filter isCode, c.before args0 about1 = true := by
  rw [codes_eq]
  intro c hc
  simp only [codes1, List.mem_cons, List.not_mem_nil, or_false] at hc
  rcases hc with rfl | rfl | rfl | rfl | rfl | rfl | rfl | rfl | rfl
  · exact w_c0
  · exact w_c1
  · exact w_c2
  · exact w_c3
  · exact w_c4
  · exact w_c5
  · exact w_c6
  · exact w_c7
  · exact w_c8
set_option maxRecDepth 65536 in
theorem w_t1 : (words1.take 24).all (fun c => isCode c || c.before args0 about1) = true := by decide +kernel
set_option maxRecDepth 65536 in
theorem w_t2 : ((words1.drop 24).take 24).all (fun c => isCode c || c.before args0 about1) = true := by decide +kernel
set_option maxRecDepth 65536 in
theorem w_t3 : ((words1.drop 24).drop 24).all (fun c => isCode c || c.before args0 about1) = true := by decide +kernel
theorem w_tables : (allAtoms (Jvm.Cond.code x code maxLocals ret :: tables_1)).before args0 about1 = true := by
  rw [allAtoms_all]
  show words1.all (fun c => c.before args0 about1) = true
  refine all_split ?_ w_codes
  rw [← List.take_append_drop 24 words1, List.all_append, w_t1, ← List.take_append_drop 24 (words1.drop 24), List.all_append, w_t2, w_t3]
  rfl
set_option maxRecDepth 65536 in
theorem w_rest : rest_1_c.before args0 about1 = true := by decide +kernel
set_option maxRecDepth 65536 in
theorem w_case : (Jvm.Cond.and given_1 narrow_1).before args0 about1 = true := by decide +kernel
theorem w_applies : (headSpec (Jvm.Cond.code x code maxLocals ret :: tables_1) room_1).applies x e0.platform about1 = true :=
  (Spec.applies_iff w_frames).mpr ⟨w_running, w_runnable, w_alone, w_named, w_hears, w_ripe, w_room, w_tables⟩
theorem atStart : AtStart classFile x code maxLocals ret World_1 tables_1 room_1 Calls_1 rest_1 Pre_1 launch0 p0 e0 about1 theMethod args0 below0 :=
  ⟨lists_1, trivial, launch0.admits_env _ _ _, launch0.least_env, fairChoices_fair.cas, fairChoices_fair.clock, w_frames, w_args, w_heap, w_applies, trivial, w_rest, w_case⟩
end start1
theorem witness_1 : WitnessClaimed_1 := ⟨start1.p0, start1.e0, start1.about1, start1.theMethod, start1.args0, start1.below0, start1.atStart⟩
end Jvm.Pilot.@@N@@
