import JvmDerived
import JvmDerived.Pilot.@@N@@Statement
import JvmDerived.Pilot.@@N@@Code
set_option linter.unusedVariables false
set_option linter.unusedSimpArgs false
namespace Jvm.Pilot.@@N@@
open Jvm Jvm.ClassFile Sem Op Lib Jvm.Free Jvm.Stand Jvm.LawKit Jvm.RoadKit Bundle Jvm.Pilot.@@N@@.Jvm.D
section OwnKit
variable {p : Program} {l : Launch} {e : Env} {R : Room} {s : State} {m : MethodId} {args : Array Value} {below : List Frame} {meth : Method} {c : Code} {T S S' : State} {locs : List Loc} {cells slots : Nat} {F : Outcome → State → Prop}
def Go (p : Program) (e : Env) (below : List Frame) (S : State) (F : Outcome → State → Prop) : Prop := ∃ (U : State) (o : Outcome), Steps p.tables e below S U ∧ U.status = .running ∧ Ended U below o ∧ F o U
theorem goIn {g g' : JFrame} (q : g = g') (k : Go p e below (T.setTop g') F) : ∃ (U : State) (o : Outcome), Steps p.tables e below (T.setTop g) U ∧ U.status = .running ∧ Ended U below o ∧ F o U := q ▸ k
theorem Go.by (st : ∀ t, Steps p.tables e below S' t → Steps p.tables e below S t) (k : Go p e below S' F) : Go p e below S F := by
  obtain ⟨U, o, h1, h2⟩ := k
  exact ⟨U, o, st _ h1, h2⟩
theorem Go.at (st : Steps p.tables e below S S') (k : Go p e below S' F) : Go p e below S F := by
  obtain ⟨U, o, h1, h2⟩ := k
  exact ⟨U, o, st.trans h1, h2⟩
theorem goRet {W : Option Value → Heap → List Loc → Prop} {C N : Nat} {v : Option Value} {g : JFrame} (X : Stand p l e R s m args below meth c T locs cells slots) (hv : meth.sig.returnType = none → v = none) (hlk : meth.locks = false)
    (hst : ∀ fs, (∀ (f : JFrame) (acts : List Action), f.method = m → f.locked = none → f.entered = [] → (doReturn e (T.setTop f) acts v).1 = T.setFrames fs) → Steps p.tables e below (T.setTop g) (T.setFrames fs))
    (hc : cells ≤ C) (hs : slots ≤ N) (hq : W v T.heap locs) : Go p e below (T.setTop g) (fun o U => ∃ v L, o = .returned v ∧ W v U.heap L ∧ FrameEnd s o U L C N) := by
  obtain ⟨fs, hr, hrun, hended, hW, hsame⟩ := X.leave (v := v) hv hlk
  exact ⟨_, _, hst fs hr, hrun, hended, _, _, rfl, hq, ⟨_, rfl⟩, hW, hsame.mono hc hs⟩
theorem goRetW {W : Option Value → Heap → List Loc → Prop} {C N n : Nat} {v : Option Value} {g : JFrame} {vm₁ : Vm} (X : Stand p l e R (s.setVm vm₁) m args below meth c T locs cells slots) (hS : s.Since vm₁ n) (hn : n ≤ T.heap.size) (hv : meth.sig.returnType = none → v = none) (hlk : meth.locks = false)
    (hst : ∀ fs, (∀ (f : JFrame) (acts : List Action), f.method = m → f.locked = none → f.entered = [] → (doReturn e (T.setTop f) acts v).1 = T.setFrames fs) → Steps p.tables e below (T.setTop g) (T.setFrames fs))
    (hc : cells ≤ C) (hs : slots ≤ N) (hq : W v T.heap locs) : Go p e below (T.setTop g) (fun o U => ∃ v L, o = .returned v ∧ W v U.heap L ∧ ReturnedEndW s o U L C N) := by
  obtain ⟨fs, hr, hrun, hended, h1, h2, h3, h4⟩ := X.leaveW hS hn (v := v) hv hlk
  exact ⟨_, _, hst fs hr, hrun, hended, _, _, rfl, hq, h1, h2, h3, h4.mono hc hs⟩
/-- it returns w; nothing old is written; the heap is h0 -/
def PureQ (w : Option Value) (h0 : Heap) (n0 : Nat) (v : Option Value) (h : Heap) (L : List Loc) : Prop := v = w ∧ Fr n0 L ∧ h = h0
end OwnKit
theorem pd_0 : parseMethodDescriptor "()Lcom/example/iterleave/iterleave/Expression$Comparator;" = some ⟨[], some (.object "com/example/iterleave/iterleave/Expression$Comparator")⟩ := by decide +kernel
theorem pd_1 : parseMethodDescriptor "()I" = some ⟨[], some .int⟩ := by decide +kernel
theorem pd_2 : parseMethodDescriptor "(Lcom/example/iterleave/iterleave/Expression$Comparator;II)Z" = some ⟨[(.object "com/example/iterleave/iterleave/Expression$Comparator"), .int, .int], some .boolean⟩ := by decide +kernel
theorem own_enum {s : State} {args : Array Value} {C n d O f : String} {k : Int32} (hx : (Jvm.Cond.exactly (Jvm.Term.static C n d) C).value args s none s [] = some true)
    (he : (Jvm.Cond.eq (Jvm.Term.field (Jvm.Term.static C n d) O f "I") (Jvm.Term.int k)).value args s none s [] = some true)
    (hi : (Jvm.Cond.initialized C).before args s = true) (hl : (Jvm.Cond.laysStatic C n d).before args s = true) :
    ∃ a, Sta s s.heap C n d (.ref a) ∧ Exa s s.heap a C ∧ Fld s s.heap a O f "I" (.int k) := by
  obtain ⟨a, ea⟩ := exa_v hx
  exact ⟨a, Sta.start ea (Or.inr ⟨hi, hl⟩), Exa.start ea hx, Fld.start ((fld_at ea).symm.trans (eqv_i (F := Jvm.Term.int k) rfl he))⟩
theorem own_n1 : nar .boolean (1 : Int32) = 1 := by decide
theorem own_n0 : nar .boolean (0 : Int32) = 0 := by decide
theorem own_ext_wr {h0 h h' : Heap} {a : Addr} {sl : Nat} {v : Value} (E : Ext h0 h) (W : Wr h h' a sl v) (q : h0.size ≤ a) : Ext h0 h' := by
  refine ⟨by rw [W.size]; exact E.1, fun b c hb => ?_⟩
  obtain ⟨c', e1, -, -, -, e5, -⟩ := wr_at W (E.2 b c hb)
  have ne : b ≠ a := Nat.ne_of_lt (Nat.lt_of_lt_of_le (Array.getElem?_eq_some_iff.mp hb).1 q)
  rw [← e5 ne]; exact e1
theorem own_ext_trans {h0 h h' : Heap} (E : Ext h0 h) (E' : Ext h h') : Ext h0 h' := ⟨Nat.le_trans E.1 E'.1, fun b c hb => E'.2 b c (E.2 b c hb)⟩
theorem own_ext_refl (h : Heap) : Ext h h := ⟨Nat.le_refl _, fun _ _ q => q⟩
def pickA (i : Int32) (c0 c1 c2 c3 c4 c5 : Addr) : Addr := if i = 0 then c0 else if i = 1 then c1 else if i = 2 then c2 else if i = 3 then c3 else if i = 4 then c4 else  c5
def convA (k : Int32) (a c2 c3 c4 c5 : Addr) : Addr := if k = 0 ∨ k = 1 then a else if k = 2 then c4 else if k = 3 then c5 else if k = 4 then c2 else c3
def holdsF (a c0 c1 c2 c3 c4 c5 : Addr) (p q : Int32) : Int32 := if a = c0 then (if p = q then 1 else 0) else if a = c1 then (if p = q then 0 else 1) else if a = c2 then (if p < q then 1 else 0) else if a = c3 then (if q < p then 0 else 1) else if a = c4 then (if q < p then 1 else 0) else if a = c5 then (if p < q then 0 else 1) else 0
theorem own_conv {c0 c1 c2 c3 c4 c5 : Addr} (n1_0 : c1 ≠ c0) (n2_0 : c2 ≠ c0) (n2_1 : c2 ≠ c1) (n3_0 : c3 ≠ c0) (n3_1 : c3 ≠ c1) (n3_2 : c3 ≠ c2) (n4_0 : c4 ≠ c0) (n4_1 : c4 ≠ c1) (n4_2 : c4 ≠ c2) (n4_3 : c4 ≠ c3) (n5_0 : c5 ≠ c0) (n5_1 : c5 ≠ c1) (n5_2 : c5 ≠ c2) (n5_3 : c5 ≠ c3) (n5_4 : c5 ≠ c4) (k a y : Int32) (hk : k = 0 ∨ k = 1 ∨ k = 2 ∨ k = 3 ∨ k = 4 ∨ k = 5) : holdsF (pickA k c0 c1 c2 c3 c4 c5) c0 c1 c2 c3 c4 c5 a y = holdsF (convA k (pickA k c0 c1 c2 c3 c4 c5) c2 c3 c4 c5) c0 c1 c2 c3 c4 c5 y a := by
  rcases hk with rfl | rfl | rfl | rfl | rfl | rfl <;> simp [pickA, convA, holdsF, eq_comm (a := a) (b := y), n1_0, n2_0, n2_1, n3_0, n3_1, n3_2, n4_0, n4_1, n4_2, n4_3, n5_0, n5_1, n5_2, n5_3, n5_4]
theorem own_rem (x : Int32) : (x &&& 2147483647) % 6 = 0 ∨ (x &&& 2147483647) % 6 = 1 ∨ (x &&& 2147483647) % 6 = 2 ∨ (x &&& 2147483647) % 6 = 3 ∨ (x &&& 2147483647) % 6 = 4 ∨ (x &&& 2147483647) % 6 = 5 := by
  obtain ⟨h1, h2⟩ := c_and x 2147483647 (by decide)
  have h3 : ((x &&& 2147483647) % 6).toInt = (x &&& 2147483647).toInt % 6 := by
    rw [Int32.toInt_mod]
    have e : (6 : Int32).toInt = 6 := by decide
    rw [e, Int.tmod_eq_emod_of_nonneg h1]
  simp only [← Int32.toInt_inj]
  have e0 : (0 : Int32).toInt = 0 := by decide
  have e1 : (1 : Int32).toInt = 1 := by decide
  have e2 : (2 : Int32).toInt = 2 := by decide
  have e3 : (3 : Int32).toInt = 3 := by decide
  have e4 : (4 : Int32).toInt = 4 := by decide
  have e5 : (5 : Int32).toInt = 5 := by decide
  rw [h3, e0, e1, e2, e3, e4, e5]
  omega
theorem ef_rm2 (m : MethodId) (x0 : Addr) : entryFrame m #[(.ref x0)] 1 = mkF m 0 #[.val (.ref x0)] [] := by first | (simp [entryFrame, mkF, argsToLocals, Value.category]; done) | rfl
theorem pn_rm2 : plainName "java/lang/Enum" = true := by first | (simp [plainName, overriddenIn]; done) | decide +kernel
theorem d2_0 : decode jdk_37_method_2_code 0 = .ok (.aload_n 0, 1) := by decide +kernel
theorem d2_1 : decode jdk_37_method_2_code 1 = .ok (.getfield 7, 3) := by decide +kernel
theorem d2_4 : decode jdk_37_method_2_code 4 = .ok (.ireturn, 1) := by decide +kernel
set_option maxRecDepth 65536 in
set_option maxHeartbeats 40000000 in
theorem rm2 (l : Launch) (Z : State) (a0 : Array Value) (hw : ∀ d ∈ tables_1, d.before a0 Z = true) (ws : List Jvm.Cond) (a : Addr) (k : Int32) (h0 : Heap) (n0 : Nat) (F : Fld Z h0 a "java/lang/Enum" "ordinal" "I" (.int k)) :
    MetFree l (⟨"java/lang/Enum", "ordinal", "()I"⟩ : MethodName) (head1 (Jvm.Cond.code (⟨"java/lang/Enum", "ordinal", "()I"⟩ : MethodName) jdk_37_method_2_code 1 (some .int) :: ws) ({ frames := 0, cells := 0, slots := 0, locals := 0 } : Room)) (fun aa U => aa = #[(.ref a)] ∧ Z.Warmed39 U.vm ∧ U.heap = h0) (fun _ _ _ _ _ => True) (fun _ U o U' => ∃ v L, o = .returned v ∧ PureQ (some (.int k)) h0 n0 v U'.heap L ∧ FrameEnd U o U' L ({ frames := 0, cells := 0, slots := 0, locals := 0 } : Room).cells ({ frames := 0, cells := 0, slots := 0, locals := 0 } : Room).slots) := by
  refine MetFree.of_bodySF (plainFor_of_name pn_rm2) hisR ?_
  intro p e s m args below meth c s₁ Bd hml0 hP hK
  obtain ⟨rfl, hZ, hh⟩ := hP
  have hx := Bd.exec
  have hby := Bd.bytes
  have hml : c.maxLocals = 1 := hml0
  have hown : s.vm.findClass "java/lang/Enum" = some m.cls := findClass_of_methodNamed Bd.named
  have hnm := (name_of_methodNamed Bd.named Bd.method).1
  have X0 : Stand p l e ({ frames := 0, cells := 0, slots := 0, locals := 0 } : Room) s m #[(.ref a)] below meth c s₁ [] 0 0 := Stand.of_body Bd
  have e0 : s₁.heap = h0 := by rw [← hh, Bd.state]; rfl
  have N0 := Fr.nil n0
  refine goIn (ef_rm2 m a) ?_
  refine Go.by (S' := s₁.setTop (mkF m 1 #[.val (.ref a)] [(.ref a)])) (fun _ kt => XS.aloadN X0.here hx rfl (hb hby d2_0) rfl rfl  kt) ?_
  obtain ⟨T1, X1, e1, st1⟩ := getF X0 hx hZ hown (host := "") (Or.inl (hw _ (List.mem_of_getElem? (i := 29) rfl))) Via.refl e0 F (g := (mkF m 1 #[.val (.ref a)] [(.ref a)])) rfl rfl (hb hby d2_1)
  refine Go.by (S' := T1.setTop (mkF m 4 #[.val (.ref a)] [(.int k)])) st1 ?_
  refine goRet X1 (v := some (.int k)) (fun h => by rw [Bd.returns] at h; cases h) Bd.notSynchronized (fun fs hr => retOut X1 hx Bd.returns rfl (Or.inl ⟨rfl, Or.inl rfl, _, rfl⟩) (hb hby d2_4) hr) (by decide) (by decide) ?_
  exact ⟨rfl, N0, e1⟩
theorem ef_rm1 (m : MethodId) (x0 : Addr) : entryFrame m #[(.ref x0)] 1 = mkF m 0 #[.val (.ref x0)] [] := by first | (simp [entryFrame, mkF, argsToLocals, Value.category]; done) | rfl
theorem pn_rm1 : plainName "com/example/iterleave/iterleave/Expression$Comparator" = true := by first | (simp [plainName, overriddenIn]; done) | decide +kernel
theorem d1_0 : decode prog_11_method_5_code 0 = .ok (.aload_n 0, 1) := by decide +kernel
theorem d1_1 : decode prog_11_method_5_code 1 = .ok (.invokevirtual 45, 3) := by decide +kernel
theorem d1_4 : decode prog_11_method_5_code 4 = .ok (.tableswitch 40 0 5 #[50, 50, 54, 60, 66, 72], 40) := by decide +kernel
theorem d1_54 : decode prog_11_method_5_code 54 = .ok (.aload_n 0, 1) := by decide +kernel
theorem d1_55 : decode prog_11_method_5_code 55 = .ok (.goto 24, 3) := by decide +kernel
theorem d1_58 : decode prog_11_method_5_code 58 = .ok (.getstatic 16, 3) := by decide +kernel
theorem d1_61 : decode prog_11_method_5_code 61 = .ok (.goto 18, 3) := by decide +kernel
theorem d1_64 : decode prog_11_method_5_code 64 = .ok (.getstatic 19, 3) := by decide +kernel
theorem d1_67 : decode prog_11_method_5_code 67 = .ok (.goto 12, 3) := by decide +kernel
theorem d1_70 : decode prog_11_method_5_code 70 = .ok (.getstatic 10, 3) := by decide +kernel
theorem d1_73 : decode prog_11_method_5_code 73 = .ok (.goto 6, 3) := by decide +kernel
theorem d1_76 : decode prog_11_method_5_code 76 = .ok (.getstatic 13, 3) := by decide +kernel
theorem d1_79 : decode prog_11_method_5_code 79 = .ok (.areturn, 1) := by decide +kernel
set_option maxRecDepth 65536 in
set_option maxHeartbeats 40000000 in
theorem rm1 (l : Launch) (Z : State) (a0 : Array Value) (hw : ∀ d ∈ tables_1, d.before a0 Z = true) (ws : List Jvm.Cond) (a : Addr) (k : Int32) (c2 c3 c4 c5 : Addr) (h0 : Heap) (n0 : Nat) (F : Fld Z h0 a "java/lang/Enum" "ordinal" "I" (.int k)) (E : Exa Z h0 a "com/example/iterleave/iterleave/Expression$Comparator") (hk : k = 0 ∨ k = 1 ∨ k = 2 ∨ k = 3 ∨ k = 4 ∨ k = 5) (S2 : Sta Z h0 "com/example/iterleave/iterleave/Expression$Comparator" "LESS" "Lcom/example/iterleave/iterleave/Expression$Comparator;" (.ref c2)) (S3 : Sta Z h0 "com/example/iterleave/iterleave/Expression$Comparator" "LESS_OR_EQUAL" "Lcom/example/iterleave/iterleave/Expression$Comparator;" (.ref c3)) (S4 : Sta Z h0 "com/example/iterleave/iterleave/Expression$Comparator" "GREATER" "Lcom/example/iterleave/iterleave/Expression$Comparator;" (.ref c4)) (S5 : Sta Z h0 "com/example/iterleave/iterleave/Expression$Comparator" "GREATER_OR_EQUAL" "Lcom/example/iterleave/iterleave/Expression$Comparator;" (.ref c5)) :
    MetFree l (⟨"com/example/iterleave/iterleave/Expression$Comparator", "converse", "()Lcom/example/iterleave/iterleave/Expression$Comparator;"⟩ : MethodName) (head1 (Jvm.Cond.code (⟨"com/example/iterleave/iterleave/Expression$Comparator", "converse", "()Lcom/example/iterleave/iterleave/Expression$Comparator;"⟩ : MethodName) prog_11_method_5_code 1 (some (.object "com/example/iterleave/iterleave/Expression$Comparator")) :: ws) ({ frames := 1, cells := 0, slots := 0, locals := 12 } : Room)) (fun aa U => aa = #[(.ref a)] ∧ Z.Warmed39 U.vm ∧ U.heap = h0) (fun _ _ _ _ _ => True) (fun _ U o U' => ∃ v L, o = .returned v ∧ PureQ (some (.ref (convA k a c2 c3 c4 c5))) h0 n0 v U'.heap L ∧ FrameEnd U o U' L ({ frames := 1, cells := 0, slots := 0, locals := 12 } : Room).cells ({ frames := 1, cells := 0, slots := 0, locals := 12 } : Room).slots) := by
  refine MetFree.of_bodySF (plainFor_of_name pn_rm1) hisR ?_
  intro p e s m args below meth c s₁ Bd hml0 hP hK
  obtain ⟨rfl, hZ, hh⟩ := hP
  have hx := Bd.exec
  have hby := Bd.bytes
  have hml : c.maxLocals = 1 := hml0
  have hown : s.vm.findClass "com/example/iterleave/iterleave/Expression$Comparator" = some m.cls := findClass_of_methodNamed Bd.named
  have hnm := (name_of_methodNamed Bd.named Bd.method).1
  have X0 : Stand p l e ({ frames := 1, cells := 0, slots := 0, locals := 12 } : Room) s m #[(.ref a)] below meth c s₁ [] 0 0 := Stand.of_body Bd
  have e0 : s₁.heap = h0 := by rw [← hh, Bd.state]; rfl
  have N0 := Fr.nil n0
  refine goIn (ef_rm1 m a) ?_
  refine Go.by (S' := s₁.setTop (mkF m 1 #[.val (.ref a)] [(.ref a)])) (fun _ kt => XS.aloadN X0.here hx rfl (hb hby d1_0) rfl rfl  kt) ?_
  obtain ⟨cq1, kq1, q1a, q1b, q1c⟩ := isOf hZ e0 (E)
  obtain ⟨_, _, ⟨T1, L1, k1, n1⟩, -, X1, ⟨Lc1, hQ1, l1, y1, z1⟩, st1⟩ := X0.virtualBackUp hx (x := (⟨"com/example/iterleave/iterleave/Expression$Comparator", "ordinal", "()I"⟩ : MethodName)) (y := (⟨"java/lang/Enum", "ordinal", "()I"⟩ : MethodName)) (owner := "java/lang/Enum") hown (mvT hZ (hw _ (List.mem_of_getElem? (i := 22) rfl))) (mvT hZ (hw _ (List.mem_of_getElem? (i := 23) rfl))) (mvT hZ (hw _ (List.mem_of_getElem? (i := 24) rfl))) (by decide) (mvT hZ (hw _ (List.mem_of_getElem? (i := 26) rfl))) (mvT hZ (hw _ (List.mem_of_getElem? (i := 25) rfl))) (backOf (W := 0) (rm2 l Z a0 hw [] a k h0 n0 F) hZ (hw _ (List.mem_of_getElem? (i := 28) rfl)) (hw _ (List.mem_of_getElem? (i := 27) rfl)) (by decide) (by decide)) q1a q1c (g := (mkF m 1 #[.val (.ref a)] [(.ref a)])) rfl (by rw [hml]; rfl) (Steps.refl _) (argsL := []) (rest := []) (lenOf pd_1 rfl) rfl (by show 2 * 0 + _ ≤ _; exact Nat.le_of_eq rfl) (hb hby d1_1) (fun _ _ => ⟨rfl, e0, (by decide : 0 + 0 ≤ _), (by decide : 0 + 0 ≤ _)⟩)
  dsimp only [Pt.U, Pt.locs, Pt.cells, Pt.slots] at X1 l1 y1 z1 st1 hQ1
  subst l1 y1 z1
  obtain ⟨rfl, N1q, e1⟩ := hQ1
  have N1 := Fr.app N0 N1q
  refine Go.at (S' := T1.setTop (mkF m 4 #[.val (.ref a)] [(.int k)])) st1 ?_
  rcases hk with rfl | rfl | rfl | rfl | rfl | rfl
  · refine Go.by (S' := T1.setTop (mkF m 54 #[.val (.ref a)] [])) (fun _ kt => XS.tswIn X1.here hx rfl (pc0 := 4) (pc' := 54) (o := 50) rfl (hb hby d1_4) rfl (by decide) (by decide) (by decide) (by decide) kt) ?_
    refine Go.by (S' := T1.setTop (mkF m 55 #[.val (.ref a)] [(.ref a)])) (fun _ kt => XS.aloadN X1.here hx rfl (hb hby d1_54) rfl rfl  kt) ?_
    refine Go.by (S' := T1.setTop (mkF m 79 #[.val (.ref a)] [(.ref a)])) (fun _ kt => XS.goto X1.here hx rfl (pc0 := 55) (pc' := 79) rfl (hb hby d1_55) (by decide) (by decide)  kt) ?_
    refine goRet X1 (v := some (.ref a)) (fun h => by rw [Bd.returns] at h; cases h) Bd.notSynchronized (fun fs hr => retOut X1 hx Bd.returns rfl (Or.inr (Or.inr (Or.inr (Or.inr ⟨rfl, rfl, rfl⟩)))) (hb hby d1_79) hr) (by decide) (by decide) ?_
    exact ⟨by simp [convA], N1, e1⟩
  · refine Go.by (S' := T1.setTop (mkF m 54 #[.val (.ref a)] [])) (fun _ kt => XS.tswIn X1.here hx rfl (pc0 := 4) (pc' := 54) (o := 50) rfl (hb hby d1_4) rfl (by decide) (by decide) (by decide) (by decide) kt) ?_
    refine Go.by (S' := T1.setTop (mkF m 55 #[.val (.ref a)] [(.ref a)])) (fun _ kt => XS.aloadN X1.here hx rfl (hb hby d1_54) rfl rfl  kt) ?_
    refine Go.by (S' := T1.setTop (mkF m 79 #[.val (.ref a)] [(.ref a)])) (fun _ kt => XS.goto X1.here hx rfl (pc0 := 55) (pc' := 79) rfl (hb hby d1_55) (by decide) (by decide)  kt) ?_
    refine goRet X1 (v := some (.ref a)) (fun h => by rw [Bd.returns] at h; cases h) Bd.notSynchronized (fun fs hr => retOut X1 hx Bd.returns rfl (Or.inr (Or.inr (Or.inr (Or.inr ⟨rfl, rfl, rfl⟩)))) (hb hby d1_79) hr) (by decide) (by decide) ?_
    exact ⟨by simp [convA], N1, e1⟩
  · refine Go.by (S' := T1.setTop (mkF m 58 #[.val (.ref a)] [])) (fun _ kt => XS.tswIn X1.here hx rfl (pc0 := 4) (pc' := 58) (o := 54) rfl (hb hby d1_4) rfl (by decide) (by decide) (by decide) (by decide) kt) ?_
    obtain ⟨T2, X2, e2, st2⟩ := getS2 X1 hx hZ hown (host := "") (Or.inl (hw _ (List.mem_of_getElem? (i := 38) rfl))) Via.refl e1 S4 (g := (mkF m 58 #[.val (.ref a)] [])) rfl (hb hby d1_58)
    refine Go.by (S' := T2.setTop (mkF m 61 #[.val (.ref a)] [(.ref c4)])) st2 ?_
    refine Go.by (S' := T2.setTop (mkF m 79 #[.val (.ref a)] [(.ref c4)])) (fun _ kt => XS.goto X2.here hx rfl (pc0 := 61) (pc' := 79) rfl (hb hby d1_61) (by decide) (by decide)  kt) ?_
    refine goRet X2 (v := some (.ref c4)) (fun h => by rw [Bd.returns] at h; cases h) Bd.notSynchronized (fun fs hr => retOut X2 hx Bd.returns rfl (Or.inr (Or.inr (Or.inr (Or.inr ⟨rfl, rfl, rfl⟩)))) (hb hby d1_79) hr) (by decide) (by decide) ?_
    exact ⟨by simp [convA], N1, e2⟩
  · refine Go.by (S' := T1.setTop (mkF m 64 #[.val (.ref a)] [])) (fun _ kt => XS.tswIn X1.here hx rfl (pc0 := 4) (pc' := 64) (o := 60) rfl (hb hby d1_4) rfl (by decide) (by decide) (by decide) (by decide) kt) ?_
    obtain ⟨T3, X3, e3, st3⟩ := getS2 X1 hx hZ hown (host := "") (Or.inl (hw _ (List.mem_of_getElem? (i := 36) rfl))) Via.refl e1 S5 (g := (mkF m 64 #[.val (.ref a)] [])) rfl (hb hby d1_64)
    refine Go.by (S' := T3.setTop (mkF m 67 #[.val (.ref a)] [(.ref c5)])) st3 ?_
    refine Go.by (S' := T3.setTop (mkF m 79 #[.val (.ref a)] [(.ref c5)])) (fun _ kt => XS.goto X3.here hx rfl (pc0 := 67) (pc' := 79) rfl (hb hby d1_67) (by decide) (by decide)  kt) ?_
    refine goRet X3 (v := some (.ref c5)) (fun h => by rw [Bd.returns] at h; cases h) Bd.notSynchronized (fun fs hr => retOut X3 hx Bd.returns rfl (Or.inr (Or.inr (Or.inr (Or.inr ⟨rfl, rfl, rfl⟩)))) (hb hby d1_79) hr) (by decide) (by decide) ?_
    exact ⟨by simp [convA], N1, e3⟩
  · refine Go.by (S' := T1.setTop (mkF m 70 #[.val (.ref a)] [])) (fun _ kt => XS.tswIn X1.here hx rfl (pc0 := 4) (pc' := 70) (o := 66) rfl (hb hby d1_4) rfl (by decide) (by decide) (by decide) (by decide) kt) ?_
    obtain ⟨T4, X4, e4, st4⟩ := getS2 X1 hx hZ hown (host := "") (Or.inl (hw _ (List.mem_of_getElem? (i := 35) rfl))) Via.refl e1 S2 (g := (mkF m 70 #[.val (.ref a)] [])) rfl (hb hby d1_70)
    refine Go.by (S' := T4.setTop (mkF m 73 #[.val (.ref a)] [(.ref c2)])) st4 ?_
    refine Go.by (S' := T4.setTop (mkF m 79 #[.val (.ref a)] [(.ref c2)])) (fun _ kt => XS.goto X4.here hx rfl (pc0 := 73) (pc' := 79) rfl (hb hby d1_73) (by decide) (by decide)  kt) ?_
    refine goRet X4 (v := some (.ref c2)) (fun h => by rw [Bd.returns] at h; cases h) Bd.notSynchronized (fun fs hr => retOut X4 hx Bd.returns rfl (Or.inr (Or.inr (Or.inr (Or.inr ⟨rfl, rfl, rfl⟩)))) (hb hby d1_79) hr) (by decide) (by decide) ?_
    exact ⟨by simp [convA], N1, e4⟩
  · refine Go.by (S' := T1.setTop (mkF m 76 #[.val (.ref a)] [])) (fun _ kt => XS.tswIn X1.here hx rfl (pc0 := 4) (pc' := 76) (o := 72) rfl (hb hby d1_4) rfl (by decide) (by decide) (by decide) (by decide) kt) ?_
    obtain ⟨T5, X5, e5, st5⟩ := getS2 X1 hx hZ hown (host := "") (Or.inl (hw _ (List.mem_of_getElem? (i := 37) rfl))) Via.refl e1 S3 (g := (mkF m 76 #[.val (.ref a)] [])) rfl (hb hby d1_76)
    refine Go.by (S' := T5.setTop (mkF m 79 #[.val (.ref a)] [(.ref c3)])) st5 ?_
    refine goRet X5 (v := some (.ref c3)) (fun h => by rw [Bd.returns] at h; cases h) Bd.notSynchronized (fun fs hr => retOut X5 hx Bd.returns rfl (Or.inr (Or.inr (Or.inr (Or.inr ⟨rfl, rfl, rfl⟩)))) (hb hby d1_79) hr) (by decide) (by decide) ?_
    exact ⟨by simp [convA], N1, e5⟩
theorem ef_rm3 (m : MethodId) (x0 : Addr) (x1 : Int32) (x2 : Int32) : entryFrame m #[(.ref x0), (.int x1), (.int x2)] 3 = mkF m 0 #[.val (.ref x0), .val (.int x1), .val (.int x2)] [] := by first | (simp [entryFrame, mkF, argsToLocals, Value.category]; done) | rfl
theorem pn_rm3 : plainName "com/example/iterleave/iterleave/ComparatorConversePinLaw" = true := by first | (simp [plainName, overriddenIn]; done) | decide +kernel
theorem d3_0 : decode method_2_code 0 = .ok (.aload_n 0, 1) := by decide +kernel
theorem d3_1 : decode method_2_code 1 = .ok (.getstatic 7, 3) := by decide +kernel
theorem d3_4 : decode method_2_code 4 = .ok (.if_acmp .ne 14, 3) := by decide +kernel
theorem d3_7 : decode method_2_code 7 = .ok (.iload_n 1, 1) := by decide +kernel
theorem d3_8 : decode method_2_code 8 = .ok (.iload_n 2, 1) := by decide +kernel
theorem d3_9 : decode method_2_code 9 = .ok (.if_icmp .ne 7, 3) := by decide +kernel
theorem d3_12 : decode method_2_code 12 = .ok (.iconst 1, 1) := by decide +kernel
theorem d3_13 : decode method_2_code 13 = .ok (.goto 4, 3) := by decide +kernel
theorem d3_16 : decode method_2_code 16 = .ok (.iconst 0, 1) := by decide +kernel
theorem d3_17 : decode method_2_code 17 = .ok (.ireturn, 1) := by decide +kernel
theorem d3_18 : decode method_2_code 18 = .ok (.aload_n 0, 1) := by decide +kernel
theorem d3_19 : decode method_2_code 19 = .ok (.getstatic 13, 3) := by decide +kernel
theorem d3_22 : decode method_2_code 22 = .ok (.if_acmp .ne 14, 3) := by decide +kernel
theorem d3_25 : decode method_2_code 25 = .ok (.iload_n 1, 1) := by decide +kernel
theorem d3_26 : decode method_2_code 26 = .ok (.iload_n 2, 1) := by decide +kernel
theorem d3_27 : decode method_2_code 27 = .ok (.if_icmp .eq 7, 3) := by decide +kernel
theorem d3_30 : decode method_2_code 30 = .ok (.iconst 1, 1) := by decide +kernel
theorem d3_31 : decode method_2_code 31 = .ok (.goto 4, 3) := by decide +kernel
theorem d3_34 : decode method_2_code 34 = .ok (.iconst 0, 1) := by decide +kernel
theorem d3_35 : decode method_2_code 35 = .ok (.ireturn, 1) := by decide +kernel
theorem d3_36 : decode method_2_code 36 = .ok (.aload_n 0, 1) := by decide +kernel
theorem d3_37 : decode method_2_code 37 = .ok (.getstatic 16, 3) := by decide +kernel
theorem d3_40 : decode method_2_code 40 = .ok (.if_acmp .ne 14, 3) := by decide +kernel
theorem d3_43 : decode method_2_code 43 = .ok (.iload_n 1, 1) := by decide +kernel
theorem d3_44 : decode method_2_code 44 = .ok (.iload_n 2, 1) := by decide +kernel
theorem d3_45 : decode method_2_code 45 = .ok (.if_icmp .ge 7, 3) := by decide +kernel
theorem d3_48 : decode method_2_code 48 = .ok (.iconst 1, 1) := by decide +kernel
theorem d3_49 : decode method_2_code 49 = .ok (.goto 4, 3) := by decide +kernel
theorem d3_52 : decode method_2_code 52 = .ok (.iconst 0, 1) := by decide +kernel
theorem d3_53 : decode method_2_code 53 = .ok (.ireturn, 1) := by decide +kernel
theorem d3_54 : decode method_2_code 54 = .ok (.aload_n 0, 1) := by decide +kernel
theorem d3_55 : decode method_2_code 55 = .ok (.getstatic 19, 3) := by decide +kernel
theorem d3_58 : decode method_2_code 58 = .ok (.if_acmp .ne 14, 3) := by decide +kernel
theorem d3_61 : decode method_2_code 61 = .ok (.iload_n 1, 1) := by decide +kernel
theorem d3_62 : decode method_2_code 62 = .ok (.iload_n 2, 1) := by decide +kernel
theorem d3_63 : decode method_2_code 63 = .ok (.if_icmp .gt 7, 3) := by decide +kernel
theorem d3_66 : decode method_2_code 66 = .ok (.iconst 1, 1) := by decide +kernel
theorem d3_67 : decode method_2_code 67 = .ok (.goto 4, 3) := by decide +kernel
theorem d3_70 : decode method_2_code 70 = .ok (.iconst 0, 1) := by decide +kernel
theorem d3_71 : decode method_2_code 71 = .ok (.ireturn, 1) := by decide +kernel
theorem d3_72 : decode method_2_code 72 = .ok (.aload_n 0, 1) := by decide +kernel
theorem d3_73 : decode method_2_code 73 = .ok (.getstatic 22, 3) := by decide +kernel
theorem d3_76 : decode method_2_code 76 = .ok (.if_acmp .ne 14, 3) := by decide +kernel
theorem d3_79 : decode method_2_code 79 = .ok (.iload_n 1, 1) := by decide +kernel
theorem d3_80 : decode method_2_code 80 = .ok (.iload_n 2, 1) := by decide +kernel
theorem d3_81 : decode method_2_code 81 = .ok (.if_icmp .le 7, 3) := by decide +kernel
theorem d3_84 : decode method_2_code 84 = .ok (.iconst 1, 1) := by decide +kernel
theorem d3_85 : decode method_2_code 85 = .ok (.goto 4, 3) := by decide +kernel
theorem d3_88 : decode method_2_code 88 = .ok (.iconst 0, 1) := by decide +kernel
theorem d3_89 : decode method_2_code 89 = .ok (.ireturn, 1) := by decide +kernel
theorem d3_90 : decode method_2_code 90 = .ok (.aload_n 0, 1) := by decide +kernel
theorem d3_91 : decode method_2_code 91 = .ok (.getstatic 25, 3) := by decide +kernel
theorem d3_94 : decode method_2_code 94 = .ok (.if_acmp .ne 14, 3) := by decide +kernel
theorem d3_97 : decode method_2_code 97 = .ok (.iload_n 1, 1) := by decide +kernel
theorem d3_98 : decode method_2_code 98 = .ok (.iload_n 2, 1) := by decide +kernel
theorem d3_99 : decode method_2_code 99 = .ok (.if_icmp .lt 7, 3) := by decide +kernel
theorem d3_102 : decode method_2_code 102 = .ok (.iconst 1, 1) := by decide +kernel
theorem d3_103 : decode method_2_code 103 = .ok (.goto 4, 3) := by decide +kernel
theorem d3_106 : decode method_2_code 106 = .ok (.iconst 0, 1) := by decide +kernel
theorem d3_107 : decode method_2_code 107 = .ok (.ireturn, 1) := by decide +kernel
theorem d3_108 : decode method_2_code 108 = .ok (.iconst 0, 1) := by decide +kernel
theorem d3_109 : decode method_2_code 109 = .ok (.ireturn, 1) := by decide +kernel
set_option maxRecDepth 65536 in
set_option maxHeartbeats 40000000 in
theorem rm3 (l : Launch) (Z : State) (a0 : Array Value) (hw : ∀ d ∈ tables_1, d.before a0 Z = true) (ws : List Jvm.Cond) (a : Addr) (p1 : Int32) (p2 : Int32) (c0 c1 c2 c3 c4 c5 : Addr) (h0 : Heap) (n0 : Nat) (S0 : Sta Z h0 "com/example/iterleave/iterleave/Expression$Comparator" "EQUAL" "Lcom/example/iterleave/iterleave/Expression$Comparator;" (.ref c0)) (S1 : Sta Z h0 "com/example/iterleave/iterleave/Expression$Comparator" "NOT_EQUAL" "Lcom/example/iterleave/iterleave/Expression$Comparator;" (.ref c1)) (S2 : Sta Z h0 "com/example/iterleave/iterleave/Expression$Comparator" "LESS" "Lcom/example/iterleave/iterleave/Expression$Comparator;" (.ref c2)) (S3 : Sta Z h0 "com/example/iterleave/iterleave/Expression$Comparator" "LESS_OR_EQUAL" "Lcom/example/iterleave/iterleave/Expression$Comparator;" (.ref c3)) (S4 : Sta Z h0 "com/example/iterleave/iterleave/Expression$Comparator" "GREATER" "Lcom/example/iterleave/iterleave/Expression$Comparator;" (.ref c4)) (S5 : Sta Z h0 "com/example/iterleave/iterleave/Expression$Comparator" "GREATER_OR_EQUAL" "Lcom/example/iterleave/iterleave/Expression$Comparator;" (.ref c5)) :
    MetFree l (⟨"com/example/iterleave/iterleave/ComparatorConversePinLaw", "holds", "(Lcom/example/iterleave/iterleave/Expression$Comparator;II)Z"⟩ : MethodName) (head1 (Jvm.Cond.code (⟨"com/example/iterleave/iterleave/ComparatorConversePinLaw", "holds", "(Lcom/example/iterleave/iterleave/Expression$Comparator;II)Z"⟩ : MethodName) method_2_code 3 (some .boolean) :: ws) ({ frames := 0, cells := 0, slots := 0, locals := 0 } : Room)) (fun aa U => aa = #[(.ref a), (.int p1), (.int p2)] ∧ Z.Warmed39 U.vm ∧ U.heap = h0) (fun _ _ _ _ _ => True) (fun _ U o U' => ∃ v L, o = .returned v ∧ PureQ (some (.int (holdsF a c0 c1 c2 c3 c4 c5 p1 p2))) h0 n0 v U'.heap L ∧ FrameEnd U o U' L ({ frames := 0, cells := 0, slots := 0, locals := 0 } : Room).cells ({ frames := 0, cells := 0, slots := 0, locals := 0 } : Room).slots) := by
  refine MetFree.of_bodySF (plainFor_of_name pn_rm3) hisR ?_
  intro p e s m args below meth c s₁ Bd hml0 hP hK
  obtain ⟨rfl, hZ, hh⟩ := hP
  have hx := Bd.exec
  have hby := Bd.bytes
  have hml : c.maxLocals = 3 := hml0
  have hown : s.vm.findClass "com/example/iterleave/iterleave/ComparatorConversePinLaw" = some m.cls := findClass_of_methodNamed Bd.named
  have hnm := (name_of_methodNamed Bd.named Bd.method).1
  have X0 : Stand p l e ({ frames := 0, cells := 0, slots := 0, locals := 0 } : Room) s m #[(.ref a), (.int p1), (.int p2)] below meth c s₁ [] 0 0 := Stand.of_body Bd
  have e0 : s₁.heap = h0 := by rw [← hh, Bd.state]; rfl
  have N0 := Fr.nil n0
  refine goIn (ef_rm3 m a p1 p2) ?_
  refine Go.by (S' := s₁.setTop (mkF m 1 #[.val (.ref a), .val (.int p1), .val (.int p2)] [(.ref a)])) (fun _ kt => XS.aloadN X0.here hx rfl (hb hby d3_0) rfl rfl  kt) ?_
  obtain ⟨T1, X1, e1, st1⟩ := getS2 X0 hx hZ hown (host := "") (Or.inl (hw _ (List.mem_of_getElem? (i := 2) rfl))) Via.refl e0 S0 (g := (mkF m 1 #[.val (.ref a), .val (.int p1), .val (.int p2)] [(.ref a)])) rfl (hb hby d3_1)
  refine Go.by (S' := T1.setTop (mkF m 4 #[.val (.ref a), .val (.int p1), .val (.int p2)] [(.ref c0), (.ref a)])) st1 ?_
  by_cases hc4_2 : a = c0
  · refine Go.by (S' := T1.setTop (mkF m 7 #[.val (.ref a), .val (.int p1), .val (.int p2)] [])) (fun _ kt => XT.acmpNo X1.here hx rfl (hb hby d3_4) rfl rfl rfl (XT.aa_ne_f (congrArg Value.ref hc4_2))  kt) ?_
    refine Go.by (S' := T1.setTop (mkF m 8 #[.val (.ref a), .val (.int p1), .val (.int p2)] [(.int p1)])) (fun _ kt => XS.iloadN X1.here hx rfl (hb hby d3_7) rfl  kt) ?_
    refine Go.by (S' := T1.setTop (mkF m 9 #[.val (.ref a), .val (.int p1), .val (.int p2)] [(.int p2), (.int p1)])) (fun _ kt => XS.iloadN X1.here hx rfl (hb hby d3_8) rfl  kt) ?_
    by_cases hc9_3 : p1 = p2
    · refine Go.by (S' := T1.setTop (mkF m 12 #[.val (.ref a), .val (.int p1), .val (.int p2)] [])) (fun _ kt => XS.icmpNo X1.here hx rfl (hb hby d3_9) rfl (XT.ii_ne_f hc9_3)  kt) ?_
      refine Go.by (S' := T1.setTop (mkF m 13 #[.val (.ref a), .val (.int p1), .val (.int p2)] [(.int (1 : Int32))])) (fun _ kt => XT.iconstV X1.here hx rfl (1 : Int32) (hb hby d3_12) (by decide)  kt) ?_
      refine Go.by (S' := T1.setTop (mkF m 17 #[.val (.ref a), .val (.int p1), .val (.int p2)] [(.int (1 : Int32))])) (fun _ kt => XS.goto X1.here hx rfl (pc0 := 13) (pc' := 17) rfl (hb hby d3_13) (by decide) (by decide)  kt) ?_
      refine goRet X1 (v := some (.int (nar .boolean (1 : Int32)))) (fun h => by rw [Bd.returns] at h; cases h) Bd.notSynchronized (fun fs hr => retN X1 hx (t := .boolean) Bd.returns (by simp) (hb hby d3_17) hr) (by decide) (by decide) ?_
      exact ⟨by simp only [holdsF, own_n1, own_n0, if_pos hc4_2, if_pos hc9_3], N0, e1⟩
    · refine Go.by (S' := T1.setTop (mkF m 16 #[.val (.ref a), .val (.int p1), .val (.int p2)] [])) (fun _ kt => XS.icmpYes X1.here hx rfl (pc0 := 9) (pc' := 16) rfl (hb hby d3_9) rfl (XT.ii_ne_t hc9_3) (by decide) (by decide)  kt) ?_
      refine Go.by (S' := T1.setTop (mkF m 17 #[.val (.ref a), .val (.int p1), .val (.int p2)] [(.int (0 : Int32))])) (fun _ kt => XT.iconstV X1.here hx rfl (0 : Int32) (hb hby d3_16) (by decide)  kt) ?_
      refine goRet X1 (v := some (.int (nar .boolean (0 : Int32)))) (fun h => by rw [Bd.returns] at h; cases h) Bd.notSynchronized (fun fs hr => retN X1 hx (t := .boolean) Bd.returns (by simp) (hb hby d3_17) hr) (by decide) (by decide) ?_
      exact ⟨by simp only [holdsF, own_n1, own_n0, if_pos hc4_2, if_neg hc9_3], N0, e1⟩
  · refine Go.by (S' := T1.setTop (mkF m 18 #[.val (.ref a), .val (.int p1), .val (.int p2)] [])) (fun _ kt => XT.acmpYes X1.here hx rfl (pc0 := 4) (pc' := 18) rfl (hb hby d3_4) rfl rfl rfl (XT.aa_ne_t (fun q => hc4_2 (Value.ref.inj q))) (by decide) (by decide)  kt) ?_
    refine Go.by (S' := T1.setTop (mkF m 19 #[.val (.ref a), .val (.int p1), .val (.int p2)] [(.ref a)])) (fun _ kt => XS.aloadN X1.here hx rfl (hb hby d3_18) rfl rfl  kt) ?_
    obtain ⟨T4, X4, e4, st4⟩ := getS2 X1 hx hZ hown (host := "") (Or.inl (hw _ (List.mem_of_getElem? (i := 6) rfl))) Via.refl e1 S1 (g := (mkF m 19 #[.val (.ref a), .val (.int p1), .val (.int p2)] [(.ref a)])) rfl (hb hby d3_19)
    refine Go.by (S' := T4.setTop (mkF m 22 #[.val (.ref a), .val (.int p1), .val (.int p2)] [(.ref c1), (.ref a)])) st4 ?_
    by_cases hc22_5 : a = c1
    · refine Go.by (S' := T4.setTop (mkF m 25 #[.val (.ref a), .val (.int p1), .val (.int p2)] [])) (fun _ kt => XT.acmpNo X4.here hx rfl (hb hby d3_22) rfl rfl rfl (XT.aa_ne_f (congrArg Value.ref hc22_5))  kt) ?_
      refine Go.by (S' := T4.setTop (mkF m 26 #[.val (.ref a), .val (.int p1), .val (.int p2)] [(.int p1)])) (fun _ kt => XS.iloadN X4.here hx rfl (hb hby d3_25) rfl  kt) ?_
      refine Go.by (S' := T4.setTop (mkF m 27 #[.val (.ref a), .val (.int p1), .val (.int p2)] [(.int p2), (.int p1)])) (fun _ kt => XS.iloadN X4.here hx rfl (hb hby d3_26) rfl  kt) ?_
      by_cases hc27_6 : p1 = p2
      · refine Go.by (S' := T4.setTop (mkF m 34 #[.val (.ref a), .val (.int p1), .val (.int p2)] [])) (fun _ kt => XS.icmpYes X4.here hx rfl (pc0 := 27) (pc' := 34) rfl (hb hby d3_27) rfl (XT.ii_eq_t hc27_6) (by decide) (by decide)  kt) ?_
        refine Go.by (S' := T4.setTop (mkF m 35 #[.val (.ref a), .val (.int p1), .val (.int p2)] [(.int (0 : Int32))])) (fun _ kt => XT.iconstV X4.here hx rfl (0 : Int32) (hb hby d3_34) (by decide)  kt) ?_
        refine goRet X4 (v := some (.int (nar .boolean (0 : Int32)))) (fun h => by rw [Bd.returns] at h; cases h) Bd.notSynchronized (fun fs hr => retN X4 hx (t := .boolean) Bd.returns (by simp) (hb hby d3_35) hr) (by decide) (by decide) ?_
        exact ⟨by simp only [holdsF, own_n1, own_n0, if_neg hc4_2, if_pos hc22_5, if_pos hc27_6], N0, e4⟩
      · refine Go.by (S' := T4.setTop (mkF m 30 #[.val (.ref a), .val (.int p1), .val (.int p2)] [])) (fun _ kt => XS.icmpNo X4.here hx rfl (hb hby d3_27) rfl (XT.ii_eq_f hc27_6)  kt) ?_
        refine Go.by (S' := T4.setTop (mkF m 31 #[.val (.ref a), .val (.int p1), .val (.int p2)] [(.int (1 : Int32))])) (fun _ kt => XT.iconstV X4.here hx rfl (1 : Int32) (hb hby d3_30) (by decide)  kt) ?_
        refine Go.by (S' := T4.setTop (mkF m 35 #[.val (.ref a), .val (.int p1), .val (.int p2)] [(.int (1 : Int32))])) (fun _ kt => XS.goto X4.here hx rfl (pc0 := 31) (pc' := 35) rfl (hb hby d3_31) (by decide) (by decide)  kt) ?_
        refine goRet X4 (v := some (.int (nar .boolean (1 : Int32)))) (fun h => by rw [Bd.returns] at h; cases h) Bd.notSynchronized (fun fs hr => retN X4 hx (t := .boolean) Bd.returns (by simp) (hb hby d3_35) hr) (by decide) (by decide) ?_
        exact ⟨by simp only [holdsF, own_n1, own_n0, if_neg hc4_2, if_pos hc22_5, if_neg hc27_6], N0, e4⟩
    · refine Go.by (S' := T4.setTop (mkF m 36 #[.val (.ref a), .val (.int p1), .val (.int p2)] [])) (fun _ kt => XT.acmpYes X4.here hx rfl (pc0 := 22) (pc' := 36) rfl (hb hby d3_22) rfl rfl rfl (XT.aa_ne_t (fun q => hc22_5 (Value.ref.inj q))) (by decide) (by decide)  kt) ?_
      refine Go.by (S' := T4.setTop (mkF m 37 #[.val (.ref a), .val (.int p1), .val (.int p2)] [(.ref a)])) (fun _ kt => XS.aloadN X4.here hx rfl (hb hby d3_36) rfl rfl  kt) ?_
      obtain ⟨T7, X7, e7, st7⟩ := getS2 X4 hx hZ hown (host := "") (Or.inl (hw _ (List.mem_of_getElem? (i := 8) rfl))) Via.refl e4 S2 (g := (mkF m 37 #[.val (.ref a), .val (.int p1), .val (.int p2)] [(.ref a)])) rfl (hb hby d3_37)
      refine Go.by (S' := T7.setTop (mkF m 40 #[.val (.ref a), .val (.int p1), .val (.int p2)] [(.ref c2), (.ref a)])) st7 ?_
      by_cases hc40_8 : a = c2
      · refine Go.by (S' := T7.setTop (mkF m 43 #[.val (.ref a), .val (.int p1), .val (.int p2)] [])) (fun _ kt => XT.acmpNo X7.here hx rfl (hb hby d3_40) rfl rfl rfl (XT.aa_ne_f (congrArg Value.ref hc40_8))  kt) ?_
        refine Go.by (S' := T7.setTop (mkF m 44 #[.val (.ref a), .val (.int p1), .val (.int p2)] [(.int p1)])) (fun _ kt => XS.iloadN X7.here hx rfl (hb hby d3_43) rfl  kt) ?_
        refine Go.by (S' := T7.setTop (mkF m 45 #[.val (.ref a), .val (.int p1), .val (.int p2)] [(.int p2), (.int p1)])) (fun _ kt => XS.iloadN X7.here hx rfl (hb hby d3_44) rfl  kt) ?_
        by_cases hc45_9 : p1 < p2
        · refine Go.by (S' := T7.setTop (mkF m 48 #[.val (.ref a), .val (.int p1), .val (.int p2)] [])) (fun _ kt => XS.icmpNo X7.here hx rfl (hb hby d3_45) rfl (XT.ii_ge_f hc45_9)  kt) ?_
          refine Go.by (S' := T7.setTop (mkF m 49 #[.val (.ref a), .val (.int p1), .val (.int p2)] [(.int (1 : Int32))])) (fun _ kt => XT.iconstV X7.here hx rfl (1 : Int32) (hb hby d3_48) (by decide)  kt) ?_
          refine Go.by (S' := T7.setTop (mkF m 53 #[.val (.ref a), .val (.int p1), .val (.int p2)] [(.int (1 : Int32))])) (fun _ kt => XS.goto X7.here hx rfl (pc0 := 49) (pc' := 53) rfl (hb hby d3_49) (by decide) (by decide)  kt) ?_
          refine goRet X7 (v := some (.int (nar .boolean (1 : Int32)))) (fun h => by rw [Bd.returns] at h; cases h) Bd.notSynchronized (fun fs hr => retN X7 hx (t := .boolean) Bd.returns (by simp) (hb hby d3_53) hr) (by decide) (by decide) ?_
          exact ⟨by simp only [holdsF, own_n1, own_n0, if_neg hc4_2, if_neg hc22_5, if_pos hc40_8, if_pos hc45_9], N0, e7⟩
        · refine Go.by (S' := T7.setTop (mkF m 52 #[.val (.ref a), .val (.int p1), .val (.int p2)] [])) (fun _ kt => XS.icmpYes X7.here hx rfl (pc0 := 45) (pc' := 52) rfl (hb hby d3_45) rfl (XT.ii_ge_t hc45_9) (by decide) (by decide)  kt) ?_
          refine Go.by (S' := T7.setTop (mkF m 53 #[.val (.ref a), .val (.int p1), .val (.int p2)] [(.int (0 : Int32))])) (fun _ kt => XT.iconstV X7.here hx rfl (0 : Int32) (hb hby d3_52) (by decide)  kt) ?_
          refine goRet X7 (v := some (.int (nar .boolean (0 : Int32)))) (fun h => by rw [Bd.returns] at h; cases h) Bd.notSynchronized (fun fs hr => retN X7 hx (t := .boolean) Bd.returns (by simp) (hb hby d3_53) hr) (by decide) (by decide) ?_
          exact ⟨by simp only [holdsF, own_n1, own_n0, if_neg hc4_2, if_neg hc22_5, if_pos hc40_8, if_neg hc45_9], N0, e7⟩
      · refine Go.by (S' := T7.setTop (mkF m 54 #[.val (.ref a), .val (.int p1), .val (.int p2)] [])) (fun _ kt => XT.acmpYes X7.here hx rfl (pc0 := 40) (pc' := 54) rfl (hb hby d3_40) rfl rfl rfl (XT.aa_ne_t (fun q => hc40_8 (Value.ref.inj q))) (by decide) (by decide)  kt) ?_
        refine Go.by (S' := T7.setTop (mkF m 55 #[.val (.ref a), .val (.int p1), .val (.int p2)] [(.ref a)])) (fun _ kt => XS.aloadN X7.here hx rfl (hb hby d3_54) rfl rfl  kt) ?_
        obtain ⟨T10, X10, e10, st10⟩ := getS2 X7 hx hZ hown (host := "") (Or.inl (hw _ (List.mem_of_getElem? (i := 10) rfl))) Via.refl e7 S3 (g := (mkF m 55 #[.val (.ref a), .val (.int p1), .val (.int p2)] [(.ref a)])) rfl (hb hby d3_55)
        refine Go.by (S' := T10.setTop (mkF m 58 #[.val (.ref a), .val (.int p1), .val (.int p2)] [(.ref c3), (.ref a)])) st10 ?_
        by_cases hc58_11 : a = c3
        · refine Go.by (S' := T10.setTop (mkF m 61 #[.val (.ref a), .val (.int p1), .val (.int p2)] [])) (fun _ kt => XT.acmpNo X10.here hx rfl (hb hby d3_58) rfl rfl rfl (XT.aa_ne_f (congrArg Value.ref hc58_11))  kt) ?_
          refine Go.by (S' := T10.setTop (mkF m 62 #[.val (.ref a), .val (.int p1), .val (.int p2)] [(.int p1)])) (fun _ kt => XS.iloadN X10.here hx rfl (hb hby d3_61) rfl  kt) ?_
          refine Go.by (S' := T10.setTop (mkF m 63 #[.val (.ref a), .val (.int p1), .val (.int p2)] [(.int p2), (.int p1)])) (fun _ kt => XS.iloadN X10.here hx rfl (hb hby d3_62) rfl  kt) ?_
          by_cases hc63_12 : p2 < p1
          · refine Go.by (S' := T10.setTop (mkF m 70 #[.val (.ref a), .val (.int p1), .val (.int p2)] [])) (fun _ kt => XS.icmpYes X10.here hx rfl (pc0 := 63) (pc' := 70) rfl (hb hby d3_63) rfl (XT.ii_gt_t hc63_12) (by decide) (by decide)  kt) ?_
            refine Go.by (S' := T10.setTop (mkF m 71 #[.val (.ref a), .val (.int p1), .val (.int p2)] [(.int (0 : Int32))])) (fun _ kt => XT.iconstV X10.here hx rfl (0 : Int32) (hb hby d3_70) (by decide)  kt) ?_
            refine goRet X10 (v := some (.int (nar .boolean (0 : Int32)))) (fun h => by rw [Bd.returns] at h; cases h) Bd.notSynchronized (fun fs hr => retN X10 hx (t := .boolean) Bd.returns (by simp) (hb hby d3_71) hr) (by decide) (by decide) ?_
            exact ⟨by simp only [holdsF, own_n1, own_n0, if_neg hc4_2, if_neg hc22_5, if_neg hc40_8, if_pos hc58_11, if_pos hc63_12], N0, e10⟩
          · refine Go.by (S' := T10.setTop (mkF m 66 #[.val (.ref a), .val (.int p1), .val (.int p2)] [])) (fun _ kt => XS.icmpNo X10.here hx rfl (hb hby d3_63) rfl (XT.ii_gt_f hc63_12)  kt) ?_
            refine Go.by (S' := T10.setTop (mkF m 67 #[.val (.ref a), .val (.int p1), .val (.int p2)] [(.int (1 : Int32))])) (fun _ kt => XT.iconstV X10.here hx rfl (1 : Int32) (hb hby d3_66) (by decide)  kt) ?_
            refine Go.by (S' := T10.setTop (mkF m 71 #[.val (.ref a), .val (.int p1), .val (.int p2)] [(.int (1 : Int32))])) (fun _ kt => XS.goto X10.here hx rfl (pc0 := 67) (pc' := 71) rfl (hb hby d3_67) (by decide) (by decide)  kt) ?_
            refine goRet X10 (v := some (.int (nar .boolean (1 : Int32)))) (fun h => by rw [Bd.returns] at h; cases h) Bd.notSynchronized (fun fs hr => retN X10 hx (t := .boolean) Bd.returns (by simp) (hb hby d3_71) hr) (by decide) (by decide) ?_
            exact ⟨by simp only [holdsF, own_n1, own_n0, if_neg hc4_2, if_neg hc22_5, if_neg hc40_8, if_pos hc58_11, if_neg hc63_12], N0, e10⟩
        · refine Go.by (S' := T10.setTop (mkF m 72 #[.val (.ref a), .val (.int p1), .val (.int p2)] [])) (fun _ kt => XT.acmpYes X10.here hx rfl (pc0 := 58) (pc' := 72) rfl (hb hby d3_58) rfl rfl rfl (XT.aa_ne_t (fun q => hc58_11 (Value.ref.inj q))) (by decide) (by decide)  kt) ?_
          refine Go.by (S' := T10.setTop (mkF m 73 #[.val (.ref a), .val (.int p1), .val (.int p2)] [(.ref a)])) (fun _ kt => XS.aloadN X10.here hx rfl (hb hby d3_72) rfl rfl  kt) ?_
          obtain ⟨T13, X13, e13, st13⟩ := getS2 X10 hx hZ hown (host := "") (Or.inl (hw _ (List.mem_of_getElem? (i := 12) rfl))) Via.refl e10 S4 (g := (mkF m 73 #[.val (.ref a), .val (.int p1), .val (.int p2)] [(.ref a)])) rfl (hb hby d3_73)
          refine Go.by (S' := T13.setTop (mkF m 76 #[.val (.ref a), .val (.int p1), .val (.int p2)] [(.ref c4), (.ref a)])) st13 ?_
          by_cases hc76_14 : a = c4
          · refine Go.by (S' := T13.setTop (mkF m 79 #[.val (.ref a), .val (.int p1), .val (.int p2)] [])) (fun _ kt => XT.acmpNo X13.here hx rfl (hb hby d3_76) rfl rfl rfl (XT.aa_ne_f (congrArg Value.ref hc76_14))  kt) ?_
            refine Go.by (S' := T13.setTop (mkF m 80 #[.val (.ref a), .val (.int p1), .val (.int p2)] [(.int p1)])) (fun _ kt => XS.iloadN X13.here hx rfl (hb hby d3_79) rfl  kt) ?_
            refine Go.by (S' := T13.setTop (mkF m 81 #[.val (.ref a), .val (.int p1), .val (.int p2)] [(.int p2), (.int p1)])) (fun _ kt => XS.iloadN X13.here hx rfl (hb hby d3_80) rfl  kt) ?_
            by_cases hc81_15 : p2 < p1
            · refine Go.by (S' := T13.setTop (mkF m 84 #[.val (.ref a), .val (.int p1), .val (.int p2)] [])) (fun _ kt => XS.icmpNo X13.here hx rfl (hb hby d3_81) rfl (XT.ii_le_f hc81_15)  kt) ?_
              refine Go.by (S' := T13.setTop (mkF m 85 #[.val (.ref a), .val (.int p1), .val (.int p2)] [(.int (1 : Int32))])) (fun _ kt => XT.iconstV X13.here hx rfl (1 : Int32) (hb hby d3_84) (by decide)  kt) ?_
              refine Go.by (S' := T13.setTop (mkF m 89 #[.val (.ref a), .val (.int p1), .val (.int p2)] [(.int (1 : Int32))])) (fun _ kt => XS.goto X13.here hx rfl (pc0 := 85) (pc' := 89) rfl (hb hby d3_85) (by decide) (by decide)  kt) ?_
              refine goRet X13 (v := some (.int (nar .boolean (1 : Int32)))) (fun h => by rw [Bd.returns] at h; cases h) Bd.notSynchronized (fun fs hr => retN X13 hx (t := .boolean) Bd.returns (by simp) (hb hby d3_89) hr) (by decide) (by decide) ?_
              exact ⟨by simp only [holdsF, own_n1, own_n0, if_neg hc4_2, if_neg hc22_5, if_neg hc40_8, if_neg hc58_11, if_pos hc76_14, if_pos hc81_15], N0, e13⟩
            · refine Go.by (S' := T13.setTop (mkF m 88 #[.val (.ref a), .val (.int p1), .val (.int p2)] [])) (fun _ kt => XS.icmpYes X13.here hx rfl (pc0 := 81) (pc' := 88) rfl (hb hby d3_81) rfl (XT.ii_le_t hc81_15) (by decide) (by decide)  kt) ?_
              refine Go.by (S' := T13.setTop (mkF m 89 #[.val (.ref a), .val (.int p1), .val (.int p2)] [(.int (0 : Int32))])) (fun _ kt => XT.iconstV X13.here hx rfl (0 : Int32) (hb hby d3_88) (by decide)  kt) ?_
              refine goRet X13 (v := some (.int (nar .boolean (0 : Int32)))) (fun h => by rw [Bd.returns] at h; cases h) Bd.notSynchronized (fun fs hr => retN X13 hx (t := .boolean) Bd.returns (by simp) (hb hby d3_89) hr) (by decide) (by decide) ?_
              exact ⟨by simp only [holdsF, own_n1, own_n0, if_neg hc4_2, if_neg hc22_5, if_neg hc40_8, if_neg hc58_11, if_pos hc76_14, if_neg hc81_15], N0, e13⟩
          · refine Go.by (S' := T13.setTop (mkF m 90 #[.val (.ref a), .val (.int p1), .val (.int p2)] [])) (fun _ kt => XT.acmpYes X13.here hx rfl (pc0 := 76) (pc' := 90) rfl (hb hby d3_76) rfl rfl rfl (XT.aa_ne_t (fun q => hc76_14 (Value.ref.inj q))) (by decide) (by decide)  kt) ?_
            refine Go.by (S' := T13.setTop (mkF m 91 #[.val (.ref a), .val (.int p1), .val (.int p2)] [(.ref a)])) (fun _ kt => XS.aloadN X13.here hx rfl (hb hby d3_90) rfl rfl  kt) ?_
            obtain ⟨T16, X16, e16, st16⟩ := getS2 X13 hx hZ hown (host := "") (Or.inl (hw _ (List.mem_of_getElem? (i := 14) rfl))) Via.refl e13 S5 (g := (mkF m 91 #[.val (.ref a), .val (.int p1), .val (.int p2)] [(.ref a)])) rfl (hb hby d3_91)
            refine Go.by (S' := T16.setTop (mkF m 94 #[.val (.ref a), .val (.int p1), .val (.int p2)] [(.ref c5), (.ref a)])) st16 ?_
            by_cases hc94_17 : a = c5
            · refine Go.by (S' := T16.setTop (mkF m 97 #[.val (.ref a), .val (.int p1), .val (.int p2)] [])) (fun _ kt => XT.acmpNo X16.here hx rfl (hb hby d3_94) rfl rfl rfl (XT.aa_ne_f (congrArg Value.ref hc94_17))  kt) ?_
              refine Go.by (S' := T16.setTop (mkF m 98 #[.val (.ref a), .val (.int p1), .val (.int p2)] [(.int p1)])) (fun _ kt => XS.iloadN X16.here hx rfl (hb hby d3_97) rfl  kt) ?_
              refine Go.by (S' := T16.setTop (mkF m 99 #[.val (.ref a), .val (.int p1), .val (.int p2)] [(.int p2), (.int p1)])) (fun _ kt => XS.iloadN X16.here hx rfl (hb hby d3_98) rfl  kt) ?_
              by_cases hc99_18 : p1 < p2
              · refine Go.by (S' := T16.setTop (mkF m 106 #[.val (.ref a), .val (.int p1), .val (.int p2)] [])) (fun _ kt => XS.icmpYes X16.here hx rfl (pc0 := 99) (pc' := 106) rfl (hb hby d3_99) rfl (XT.ii_lt_t hc99_18) (by decide) (by decide)  kt) ?_
                refine Go.by (S' := T16.setTop (mkF m 107 #[.val (.ref a), .val (.int p1), .val (.int p2)] [(.int (0 : Int32))])) (fun _ kt => XT.iconstV X16.here hx rfl (0 : Int32) (hb hby d3_106) (by decide)  kt) ?_
                refine goRet X16 (v := some (.int (nar .boolean (0 : Int32)))) (fun h => by rw [Bd.returns] at h; cases h) Bd.notSynchronized (fun fs hr => retN X16 hx (t := .boolean) Bd.returns (by simp) (hb hby d3_107) hr) (by decide) (by decide) ?_
                exact ⟨by simp only [holdsF, own_n1, own_n0, if_neg hc4_2, if_neg hc22_5, if_neg hc40_8, if_neg hc58_11, if_neg hc76_14, if_pos hc94_17, if_pos hc99_18], N0, e16⟩
              · refine Go.by (S' := T16.setTop (mkF m 102 #[.val (.ref a), .val (.int p1), .val (.int p2)] [])) (fun _ kt => XS.icmpNo X16.here hx rfl (hb hby d3_99) rfl (XT.ii_lt_f hc99_18)  kt) ?_
                refine Go.by (S' := T16.setTop (mkF m 103 #[.val (.ref a), .val (.int p1), .val (.int p2)] [(.int (1 : Int32))])) (fun _ kt => XT.iconstV X16.here hx rfl (1 : Int32) (hb hby d3_102) (by decide)  kt) ?_
                refine Go.by (S' := T16.setTop (mkF m 107 #[.val (.ref a), .val (.int p1), .val (.int p2)] [(.int (1 : Int32))])) (fun _ kt => XS.goto X16.here hx rfl (pc0 := 103) (pc' := 107) rfl (hb hby d3_103) (by decide) (by decide)  kt) ?_
                refine goRet X16 (v := some (.int (nar .boolean (1 : Int32)))) (fun h => by rw [Bd.returns] at h; cases h) Bd.notSynchronized (fun fs hr => retN X16 hx (t := .boolean) Bd.returns (by simp) (hb hby d3_107) hr) (by decide) (by decide) ?_
                exact ⟨by simp only [holdsF, own_n1, own_n0, if_neg hc4_2, if_neg hc22_5, if_neg hc40_8, if_neg hc58_11, if_neg hc76_14, if_pos hc94_17, if_neg hc99_18], N0, e16⟩
            · refine Go.by (S' := T16.setTop (mkF m 108 #[.val (.ref a), .val (.int p1), .val (.int p2)] [])) (fun _ kt => XT.acmpYes X16.here hx rfl (pc0 := 94) (pc' := 108) rfl (hb hby d3_94) rfl rfl rfl (XT.aa_ne_t (fun q => hc94_17 (Value.ref.inj q))) (by decide) (by decide)  kt) ?_
              refine Go.by (S' := T16.setTop (mkF m 109 #[.val (.ref a), .val (.int p1), .val (.int p2)] [(.int (0 : Int32))])) (fun _ kt => XT.iconstV X16.here hx rfl (0 : Int32) (hb hby d3_108) (by decide)  kt) ?_
              refine goRet X16 (v := some (.int (nar .boolean (0 : Int32)))) (fun h => by rw [Bd.returns] at h; cases h) Bd.notSynchronized (fun fs hr => retN X16 hx (t := .boolean) Bd.returns (by simp) (hb hby d3_109) hr) (by decide) (by decide) ?_
              exact ⟨by simp only [holdsF, own_n1, own_n0, if_neg hc4_2, if_neg hc22_5, if_neg hc40_8, if_neg hc58_11, if_neg hc76_14, if_neg hc94_17], N0, e16⟩
theorem own_pick {Z : State} {h0 : Heap} {c0 c1 c2 c3 c4 c5 : Addr} (k : Int32) (hk : k = 0 ∨ k = 1 ∨ k = 2 ∨ k = 3 ∨ k = 4 ∨ k = 5) (F0 : Fld Z h0 c0 "java/lang/Enum" "ordinal" "I" (.int 0)) (F1 : Fld Z h0 c1 "java/lang/Enum" "ordinal" "I" (.int 1)) (F2 : Fld Z h0 c2 "java/lang/Enum" "ordinal" "I" (.int 2)) (F3 : Fld Z h0 c3 "java/lang/Enum" "ordinal" "I" (.int 3)) (F4 : Fld Z h0 c4 "java/lang/Enum" "ordinal" "I" (.int 4)) (F5 : Fld Z h0 c5 "java/lang/Enum" "ordinal" "I" (.int 5)) (E0 : Exa Z h0 c0 "com/example/iterleave/iterleave/Expression$Comparator") (E1 : Exa Z h0 c1 "com/example/iterleave/iterleave/Expression$Comparator") (E2 : Exa Z h0 c2 "com/example/iterleave/iterleave/Expression$Comparator") (E3 : Exa Z h0 c3 "com/example/iterleave/iterleave/Expression$Comparator") (E4 : Exa Z h0 c4 "com/example/iterleave/iterleave/Expression$Comparator") (E5 : Exa Z h0 c5 "com/example/iterleave/iterleave/Expression$Comparator") : Fld Z h0 (pickA k c0 c1 c2 c3 c4 c5) "java/lang/Enum" "ordinal" "I" (.int k) ∧ Exa Z h0 (pickA k c0 c1 c2 c3 c4 c5) "com/example/iterleave/iterleave/Expression$Comparator" := by
  rcases hk with rfl | rfl | rfl | rfl | rfl | rfl
  · exact ⟨F0, E0⟩
  · exact ⟨F1, E1⟩
  · exact ⟨F2, E2⟩
  · exact ⟨F3, E3⟩
  · exact ⟨F4, E4⟩
  · exact ⟨F5, E5⟩
def LawQ (n0 : Nat) (v : Option Value) (h : Heap) (L : List Loc) : Prop := v = some (.int 1) ∧ Fr n0 L
theorem ef_rm0 (m : MethodId) (x0 : Int32) (x1 : Int32) (x2 : Int32) (x3 : Int32) : entryFrame m #[(.int x0), (.int x1), (.int x2), (.int x3)] maxLocals = mkF m 0 #[.val (.int x0), .val (.int x1), .val (.int x2), .val (.int x3), .unset, .unset, .unset, .unset, .unset] [] := by first | (simp [entryFrame, mkF, argsToLocals, Value.category, maxLocals]; done) | rfl
theorem pn_rm0 : plainName "com/example/iterleave/iterleave/ComparatorConversePinLaw" = true := by first | (simp [plainName, overriddenIn]; done) | decide +kernel
set_option maxRecDepth 65536 in
set_option maxHeartbeats 40000000 in
theorem rm0 (l : Launch) (Z : State) (a0 : Array Value) (hw : ∀ d ∈ tables_1, d.before a0 Z = true) (ws : List Jvm.Cond) (x0 : Int32) (x1 : Int32) (x2 : Int32) (x3 : Int32) (c0 c1 c2 c3 c4 c5 : Addr) (h0 : Heap) (n0 : Nat) (Z0 : n0 ≤ h0.size) (S0 : Sta Z h0 "com/example/iterleave/iterleave/Expression$Comparator" "EQUAL" "Lcom/example/iterleave/iterleave/Expression$Comparator;" (.ref c0)) (S1 : Sta Z h0 "com/example/iterleave/iterleave/Expression$Comparator" "NOT_EQUAL" "Lcom/example/iterleave/iterleave/Expression$Comparator;" (.ref c1)) (S2 : Sta Z h0 "com/example/iterleave/iterleave/Expression$Comparator" "LESS" "Lcom/example/iterleave/iterleave/Expression$Comparator;" (.ref c2)) (S3 : Sta Z h0 "com/example/iterleave/iterleave/Expression$Comparator" "LESS_OR_EQUAL" "Lcom/example/iterleave/iterleave/Expression$Comparator;" (.ref c3)) (S4 : Sta Z h0 "com/example/iterleave/iterleave/Expression$Comparator" "GREATER" "Lcom/example/iterleave/iterleave/Expression$Comparator;" (.ref c4)) (S5 : Sta Z h0 "com/example/iterleave/iterleave/Expression$Comparator" "GREATER_OR_EQUAL" "Lcom/example/iterleave/iterleave/Expression$Comparator;" (.ref c5)) (F0 : Fld Z h0 c0 "java/lang/Enum" "ordinal" "I" (.int 0)) (F1 : Fld Z h0 c1 "java/lang/Enum" "ordinal" "I" (.int 1)) (F2 : Fld Z h0 c2 "java/lang/Enum" "ordinal" "I" (.int 2)) (F3 : Fld Z h0 c3 "java/lang/Enum" "ordinal" "I" (.int 3)) (F4 : Fld Z h0 c4 "java/lang/Enum" "ordinal" "I" (.int 4)) (F5 : Fld Z h0 c5 "java/lang/Enum" "ordinal" "I" (.int 5)) (E0 : Exa Z h0 c0 "com/example/iterleave/iterleave/Expression$Comparator") (E1 : Exa Z h0 c1 "com/example/iterleave/iterleave/Expression$Comparator") (E2 : Exa Z h0 c2 "com/example/iterleave/iterleave/Expression$Comparator") (E3 : Exa Z h0 c3 "com/example/iterleave/iterleave/Expression$Comparator") (E4 : Exa Z h0 c4 "com/example/iterleave/iterleave/Expression$Comparator") (E5 : Exa Z h0 c5 "com/example/iterleave/iterleave/Expression$Comparator") (n1_0 : c1 ≠ c0) (n2_0 : c2 ≠ c0) (n2_1 : c2 ≠ c1) (n3_0 : c3 ≠ c0) (n3_1 : c3 ≠ c1) (n3_2 : c3 ≠ c2) (n4_0 : c4 ≠ c0) (n4_1 : c4 ≠ c1) (n4_2 : c4 ≠ c2) (n4_3 : c4 ≠ c3) (n5_0 : c5 ≠ c0) (n5_1 : c5 ≠ c1) (n5_2 : c5 ≠ c2) (n5_3 : c5 ≠ c3) (n5_4 : c5 ≠ c4) :
    MetFree l x (head1 (Jvm.Cond.code x code maxLocals ret :: ws) room_1) (fun aa U => aa = #[(.int x0), (.int x1), (.int x2), (.int x3)] ∧ Z.Warmed39 U.vm ∧ U.heap = h0) (fun _ _ _ _ _ => True) (fun _ U o U' => ∃ v L, o = .returned v ∧ LawQ n0 v U'.heap L ∧ FrameEnd U o U' L room_1.cells room_1.slots) := by
  refine MetFree.of_bodySF (plainFor_of_name pn_rm0) hisR ?_
  intro p e s m args below meth c s₁ Bd hml0 hP hK
  obtain ⟨rfl, hZ, hh⟩ := hP
  have hx := Bd.exec
  have hby := Bd.bytes
  have hml : c.maxLocals = 9 := hml0
  have hown : s.vm.findClass "com/example/iterleave/iterleave/ComparatorConversePinLaw" = some m.cls := findClass_of_methodNamed Bd.named
  have hnm := (name_of_methodNamed Bd.named Bd.method).1
  have X0 : Stand p l e room_1 s m #[(.int x0), (.int x1), (.int x2), (.int x3)] below meth c s₁ [] 0 0 := Stand.of_body Bd
  have e0 : s₁.heap = h0 := by rw [← hh, Bd.state]; rfl
  have N0 := Fr.nil n0
  refine goIn (ef_rm0 m x0 x1 x2 x3) ?_
  refine Go.by (S' := s₁.setTop (mkF m 2 #[.val (.int x0), .val (.int x1), .val (.int x2), .val (.int x3), .unset, .unset, .unset, .unset, .unset] [(.int (6 : Int32))])) (fun _ kt => XT.bipushV X0.here hx rfl (6 : Int32) (hb hby at_0) (by decide)  kt) ?_
  obtain ⟨T1, h1, kA, X1, e1, Ex1, A1, O1, st1⟩ := newR X0 hx hZ hown (hw _ (List.mem_of_getElem? (i := 0) rfl)) (hw _ (List.mem_of_getElem? (i := 1) rfl)) e0 (g := (mkF m 2 #[.val (.int x0), .val (.int x1), .val (.int x2), .val (.int x3), .unset, .unset, .unset, .unset, .unset] [(.int (6 : Int32))])) rfl (hb hby at_2) rfl (by decide) (cap := 6) (by decide) (by decide) (by decide) (by decide)
  obtain ⟨b, gb⟩ : ∃ z, z = h0.size := ⟨_, rfl⟩
  rw [← gb] at A1 st1
  have hb0 : h0.size ≤ b := Nat.le_of_eq gb.symm
  have hnb : n0 ≤ b := Nat.le_trans Z0 hb0
  have V1 : Arv Z h1 b kA (.object "com/example/iterleave/iterleave/Expression$Comparator") 6 [.null, .null, .null, .null, .null, .null] .null := (Arv.new A1 (by decide)).pad (pad_rep [] .null 6)
  refine Go.by (S' := T1.setTop (mkF m 5 #[.val (.int x0), .val (.int x1), .val (.int x2), .val (.int x3), .unset, .unset, .unset, .unset, .unset] [(.ref b)])) st1 ?_
  refine Go.by (S' := T1.setTop (mkF m 6 #[.val (.int x0), .val (.int x1), .val (.int x2), .val (.int x3), .unset, .unset, .unset, .unset, .unset] [(.ref b), (.ref b)])) (fun _ kt => XS.dup X1.here hx rfl (hb hby at_5) rfl rfl  kt) ?_
  refine Go.by (S' := T1.setTop (mkF m 7 #[.val (.int x0), .val (.int x1), .val (.int x2), .val (.int x3), .unset, .unset, .unset, .unset, .unset] [(.int (0 : Int32)), (.ref b), (.ref b)])) (fun _ kt => XT.iconstV X1.here hx rfl (0 : Int32) (hb hby at_6) (by decide)  kt) ?_
  obtain ⟨T2, X2, e2, st2⟩ := getS2 X1 hx hZ hown (host := "") (Or.inl (hw _ (List.mem_of_getElem? (i := 2) rfl))) Via.refl e1 (S0.ext Ex1) (g := (mkF m 7 #[.val (.int x0), .val (.int x1), .val (.int x2), .val (.int x3), .unset, .unset, .unset, .unset, .unset] [(.int (0 : Int32)), (.ref b), (.ref b)])) rfl (hb hby at_7)
  refine Go.by (S' := T2.setTop (mkF m 10 #[.val (.int x0), .val (.int x1), .val (.int x2), .val (.int x3), .unset, .unset, .unset, .unset, .unset] [(.ref c0), (.int (0 : Int32)), (.ref b), (.ref b)])) st2 ?_
  obtain ⟨cl3, Ar3, q3, Sz3, Nn3, H3, G3⟩ := V1
  obtain ⟨T3, h3, X3, e3, W3, st3⟩ := stR X2 hx hZ e2 Ar3 (j := (0 : Int32)) (inb_of Sz3 ⟨by decide, by decide⟩) rfl (Sto.ofV Ar3 q3 O1 (Ins.self (E0.ext Ex1))) (g := (mkF m 10 #[.val (.int x0), .val (.int x1), .val (.int x2), .val (.int x3), .unset, .unset, .unset, .unset, .unset] [(.ref c0), (.int (0 : Int32)), (.ref b), (.ref b)])) rfl rfl (hb hby at_10)
  have V3 : Arv Z h3 b kA (.object "com/example/iterleave/iterleave/Expression$Comparator") 6 [(.ref c0), .null, .null, .null, .null, .null] .null := Arv.set Ar3 q3 Sz3 Nn3 H3 G3 rfl W3 0 rfl (Nat.le_of_ble_eq_true rfl)
  have EX3 := own_ext_wr Ex1 W3 hb0
  have N3 := Fr.snoc X3 N0 hnb
  refine Go.by (S' := T3.setTop (mkF m 11 #[.val (.int x0), .val (.int x1), .val (.int x2), .val (.int x3), .unset, .unset, .unset, .unset, .unset] [(.ref b)])) st3 ?_
  refine Go.by (S' := T3.setTop (mkF m 12 #[.val (.int x0), .val (.int x1), .val (.int x2), .val (.int x3), .unset, .unset, .unset, .unset, .unset] [(.ref b), (.ref b)])) (fun _ kt => XS.dup X3.here hx rfl (hb hby at_11) rfl rfl  kt) ?_
  refine Go.by (S' := T3.setTop (mkF m 13 #[.val (.int x0), .val (.int x1), .val (.int x2), .val (.int x3), .unset, .unset, .unset, .unset, .unset] [(.int (1 : Int32)), (.ref b), (.ref b)])) (fun _ kt => XT.iconstV X3.here hx rfl (1 : Int32) (hb hby at_12) (by decide)  kt) ?_
  obtain ⟨T4, X4, e4, st4⟩ := getS2 X3 hx hZ hown (host := "") (Or.inl (hw _ (List.mem_of_getElem? (i := 6) rfl))) Via.refl e3 (S1.ext EX3) (g := (mkF m 13 #[.val (.int x0), .val (.int x1), .val (.int x2), .val (.int x3), .unset, .unset, .unset, .unset, .unset] [(.int (1 : Int32)), (.ref b), (.ref b)])) rfl (hb hby at_13)
  refine Go.by (S' := T4.setTop (mkF m 16 #[.val (.int x0), .val (.int x1), .val (.int x2), .val (.int x3), .unset, .unset, .unset, .unset, .unset] [(.ref c1), (.int (1 : Int32)), (.ref b), (.ref b)])) st4 ?_
  obtain ⟨cl5, Ar5, q5, Sz5, Nn5, H5, G5⟩ := V3
  obtain ⟨T5, h5, X5, e5, W5, st5⟩ := stR X4 hx hZ e4 Ar5 (j := (1 : Int32)) (inb_of Sz5 ⟨by decide, by decide⟩) rfl (Sto.ofV Ar5 q5 O1 (Ins.self (E1.ext EX3))) (g := (mkF m 16 #[.val (.int x0), .val (.int x1), .val (.int x2), .val (.int x3), .unset, .unset, .unset, .unset, .unset] [(.ref c1), (.int (1 : Int32)), (.ref b), (.ref b)])) rfl rfl (hb hby at_16)
  have V5 : Arv Z h5 b kA (.object "com/example/iterleave/iterleave/Expression$Comparator") 6 [(.ref c0), (.ref c1), .null, .null, .null, .null] .null := Arv.set Ar5 q5 Sz5 Nn5 H5 G5 rfl W5 1 rfl (Nat.le_of_ble_eq_true rfl)
  have EX5 := own_ext_wr EX3 W5 hb0
  have N5 := Fr.snoc X5 N3 hnb
  refine Go.by (S' := T5.setTop (mkF m 17 #[.val (.int x0), .val (.int x1), .val (.int x2), .val (.int x3), .unset, .unset, .unset, .unset, .unset] [(.ref b)])) st5 ?_
  refine Go.by (S' := T5.setTop (mkF m 18 #[.val (.int x0), .val (.int x1), .val (.int x2), .val (.int x3), .unset, .unset, .unset, .unset, .unset] [(.ref b), (.ref b)])) (fun _ kt => XS.dup X5.here hx rfl (hb hby at_17) rfl rfl  kt) ?_
  refine Go.by (S' := T5.setTop (mkF m 19 #[.val (.int x0), .val (.int x1), .val (.int x2), .val (.int x3), .unset, .unset, .unset, .unset, .unset] [(.int (2 : Int32)), (.ref b), (.ref b)])) (fun _ kt => XT.iconstV X5.here hx rfl (2 : Int32) (hb hby at_18) (by decide)  kt) ?_
  obtain ⟨T6, X6, e6, st6⟩ := getS2 X5 hx hZ hown (host := "") (Or.inl (hw _ (List.mem_of_getElem? (i := 8) rfl))) Via.refl e5 (S2.ext EX5) (g := (mkF m 19 #[.val (.int x0), .val (.int x1), .val (.int x2), .val (.int x3), .unset, .unset, .unset, .unset, .unset] [(.int (2 : Int32)), (.ref b), (.ref b)])) rfl (hb hby at_19)
  refine Go.by (S' := T6.setTop (mkF m 22 #[.val (.int x0), .val (.int x1), .val (.int x2), .val (.int x3), .unset, .unset, .unset, .unset, .unset] [(.ref c2), (.int (2 : Int32)), (.ref b), (.ref b)])) st6 ?_
  obtain ⟨cl7, Ar7, q7, Sz7, Nn7, H7, G7⟩ := V5
  obtain ⟨T7, h7, X7, e7, W7, st7⟩ := stR X6 hx hZ e6 Ar7 (j := (2 : Int32)) (inb_of Sz7 ⟨by decide, by decide⟩) rfl (Sto.ofV Ar7 q7 O1 (Ins.self (E2.ext EX5))) (g := (mkF m 22 #[.val (.int x0), .val (.int x1), .val (.int x2), .val (.int x3), .unset, .unset, .unset, .unset, .unset] [(.ref c2), (.int (2 : Int32)), (.ref b), (.ref b)])) rfl rfl (hb hby at_22)
  have V7 : Arv Z h7 b kA (.object "com/example/iterleave/iterleave/Expression$Comparator") 6 [(.ref c0), (.ref c1), (.ref c2), .null, .null, .null] .null := Arv.set Ar7 q7 Sz7 Nn7 H7 G7 rfl W7 2 rfl (Nat.le_of_ble_eq_true rfl)
  have EX7 := own_ext_wr EX5 W7 hb0
  have N7 := Fr.snoc X7 N5 hnb
  refine Go.by (S' := T7.setTop (mkF m 23 #[.val (.int x0), .val (.int x1), .val (.int x2), .val (.int x3), .unset, .unset, .unset, .unset, .unset] [(.ref b)])) st7 ?_
  refine Go.by (S' := T7.setTop (mkF m 24 #[.val (.int x0), .val (.int x1), .val (.int x2), .val (.int x3), .unset, .unset, .unset, .unset, .unset] [(.ref b), (.ref b)])) (fun _ kt => XS.dup X7.here hx rfl (hb hby at_23) rfl rfl  kt) ?_
  refine Go.by (S' := T7.setTop (mkF m 25 #[.val (.int x0), .val (.int x1), .val (.int x2), .val (.int x3), .unset, .unset, .unset, .unset, .unset] [(.int (3 : Int32)), (.ref b), (.ref b)])) (fun _ kt => XT.iconstV X7.here hx rfl (3 : Int32) (hb hby at_24) (by decide)  kt) ?_
  obtain ⟨T8, X8, e8, st8⟩ := getS2 X7 hx hZ hown (host := "") (Or.inl (hw _ (List.mem_of_getElem? (i := 10) rfl))) Via.refl e7 (S3.ext EX7) (g := (mkF m 25 #[.val (.int x0), .val (.int x1), .val (.int x2), .val (.int x3), .unset, .unset, .unset, .unset, .unset] [(.int (3 : Int32)), (.ref b), (.ref b)])) rfl (hb hby at_25)
  refine Go.by (S' := T8.setTop (mkF m 28 #[.val (.int x0), .val (.int x1), .val (.int x2), .val (.int x3), .unset, .unset, .unset, .unset, .unset] [(.ref c3), (.int (3 : Int32)), (.ref b), (.ref b)])) st8 ?_
  obtain ⟨cl9, Ar9, q9, Sz9, Nn9, H9, G9⟩ := V7
  obtain ⟨T9, h9, X9, e9, W9, st9⟩ := stR X8 hx hZ e8 Ar9 (j := (3 : Int32)) (inb_of Sz9 ⟨by decide, by decide⟩) rfl (Sto.ofV Ar9 q9 O1 (Ins.self (E3.ext EX7))) (g := (mkF m 28 #[.val (.int x0), .val (.int x1), .val (.int x2), .val (.int x3), .unset, .unset, .unset, .unset, .unset] [(.ref c3), (.int (3 : Int32)), (.ref b), (.ref b)])) rfl rfl (hb hby at_28)
  have V9 : Arv Z h9 b kA (.object "com/example/iterleave/iterleave/Expression$Comparator") 6 [(.ref c0), (.ref c1), (.ref c2), (.ref c3), .null, .null] .null := Arv.set Ar9 q9 Sz9 Nn9 H9 G9 rfl W9 3 rfl (Nat.le_of_ble_eq_true rfl)
  have EX9 := own_ext_wr EX7 W9 hb0
  have N9 := Fr.snoc X9 N7 hnb
  refine Go.by (S' := T9.setTop (mkF m 29 #[.val (.int x0), .val (.int x1), .val (.int x2), .val (.int x3), .unset, .unset, .unset, .unset, .unset] [(.ref b)])) st9 ?_
  refine Go.by (S' := T9.setTop (mkF m 30 #[.val (.int x0), .val (.int x1), .val (.int x2), .val (.int x3), .unset, .unset, .unset, .unset, .unset] [(.ref b), (.ref b)])) (fun _ kt => XS.dup X9.here hx rfl (hb hby at_29) rfl rfl  kt) ?_
  refine Go.by (S' := T9.setTop (mkF m 31 #[.val (.int x0), .val (.int x1), .val (.int x2), .val (.int x3), .unset, .unset, .unset, .unset, .unset] [(.int (4 : Int32)), (.ref b), (.ref b)])) (fun _ kt => XT.iconstV X9.here hx rfl (4 : Int32) (hb hby at_30) (by decide)  kt) ?_
  obtain ⟨T10, X10, e10, st10⟩ := getS2 X9 hx hZ hown (host := "") (Or.inl (hw _ (List.mem_of_getElem? (i := 12) rfl))) Via.refl e9 (S4.ext EX9) (g := (mkF m 31 #[.val (.int x0), .val (.int x1), .val (.int x2), .val (.int x3), .unset, .unset, .unset, .unset, .unset] [(.int (4 : Int32)), (.ref b), (.ref b)])) rfl (hb hby at_31)
  refine Go.by (S' := T10.setTop (mkF m 34 #[.val (.int x0), .val (.int x1), .val (.int x2), .val (.int x3), .unset, .unset, .unset, .unset, .unset] [(.ref c4), (.int (4 : Int32)), (.ref b), (.ref b)])) st10 ?_
  obtain ⟨cl11, Ar11, q11, Sz11, Nn11, H11, G11⟩ := V9
  obtain ⟨T11, h11, X11, e11, W11, st11⟩ := stR X10 hx hZ e10 Ar11 (j := (4 : Int32)) (inb_of Sz11 ⟨by decide, by decide⟩) rfl (Sto.ofV Ar11 q11 O1 (Ins.self (E4.ext EX9))) (g := (mkF m 34 #[.val (.int x0), .val (.int x1), .val (.int x2), .val (.int x3), .unset, .unset, .unset, .unset, .unset] [(.ref c4), (.int (4 : Int32)), (.ref b), (.ref b)])) rfl rfl (hb hby at_34)
  have V11 : Arv Z h11 b kA (.object "com/example/iterleave/iterleave/Expression$Comparator") 6 [(.ref c0), (.ref c1), (.ref c2), (.ref c3), (.ref c4), .null] .null := Arv.set Ar11 q11 Sz11 Nn11 H11 G11 rfl W11 4 rfl (Nat.le_of_ble_eq_true rfl)
  have EX11 := own_ext_wr EX9 W11 hb0
  have N11 := Fr.snoc X11 N9 hnb
  refine Go.by (S' := T11.setTop (mkF m 35 #[.val (.int x0), .val (.int x1), .val (.int x2), .val (.int x3), .unset, .unset, .unset, .unset, .unset] [(.ref b)])) st11 ?_
  refine Go.by (S' := T11.setTop (mkF m 36 #[.val (.int x0), .val (.int x1), .val (.int x2), .val (.int x3), .unset, .unset, .unset, .unset, .unset] [(.ref b), (.ref b)])) (fun _ kt => XS.dup X11.here hx rfl (hb hby at_35) rfl rfl  kt) ?_
  refine Go.by (S' := T11.setTop (mkF m 37 #[.val (.int x0), .val (.int x1), .val (.int x2), .val (.int x3), .unset, .unset, .unset, .unset, .unset] [(.int (5 : Int32)), (.ref b), (.ref b)])) (fun _ kt => XT.iconstV X11.here hx rfl (5 : Int32) (hb hby at_36) (by decide)  kt) ?_
  obtain ⟨T12, X12, e12, st12⟩ := getS2 X11 hx hZ hown (host := "") (Or.inl (hw _ (List.mem_of_getElem? (i := 14) rfl))) Via.refl e11 (S5.ext EX11) (g := (mkF m 37 #[.val (.int x0), .val (.int x1), .val (.int x2), .val (.int x3), .unset, .unset, .unset, .unset, .unset] [(.int (5 : Int32)), (.ref b), (.ref b)])) rfl (hb hby at_37)
  refine Go.by (S' := T12.setTop (mkF m 40 #[.val (.int x0), .val (.int x1), .val (.int x2), .val (.int x3), .unset, .unset, .unset, .unset, .unset] [(.ref c5), (.int (5 : Int32)), (.ref b), (.ref b)])) st12 ?_
  obtain ⟨cl13, Ar13, q13, Sz13, Nn13, H13, G13⟩ := V11
  obtain ⟨T13, h13, X13, e13, W13, st13⟩ := stR X12 hx hZ e12 Ar13 (j := (5 : Int32)) (inb_of Sz13 ⟨by decide, by decide⟩) rfl (Sto.ofV Ar13 q13 O1 (Ins.self (E5.ext EX11))) (g := (mkF m 40 #[.val (.int x0), .val (.int x1), .val (.int x2), .val (.int x3), .unset, .unset, .unset, .unset, .unset] [(.ref c5), (.int (5 : Int32)), (.ref b), (.ref b)])) rfl rfl (hb hby at_40)
  have V13 : Arv Z h13 b kA (.object "com/example/iterleave/iterleave/Expression$Comparator") 6 [(.ref c0), (.ref c1), (.ref c2), (.ref c3), (.ref c4), (.ref c5)] .null := Arv.set Ar13 q13 Sz13 Nn13 H13 G13 rfl W13 5 rfl (Nat.le_of_ble_eq_true rfl)
  have EX13 := own_ext_wr EX11 W13 hb0
  have N13 := Fr.snoc X13 N11 hnb
  refine Go.by (S' := T13.setTop (mkF m 41 #[.val (.int x0), .val (.int x1), .val (.int x2), .val (.int x3), .unset, .unset, .unset, .unset, .unset] [(.ref b)])) st13 ?_
  refine Go.by (S' := T13.setTop (mkF m 43 #[.val (.int x0), .val (.int x1), .val (.int x2), .val (.int x3), .val (.ref b), .unset, .unset, .unset, .unset] [])) (fun _ kt => XS.astore X13.here hx rfl (hb hby at_41) rfl rfl (l' := #[.val (.int x0), .val (.int x1), .val (.int x2), .val (.int x3), .val (.ref b), .unset, .unset, .unset, .unset]) rfl  kt) ?_
  refine Go.by (S' := T13.setTop (mkF m 44 #[.val (.int x0), .val (.int x1), .val (.int x2), .val (.int x3), .val (.ref b), .unset, .unset, .unset, .unset] [(.int x0)])) (fun _ kt => XS.iloadN X13.here hx rfl (hb hby at_43) rfl  kt) ?_
  refine Go.by (S' := T13.setTop (mkF m 46 #[.val (.int x0), .val (.int x1), .val (.int x2), .val (.int x3), .val (.ref b), .unset, .unset, .unset, .unset] [(.int (2147483647 : Int32)), (.int x0)])) (X13.ldcInt hx hown (mvT hZ (hw _ (List.mem_of_getElem? (i := 16) rfl))) (g := (mkF m 44 #[.val (.int x0), .val (.int x1), .val (.int x2), .val (.int x3), .val (.ref b), .unset, .unset, .unset, .unset] [(.int x0)])) rfl (hb hby at_44)) ?_
  refine Go.by (S' := T13.setTop (mkF m 47 #[.val (.int x0), .val (.int x1), .val (.int x2), .val (.int x3), .val (.ref b), .unset, .unset, .unset, .unset] [(.int (x0 &&& (2147483647 : Int32)))])) (fun _ kt => XS.iand X13.here hx rfl (hb hby at_46) rfl  kt) ?_
  refine Go.by (S' := T13.setTop (mkF m 49 #[.val (.int x0), .val (.int x1), .val (.int x2), .val (.int x3), .val (.ref b), .unset, .unset, .unset, .unset] [(.int (6 : Int32)), (.int (x0 &&& (2147483647 : Int32)))])) (fun _ kt => XT.bipushV X13.here hx rfl (6 : Int32) (hb hby at_47) (by decide)  kt) ?_
  refine Go.by (S' := T13.setTop (mkF m 50 #[.val (.int x0), .val (.int x1), .val (.int x2), .val (.int x3), .val (.ref b), .unset, .unset, .unset, .unset] [(.int ((x0 &&& (2147483647 : Int32)) % (6 : Int32)))])) (fun _ kt => iremM (g := (mkF m 49 #[.val (.int x0), .val (.int x1), .val (.int x2), .val (.int x3), .val (.ref b), .unset, .unset, .unset, .unset] [(.int (6 : Int32)), (.int (x0 &&& (2147483647 : Int32)))])) X13 hx rfl (hb hby at_49) rfl (by decide)  kt) ?_
  have hk := own_rem x0
  generalize ((x0 &&& (2147483647 : Int32)) % (6 : Int32)) = k at hk ⊢
  refine Go.by (S' := T13.setTop (mkF m 52 #[.val (.int x0), .val (.int x1), .val (.int x2), .val (.int x3), .val (.ref b), .val (.int k), .unset, .unset, .unset] [])) (fun _ kt => XS.istore X13.here hx rfl (hb hby at_50) rfl (l' := #[.val (.int x0), .val (.int x1), .val (.int x2), .val (.int x3), .val (.ref b), .val (.int k), .unset, .unset, .unset]) rfl  kt) ?_
  refine Go.by (S' := T13.setTop (mkF m 53 #[.val (.int x0), .val (.int x1), .val (.int x2), .val (.int x3), .val (.ref b), .val (.int k), .unset, .unset, .unset] [(.int x3)])) (fun _ kt => XS.iloadN X13.here hx rfl (hb hby at_52) rfl  kt) ?_
  refine Go.by (S' := T13.setTop (mkF m 54 #[.val (.int x0), .val (.int x1), .val (.int x2), .val (.int x3), .val (.ref b), .val (.int k), .unset, .unset, .unset] [(.int (1 : Int32)), (.int x3)])) (fun _ kt => XT.iconstV X13.here hx rfl (1 : Int32) (hb hby at_53) (by decide)  kt) ?_
  refine Go.by (S' := T13.setTop (mkF m 55 #[.val (.int x0), .val (.int x1), .val (.int x2), .val (.int x3), .val (.ref b), .val (.int k), .unset, .unset, .unset] [(.int (x3 &&& (1 : Int32)))])) (fun _ kt => XS.iand X13.here hx rfl (hb hby at_54) rfl  kt) ?_
  by_cases hc55_14 : (x3 &&& (1 : Int32)) = (0 : Int32)
  · refine Go.by (S' := T13.setTop (mkF m 62 #[.val (.int x0), .val (.int x1), .val (.int x2), .val (.int x3), .val (.ref b), .val (.int k), .unset, .unset, .unset] [])) (fun _ kt => XS.ifYes X13.here hx rfl (pc0 := 55) (pc' := 62) rfl (hb hby at_55) rfl (XT.i0_eq_t hc55_14) (by decide) (by decide)  kt) ?_
    refine Go.by (S' := T13.setTop (mkF m 63 #[.val (.int x0), .val (.int x1), .val (.int x2), .val (.int x3), .val (.ref b), .val (.int k), .unset, .unset, .unset] [(.int x2)])) (fun _ kt => XS.iloadN X13.here hx rfl (hb hby at_62) rfl  kt) ?_
    refine Go.by (S' := T13.setTop (mkF m 65 #[.val (.int x0), .val (.int x1), .val (.int x2), .val (.int x3), .val (.ref b), .val (.int k), .val (.int x2), .unset, .unset] [])) (fun _ kt => XS.istore X13.here hx rfl (hb hby at_63) rfl (l' := #[.val (.int x0), .val (.int x1), .val (.int x2), .val (.int x3), .val (.ref b), .val (.int k), .val (.int x2), .unset, .unset]) rfl  kt) ?_
    refine Go.by (S' := T13.setTop (mkF m 67 #[.val (.int x0), .val (.int x1), .val (.int x2), .val (.int x3), .val (.ref b), .val (.int k), .val (.int x2), .unset, .unset] [(.ref b)])) (fun _ kt => XS.aload X13.here hx rfl (hb hby at_65) rfl rfl  kt) ?_
    refine Go.by (S' := T13.setTop (mkF m 69 #[.val (.int x0), .val (.int x1), .val (.int x2), .val (.int x3), .val (.ref b), .val (.int k), .val (.int x2), .unset, .unset] [(.int k), (.ref b)])) (fun _ kt => XS.iload X13.here hx rfl (hb hby at_67) rfl  kt) ?_
    obtain ⟨clA, ArA, -, SzA, NnA, HA, -⟩ := V13
    have hinA : ¬ (k < 0 ∨ clA.slots.size ≤ k.toNatClampNeg) := inb_of SzA (by rcases hk with rfl | rfl | rfl | rfl | rfl | rfl <;> decide)
    have hatA : clA.slots[k.toNatClampNeg]? = some (.ref (pickA k c0 c1 c2 c3 c4 c5)) := Has.at HA hinA (by rcases hk with rfl | rfl | rfl | rfl | rfl | rfl <;> rfl)
    obtain ⟨F, E⟩ := own_pick k hk F0 F1 F2 F3 F4 F5 E0 E1 E2 E3 E4 E5
    have hcv := own_conv n1_0 n2_0 n2_1 n3_0 n3_1 n3_2 n4_0 n4_1 n4_2 n4_3 n5_0 n5_1 n5_2 n5_3 n5_4 k x1 x2 hk
    generalize (pickA k c0 c1 c2 c3 c4 c5) = d at hatA F E hcv
    refine Go.by (S' := T13.setTop (mkF m 70 #[.val (.int x0), .val (.int x1), .val (.int x2), .val (.int x3), .val (.ref b), .val (.int k), .val (.int x2), .unset, .unset] [(.ref d)])) (fun _ kt => X13.aaload hx (j := k) (v := .ref d) (by rw [e13]; exact ArA.1) (State.isArrayOf_alike hZ.alike ArA.2.1) rfl ArA.2.2 hinA hatA (g := (mkF m 69 #[.val (.int x0), .val (.int x1), .val (.int x2), .val (.int x3), .val (.ref b), .val (.int k), .val (.int x2), .unset, .unset] [(.int k), (.ref b)])) rfl rfl (hb hby at_69) _ kt) ?_
    refine Go.by (S' := T13.setTop (mkF m 72 #[.val (.int x0), .val (.int x1), .val (.int x2), .val (.int x3), .val (.ref b), .val (.int k), .val (.int x2), .val (.ref d), .unset] [])) (fun _ kt => XS.astore X13.here hx rfl (hb hby at_70) rfl rfl (l' := #[.val (.int x0), .val (.int x1), .val (.int x2), .val (.int x3), .val (.ref b), .val (.int k), .val (.int x2), .val (.ref d), .unset]) rfl  kt) ?_
    refine Go.by (S' := T13.setTop (mkF m 74 #[.val (.int x0), .val (.int x1), .val (.int x2), .val (.int x3), .val (.ref b), .val (.int k), .val (.int x2), .val (.ref d), .unset] [(.ref d)])) (fun _ kt => XS.aload X13.here hx rfl (hb hby at_72) rfl rfl  kt) ?_
    obtain ⟨cq15, kq15, q15a, q15b, q15c⟩ := isOf hZ e13 (E.ext EX13)
    obtain ⟨_, _, ⟨T15, L15, k15, n15⟩, -, X15, ⟨Lc15, hQ15, l15, y15, z15⟩, st15⟩ := X13.virtualBack hx (y := (⟨"com/example/iterleave/iterleave/Expression$Comparator", "converse", "()Lcom/example/iterleave/iterleave/Expression$Comparator;"⟩ : MethodName)) (z := (⟨"com/example/iterleave/iterleave/Expression$Comparator", "converse", "()Lcom/example/iterleave/iterleave/Expression$Comparator;"⟩ : MethodName)) hown (mvT hZ (hw _ (List.mem_of_getElem? (i := 17) rfl))) (mvT hZ (hw _ (List.mem_of_getElem? (i := 18) rfl))) (notFace_of_selects (args := #[]) (mvT hZ (hw _ (List.mem_of_getElem? (i := 20) rfl)))) (mvT hZ (hw _ (List.mem_of_getElem? (i := 20) rfl))) (mvT hZ (hw _ (List.mem_of_getElem? (i := 19) rfl))) (by decide) (backOf (W := 0) (rm1 l Z a0 hw [] d k c2 c3 c4 c5 h13 n0 (F.ext EX13) (E.ext EX13) hk (S2.ext EX13) (S3.ext EX13) (S4.ext EX13) (S5.ext EX13)) hZ (hw _ (List.mem_of_getElem? (i := 21) rfl)) (hw _ (List.mem_of_getElem? (i := 3) rfl)) (by decide) (by decide)) q15a q15c (g := (mkF m 74 #[.val (.int x0), .val (.int x1), .val (.int x2), .val (.int x3), .val (.ref b), .val (.int k), .val (.int x2), .val (.ref d), .unset] [(.ref d)])) rfl (by rw [hml]; rfl) (Steps.refl _) (argsL := []) (rest := []) (lenOf pd_0 rfl) rfl (by show 2 * 0 + _ ≤ _; exact Nat.le_of_eq rfl) (hb hby at_74) (fun _ _ => ⟨rfl, e13, (by decide : (0 + 1) + 0 ≤ _), (by decide : (0 + 6) + 0 ≤ _)⟩)
    dsimp only [Pt.U, Pt.locs, Pt.cells, Pt.slots] at X15 l15 y15 z15 st15 hQ15
    subst l15 y15 z15
    obtain ⟨rfl, N15q, e15⟩ := hQ15
    have N15 := Fr.app N13 N15q
    refine Go.at (S' := T15.setTop (mkF m 77 #[.val (.int x0), .val (.int x1), .val (.int x2), .val (.int x3), .val (.ref b), .val (.int k), .val (.int x2), .val (.ref d), .unset] [(.ref (convA k d c2 c3 c4 c5))])) st15 ?_
    refine Go.by (S' := T15.setTop (mkF m 79 #[.val (.int x0), .val (.int x1), .val (.int x2), .val (.int x3), .val (.ref b), .val (.int k), .val (.int x2), .val (.ref d), .val (.ref (convA k d c2 c3 c4 c5))] [])) (fun _ kt => XS.astore X15.here hx rfl (hb hby at_77) rfl rfl (l' := #[.val (.int x0), .val (.int x1), .val (.int x2), .val (.int x3), .val (.ref b), .val (.int k), .val (.int x2), .val (.ref d), .val (.ref (convA k d c2 c3 c4 c5))]) rfl  kt) ?_
    refine Go.by (S' := T15.setTop (mkF m 81 #[.val (.int x0), .val (.int x1), .val (.int x2), .val (.int x3), .val (.ref b), .val (.int k), .val (.int x2), .val (.ref d), .val (.ref (convA k d c2 c3 c4 c5))] [(.ref d)])) (fun _ kt => XS.aload X15.here hx rfl (hb hby at_79) rfl rfl  kt) ?_
    refine Go.by (S' := T15.setTop (mkF m 82 #[.val (.int x0), .val (.int x1), .val (.int x2), .val (.int x3), .val (.ref b), .val (.int k), .val (.int x2), .val (.ref d), .val (.ref (convA k d c2 c3 c4 c5))] [(.int x1), (.ref d)])) (fun _ kt => XS.iloadN X15.here hx rfl (hb hby at_81) rfl  kt) ?_
    refine Go.by (S' := T15.setTop (mkF m 84 #[.val (.int x0), .val (.int x1), .val (.int x2), .val (.int x3), .val (.ref b), .val (.int k), .val (.int x2), .val (.ref d), .val (.ref (convA k d c2 c3 c4 c5))] [(.int x2), (.int x1), (.ref d)])) (fun _ kt => XS.iload X15.here hx rfl (hb hby at_82) rfl  kt) ?_
    obtain ⟨_, _, ⟨T16, L16, k16, n16⟩, -, X16, ⟨Lc16, hQ16, l16, y16, z16⟩, st16⟩ := Jvm.LawKit.callS X15 hx (y := (⟨"com/example/iterleave/iterleave/ComparatorConversePinLaw", "holds", "(Lcom/example/iterleave/iterleave/Expression$Comparator;II)Z"⟩ : MethodName)) hown (mvT hZ (hw _ (List.mem_of_getElem? (i := 31) rfl))) (mvT hZ (hw _ (List.mem_of_getElem? (i := 32) rfl))) (mvT hZ (hw _ (List.mem_of_getElem? (i := 33) rfl))) (mvT hZ (hw _ (List.mem_of_getElem? (i := 34) rfl))) (by decide) (backOf (W := 0) (rm3 l Z a0 hw [] d x1 x2 c0 c1 c2 c3 c4 c5 h13 n0 (S0.ext EX13) (S1.ext EX13) (S2.ext EX13) (S3.ext EX13) (S4.ext EX13) (S5.ext EX13)) hZ (hw _ (List.mem_of_getElem? (i := 34) rfl)) (hw _ (List.mem_of_getElem? (i := 33) rfl)) (by decide) (by decide)) (g := (mkF m 84 #[.val (.int x0), .val (.int x1), .val (.int x2), .val (.int x3), .val (.ref b), .val (.int k), .val (.int x2), .val (.ref d), .val (.ref (convA k d c2 c3 c4 c5))] [(.int x2), (.int x1), (.ref d)])) rfl (by rw [hml]; rfl) (argsL := [(.ref d), (.int x1), (.int x2)]) (rest := []) (lenOf pd_2 rfl) rfl (by show 2 * 0 + _ ≤ _; exact Nat.le_of_eq rfl) (hb hby at_84) (fun _ _ => ⟨rfl, e15, (by decide : (0 + 1) + 0 ≤ _), (by decide : (0 + 6) + 0 ≤ _)⟩)
    dsimp only [Pt.U, Pt.locs, Pt.cells, Pt.slots] at X16 l16 y16 z16 st16 hQ16
    subst l16 y16 z16
    obtain ⟨rfl, N16q, e16⟩ := hQ16
    have N16 := Fr.app N15 N16q
    refine Go.by (S' := T16.setTop (mkF m 87 #[.val (.int x0), .val (.int x1), .val (.int x2), .val (.int x3), .val (.ref b), .val (.int k), .val (.int x2), .val (.ref d), .val (.ref (convA k d c2 c3 c4 c5))] [(.int (holdsF d c0 c1 c2 c3 c4 c5 x1 x2))])) st16 ?_
    refine Go.by (S' := T16.setTop (mkF m 89 #[.val (.int x0), .val (.int x1), .val (.int x2), .val (.int x3), .val (.ref b), .val (.int k), .val (.int x2), .val (.ref d), .val (.ref (convA k d c2 c3 c4 c5))] [(.ref (convA k d c2 c3 c4 c5)), (.int (holdsF d c0 c1 c2 c3 c4 c5 x1 x2))])) (fun _ kt => XS.aload X16.here hx rfl (hb hby at_87) rfl rfl  kt) ?_
    refine Go.by (S' := T16.setTop (mkF m 91 #[.val (.int x0), .val (.int x1), .val (.int x2), .val (.int x3), .val (.ref b), .val (.int k), .val (.int x2), .val (.ref d), .val (.ref (convA k d c2 c3 c4 c5))] [(.int x2), (.ref (convA k d c2 c3 c4 c5)), (.int (holdsF d c0 c1 c2 c3 c4 c5 x1 x2))])) (fun _ kt => XS.iload X16.here hx rfl (hb hby at_89) rfl  kt) ?_
    refine Go.by (S' := T16.setTop (mkF m 92 #[.val (.int x0), .val (.int x1), .val (.int x2), .val (.int x3), .val (.ref b), .val (.int k), .val (.int x2), .val (.ref d), .val (.ref (convA k d c2 c3 c4 c5))] [(.int x1), (.int x2), (.ref (convA k d c2 c3 c4 c5)), (.int (holdsF d c0 c1 c2 c3 c4 c5 x1 x2))])) (fun _ kt => XS.iloadN X16.here hx rfl (hb hby at_91) rfl  kt) ?_
    obtain ⟨_, _, ⟨T17, L17, k17, n17⟩, -, X17, ⟨Lc17, hQ17, l17, y17, z17⟩, st17⟩ := Jvm.LawKit.callS X16 hx (y := (⟨"com/example/iterleave/iterleave/ComparatorConversePinLaw", "holds", "(Lcom/example/iterleave/iterleave/Expression$Comparator;II)Z"⟩ : MethodName)) hown (mvT hZ (hw _ (List.mem_of_getElem? (i := 31) rfl))) (mvT hZ (hw _ (List.mem_of_getElem? (i := 32) rfl))) (mvT hZ (hw _ (List.mem_of_getElem? (i := 33) rfl))) (mvT hZ (hw _ (List.mem_of_getElem? (i := 34) rfl))) (by decide) (backOf (W := 1) (rm3 l Z a0 hw [] (convA k d c2 c3 c4 c5) x2 x1 c0 c1 c2 c3 c4 c5 h13 n0 (S0.ext EX13) (S1.ext EX13) (S2.ext EX13) (S3.ext EX13) (S4.ext EX13) (S5.ext EX13)) hZ (hw _ (List.mem_of_getElem? (i := 34) rfl)) (hw _ (List.mem_of_getElem? (i := 33) rfl)) (by decide) (by decide)) (g := (mkF m 92 #[.val (.int x0), .val (.int x1), .val (.int x2), .val (.int x3), .val (.ref b), .val (.int k), .val (.int x2), .val (.ref d), .val (.ref (convA k d c2 c3 c4 c5))] [(.int x1), (.int x2), (.ref (convA k d c2 c3 c4 c5)), (.int (holdsF d c0 c1 c2 c3 c4 c5 x1 x2))])) rfl (by rw [hml]; rfl) (argsL := [(.ref (convA k d c2 c3 c4 c5)), (.int x2), (.int x1)]) (rest := [(.int (holdsF d c0 c1 c2 c3 c4 c5 x1 x2))]) (lenOf pd_2 rfl) rfl (by show 2 * 0 + _ ≤ _; exact Nat.le_of_eq rfl) (hb hby at_92) (fun _ _ => ⟨rfl, e16, (by decide : (0 + 1) + 0 ≤ _), (by decide : (0 + 6) + 0 ≤ _)⟩)
    dsimp only [Pt.U, Pt.locs, Pt.cells, Pt.slots] at X17 l17 y17 z17 st17 hQ17
    subst l17 y17 z17
    obtain ⟨rfl, N17q, e17⟩ := hQ17
    have N17 := Fr.app N16 N17q
    refine Go.by (S' := T17.setTop (mkF m 95 #[.val (.int x0), .val (.int x1), .val (.int x2), .val (.int x3), .val (.ref b), .val (.int k), .val (.int x2), .val (.ref d), .val (.ref (convA k d c2 c3 c4 c5))] [(.int (holdsF (convA k d c2 c3 c4 c5) c0 c1 c2 c3 c4 c5 x2 x1)), (.int (holdsF d c0 c1 c2 c3 c4 c5 x1 x2))])) st17 ?_
    refine Go.by (S' := T17.setTop (mkF m 98 #[.val (.int x0), .val (.int x1), .val (.int x2), .val (.int x3), .val (.ref b), .val (.int k), .val (.int x2), .val (.ref d), .val (.ref (convA k d c2 c3 c4 c5))] [])) (fun _ kt => XS.icmpNo X17.here hx rfl (hb hby at_95) rfl (XT.ii_ne_f hcv)  kt) ?_
    refine Go.by (S' := T17.setTop (mkF m 99 #[.val (.int x0), .val (.int x1), .val (.int x2), .val (.int x3), .val (.ref b), .val (.int k), .val (.int x2), .val (.ref d), .val (.ref (convA k d c2 c3 c4 c5))] [(.int (1 : Int32))])) (fun _ kt => XT.iconstV X17.here hx rfl (1 : Int32) (hb hby at_98) (by decide)  kt) ?_
    refine Go.by (S' := T17.setTop (mkF m 103 #[.val (.int x0), .val (.int x1), .val (.int x2), .val (.int x3), .val (.ref b), .val (.int k), .val (.int x2), .val (.ref d), .val (.ref (convA k d c2 c3 c4 c5))] [(.int (1 : Int32))])) (fun _ kt => XS.goto X17.here hx rfl (pc0 := 99) (pc' := 103) rfl (hb hby at_99) (by decide) (by decide)  kt) ?_
    refine goRet X17 (v := some (.int (nar .boolean (1 : Int32)))) (fun h => by rw [Bd.returns] at h; cases h) Bd.notSynchronized (fun fs hr => retN X17 hx (t := .boolean) Bd.returns (by simp) (hb hby at_103) hr) (by decide) (by decide) ?_
    exact ⟨by simp [own_n1], N17⟩
  · refine Go.by (S' := T13.setTop (mkF m 58 #[.val (.int x0), .val (.int x1), .val (.int x2), .val (.int x3), .val (.ref b), .val (.int k), .unset, .unset, .unset] [])) (fun _ kt => XS.ifNo X13.here hx rfl (hb hby at_55) rfl (XT.i0_eq_f hc55_14)  kt) ?_
    refine Go.by (S' := T13.setTop (mkF m 59 #[.val (.int x0), .val (.int x1), .val (.int x2), .val (.int x3), .val (.ref b), .val (.int k), .unset, .unset, .unset] [(.int x1)])) (fun _ kt => XS.iloadN X13.here hx rfl (hb hby at_58) rfl  kt) ?_
    refine Go.by (S' := T13.setTop (mkF m 63 #[.val (.int x0), .val (.int x1), .val (.int x2), .val (.int x3), .val (.ref b), .val (.int k), .unset, .unset, .unset] [(.int x1)])) (fun _ kt => XS.goto X13.here hx rfl (pc0 := 59) (pc' := 63) rfl (hb hby at_59) (by decide) (by decide)  kt) ?_
    refine Go.by (S' := T13.setTop (mkF m 65 #[.val (.int x0), .val (.int x1), .val (.int x2), .val (.int x3), .val (.ref b), .val (.int k), .val (.int x1), .unset, .unset] [])) (fun _ kt => XS.istore X13.here hx rfl (hb hby at_63) rfl (l' := #[.val (.int x0), .val (.int x1), .val (.int x2), .val (.int x3), .val (.ref b), .val (.int k), .val (.int x1), .unset, .unset]) rfl  kt) ?_
    refine Go.by (S' := T13.setTop (mkF m 67 #[.val (.int x0), .val (.int x1), .val (.int x2), .val (.int x3), .val (.ref b), .val (.int k), .val (.int x1), .unset, .unset] [(.ref b)])) (fun _ kt => XS.aload X13.here hx rfl (hb hby at_65) rfl rfl  kt) ?_
    refine Go.by (S' := T13.setTop (mkF m 69 #[.val (.int x0), .val (.int x1), .val (.int x2), .val (.int x3), .val (.ref b), .val (.int k), .val (.int x1), .unset, .unset] [(.int k), (.ref b)])) (fun _ kt => XS.iload X13.here hx rfl (hb hby at_67) rfl  kt) ?_
    obtain ⟨clA, ArA, -, SzA, NnA, HA, -⟩ := V13
    have hinA : ¬ (k < 0 ∨ clA.slots.size ≤ k.toNatClampNeg) := inb_of SzA (by rcases hk with rfl | rfl | rfl | rfl | rfl | rfl <;> decide)
    have hatA : clA.slots[k.toNatClampNeg]? = some (.ref (pickA k c0 c1 c2 c3 c4 c5)) := Has.at HA hinA (by rcases hk with rfl | rfl | rfl | rfl | rfl | rfl <;> rfl)
    obtain ⟨F, E⟩ := own_pick k hk F0 F1 F2 F3 F4 F5 E0 E1 E2 E3 E4 E5
    have hcv := own_conv n1_0 n2_0 n2_1 n3_0 n3_1 n3_2 n4_0 n4_1 n4_2 n4_3 n5_0 n5_1 n5_2 n5_3 n5_4 k x1 x1 hk
    generalize (pickA k c0 c1 c2 c3 c4 c5) = d at hatA F E hcv
    refine Go.by (S' := T13.setTop (mkF m 70 #[.val (.int x0), .val (.int x1), .val (.int x2), .val (.int x3), .val (.ref b), .val (.int k), .val (.int x1), .unset, .unset] [(.ref d)])) (fun _ kt => X13.aaload hx (j := k) (v := .ref d) (by rw [e13]; exact ArA.1) (State.isArrayOf_alike hZ.alike ArA.2.1) rfl ArA.2.2 hinA hatA (g := (mkF m 69 #[.val (.int x0), .val (.int x1), .val (.int x2), .val (.int x3), .val (.ref b), .val (.int k), .val (.int x1), .unset, .unset] [(.int k), (.ref b)])) rfl rfl (hb hby at_69) _ kt) ?_
    refine Go.by (S' := T13.setTop (mkF m 72 #[.val (.int x0), .val (.int x1), .val (.int x2), .val (.int x3), .val (.ref b), .val (.int k), .val (.int x1), .val (.ref d), .unset] [])) (fun _ kt => XS.astore X13.here hx rfl (hb hby at_70) rfl rfl (l' := #[.val (.int x0), .val (.int x1), .val (.int x2), .val (.int x3), .val (.ref b), .val (.int k), .val (.int x1), .val (.ref d), .unset]) rfl  kt) ?_
    refine Go.by (S' := T13.setTop (mkF m 74 #[.val (.int x0), .val (.int x1), .val (.int x2), .val (.int x3), .val (.ref b), .val (.int k), .val (.int x1), .val (.ref d), .unset] [(.ref d)])) (fun _ kt => XS.aload X13.here hx rfl (hb hby at_72) rfl rfl  kt) ?_
    obtain ⟨cq18, kq18, q18a, q18b, q18c⟩ := isOf hZ e13 (E.ext EX13)
    obtain ⟨_, _, ⟨T18, L18, k18, n18⟩, -, X18, ⟨Lc18, hQ18, l18, y18, z18⟩, st18⟩ := X13.virtualBack hx (y := (⟨"com/example/iterleave/iterleave/Expression$Comparator", "converse", "()Lcom/example/iterleave/iterleave/Expression$Comparator;"⟩ : MethodName)) (z := (⟨"com/example/iterleave/iterleave/Expression$Comparator", "converse", "()Lcom/example/iterleave/iterleave/Expression$Comparator;"⟩ : MethodName)) hown (mvT hZ (hw _ (List.mem_of_getElem? (i := 17) rfl))) (mvT hZ (hw _ (List.mem_of_getElem? (i := 18) rfl))) (notFace_of_selects (args := #[]) (mvT hZ (hw _ (List.mem_of_getElem? (i := 20) rfl)))) (mvT hZ (hw _ (List.mem_of_getElem? (i := 20) rfl))) (mvT hZ (hw _ (List.mem_of_getElem? (i := 19) rfl))) (by decide) (backOf (W := 0) (rm1 l Z a0 hw [] d k c2 c3 c4 c5 h13 n0 (F.ext EX13) (E.ext EX13) hk (S2.ext EX13) (S3.ext EX13) (S4.ext EX13) (S5.ext EX13)) hZ (hw _ (List.mem_of_getElem? (i := 21) rfl)) (hw _ (List.mem_of_getElem? (i := 3) rfl)) (by decide) (by decide)) q18a q18c (g := (mkF m 74 #[.val (.int x0), .val (.int x1), .val (.int x2), .val (.int x3), .val (.ref b), .val (.int k), .val (.int x1), .val (.ref d), .unset] [(.ref d)])) rfl (by rw [hml]; rfl) (Steps.refl _) (argsL := []) (rest := []) (lenOf pd_0 rfl) rfl (by show 2 * 0 + _ ≤ _; exact Nat.le_of_eq rfl) (hb hby at_74) (fun _ _ => ⟨rfl, e13, (by decide : (0 + 1) + 0 ≤ _), (by decide : (0 + 6) + 0 ≤ _)⟩)
    dsimp only [Pt.U, Pt.locs, Pt.cells, Pt.slots] at X18 l18 y18 z18 st18 hQ18
    subst l18 y18 z18
    obtain ⟨rfl, N18q, e18⟩ := hQ18
    have N18 := Fr.app N13 N18q
    refine Go.at (S' := T18.setTop (mkF m 77 #[.val (.int x0), .val (.int x1), .val (.int x2), .val (.int x3), .val (.ref b), .val (.int k), .val (.int x1), .val (.ref d), .unset] [(.ref (convA k d c2 c3 c4 c5))])) st18 ?_
    refine Go.by (S' := T18.setTop (mkF m 79 #[.val (.int x0), .val (.int x1), .val (.int x2), .val (.int x3), .val (.ref b), .val (.int k), .val (.int x1), .val (.ref d), .val (.ref (convA k d c2 c3 c4 c5))] [])) (fun _ kt => XS.astore X18.here hx rfl (hb hby at_77) rfl rfl (l' := #[.val (.int x0), .val (.int x1), .val (.int x2), .val (.int x3), .val (.ref b), .val (.int k), .val (.int x1), .val (.ref d), .val (.ref (convA k d c2 c3 c4 c5))]) rfl  kt) ?_
    refine Go.by (S' := T18.setTop (mkF m 81 #[.val (.int x0), .val (.int x1), .val (.int x2), .val (.int x3), .val (.ref b), .val (.int k), .val (.int x1), .val (.ref d), .val (.ref (convA k d c2 c3 c4 c5))] [(.ref d)])) (fun _ kt => XS.aload X18.here hx rfl (hb hby at_79) rfl rfl  kt) ?_
    refine Go.by (S' := T18.setTop (mkF m 82 #[.val (.int x0), .val (.int x1), .val (.int x2), .val (.int x3), .val (.ref b), .val (.int k), .val (.int x1), .val (.ref d), .val (.ref (convA k d c2 c3 c4 c5))] [(.int x1), (.ref d)])) (fun _ kt => XS.iloadN X18.here hx rfl (hb hby at_81) rfl  kt) ?_
    refine Go.by (S' := T18.setTop (mkF m 84 #[.val (.int x0), .val (.int x1), .val (.int x2), .val (.int x3), .val (.ref b), .val (.int k), .val (.int x1), .val (.ref d), .val (.ref (convA k d c2 c3 c4 c5))] [(.int x1), (.int x1), (.ref d)])) (fun _ kt => XS.iload X18.here hx rfl (hb hby at_82) rfl  kt) ?_
    obtain ⟨_, _, ⟨T19, L19, k19, n19⟩, -, X19, ⟨Lc19, hQ19, l19, y19, z19⟩, st19⟩ := Jvm.LawKit.callS X18 hx (y := (⟨"com/example/iterleave/iterleave/ComparatorConversePinLaw", "holds", "(Lcom/example/iterleave/iterleave/Expression$Comparator;II)Z"⟩ : MethodName)) hown (mvT hZ (hw _ (List.mem_of_getElem? (i := 31) rfl))) (mvT hZ (hw _ (List.mem_of_getElem? (i := 32) rfl))) (mvT hZ (hw _ (List.mem_of_getElem? (i := 33) rfl))) (mvT hZ (hw _ (List.mem_of_getElem? (i := 34) rfl))) (by decide) (backOf (W := 0) (rm3 l Z a0 hw [] d x1 x1 c0 c1 c2 c3 c4 c5 h13 n0 (S0.ext EX13) (S1.ext EX13) (S2.ext EX13) (S3.ext EX13) (S4.ext EX13) (S5.ext EX13)) hZ (hw _ (List.mem_of_getElem? (i := 34) rfl)) (hw _ (List.mem_of_getElem? (i := 33) rfl)) (by decide) (by decide)) (g := (mkF m 84 #[.val (.int x0), .val (.int x1), .val (.int x2), .val (.int x3), .val (.ref b), .val (.int k), .val (.int x1), .val (.ref d), .val (.ref (convA k d c2 c3 c4 c5))] [(.int x1), (.int x1), (.ref d)])) rfl (by rw [hml]; rfl) (argsL := [(.ref d), (.int x1), (.int x1)]) (rest := []) (lenOf pd_2 rfl) rfl (by show 2 * 0 + _ ≤ _; exact Nat.le_of_eq rfl) (hb hby at_84) (fun _ _ => ⟨rfl, e18, (by decide : (0 + 1) + 0 ≤ _), (by decide : (0 + 6) + 0 ≤ _)⟩)
    dsimp only [Pt.U, Pt.locs, Pt.cells, Pt.slots] at X19 l19 y19 z19 st19 hQ19
    subst l19 y19 z19
    obtain ⟨rfl, N19q, e19⟩ := hQ19
    have N19 := Fr.app N18 N19q
    refine Go.by (S' := T19.setTop (mkF m 87 #[.val (.int x0), .val (.int x1), .val (.int x2), .val (.int x3), .val (.ref b), .val (.int k), .val (.int x1), .val (.ref d), .val (.ref (convA k d c2 c3 c4 c5))] [(.int (holdsF d c0 c1 c2 c3 c4 c5 x1 x1))])) st19 ?_
    refine Go.by (S' := T19.setTop (mkF m 89 #[.val (.int x0), .val (.int x1), .val (.int x2), .val (.int x3), .val (.ref b), .val (.int k), .val (.int x1), .val (.ref d), .val (.ref (convA k d c2 c3 c4 c5))] [(.ref (convA k d c2 c3 c4 c5)), (.int (holdsF d c0 c1 c2 c3 c4 c5 x1 x1))])) (fun _ kt => XS.aload X19.here hx rfl (hb hby at_87) rfl rfl  kt) ?_
    refine Go.by (S' := T19.setTop (mkF m 91 #[.val (.int x0), .val (.int x1), .val (.int x2), .val (.int x3), .val (.ref b), .val (.int k), .val (.int x1), .val (.ref d), .val (.ref (convA k d c2 c3 c4 c5))] [(.int x1), (.ref (convA k d c2 c3 c4 c5)), (.int (holdsF d c0 c1 c2 c3 c4 c5 x1 x1))])) (fun _ kt => XS.iload X19.here hx rfl (hb hby at_89) rfl  kt) ?_
    refine Go.by (S' := T19.setTop (mkF m 92 #[.val (.int x0), .val (.int x1), .val (.int x2), .val (.int x3), .val (.ref b), .val (.int k), .val (.int x1), .val (.ref d), .val (.ref (convA k d c2 c3 c4 c5))] [(.int x1), (.int x1), (.ref (convA k d c2 c3 c4 c5)), (.int (holdsF d c0 c1 c2 c3 c4 c5 x1 x1))])) (fun _ kt => XS.iloadN X19.here hx rfl (hb hby at_91) rfl  kt) ?_
    obtain ⟨_, _, ⟨T20, L20, k20, n20⟩, -, X20, ⟨Lc20, hQ20, l20, y20, z20⟩, st20⟩ := Jvm.LawKit.callS X19 hx (y := (⟨"com/example/iterleave/iterleave/ComparatorConversePinLaw", "holds", "(Lcom/example/iterleave/iterleave/Expression$Comparator;II)Z"⟩ : MethodName)) hown (mvT hZ (hw _ (List.mem_of_getElem? (i := 31) rfl))) (mvT hZ (hw _ (List.mem_of_getElem? (i := 32) rfl))) (mvT hZ (hw _ (List.mem_of_getElem? (i := 33) rfl))) (mvT hZ (hw _ (List.mem_of_getElem? (i := 34) rfl))) (by decide) (backOf (W := 1) (rm3 l Z a0 hw [] (convA k d c2 c3 c4 c5) x1 x1 c0 c1 c2 c3 c4 c5 h13 n0 (S0.ext EX13) (S1.ext EX13) (S2.ext EX13) (S3.ext EX13) (S4.ext EX13) (S5.ext EX13)) hZ (hw _ (List.mem_of_getElem? (i := 34) rfl)) (hw _ (List.mem_of_getElem? (i := 33) rfl)) (by decide) (by decide)) (g := (mkF m 92 #[.val (.int x0), .val (.int x1), .val (.int x2), .val (.int x3), .val (.ref b), .val (.int k), .val (.int x1), .val (.ref d), .val (.ref (convA k d c2 c3 c4 c5))] [(.int x1), (.int x1), (.ref (convA k d c2 c3 c4 c5)), (.int (holdsF d c0 c1 c2 c3 c4 c5 x1 x1))])) rfl (by rw [hml]; rfl) (argsL := [(.ref (convA k d c2 c3 c4 c5)), (.int x1), (.int x1)]) (rest := [(.int (holdsF d c0 c1 c2 c3 c4 c5 x1 x1))]) (lenOf pd_2 rfl) rfl (by show 2 * 0 + _ ≤ _; exact Nat.le_of_eq rfl) (hb hby at_92) (fun _ _ => ⟨rfl, e19, (by decide : (0 + 1) + 0 ≤ _), (by decide : (0 + 6) + 0 ≤ _)⟩)
    dsimp only [Pt.U, Pt.locs, Pt.cells, Pt.slots] at X20 l20 y20 z20 st20 hQ20
    subst l20 y20 z20
    obtain ⟨rfl, N20q, e20⟩ := hQ20
    have N20 := Fr.app N19 N20q
    refine Go.by (S' := T20.setTop (mkF m 95 #[.val (.int x0), .val (.int x1), .val (.int x2), .val (.int x3), .val (.ref b), .val (.int k), .val (.int x1), .val (.ref d), .val (.ref (convA k d c2 c3 c4 c5))] [(.int (holdsF (convA k d c2 c3 c4 c5) c0 c1 c2 c3 c4 c5 x1 x1)), (.int (holdsF d c0 c1 c2 c3 c4 c5 x1 x1))])) st20 ?_
    refine Go.by (S' := T20.setTop (mkF m 98 #[.val (.int x0), .val (.int x1), .val (.int x2), .val (.int x3), .val (.ref b), .val (.int k), .val (.int x1), .val (.ref d), .val (.ref (convA k d c2 c3 c4 c5))] [])) (fun _ kt => XS.icmpNo X20.here hx rfl (hb hby at_95) rfl (XT.ii_ne_f hcv)  kt) ?_
    refine Go.by (S' := T20.setTop (mkF m 99 #[.val (.int x0), .val (.int x1), .val (.int x2), .val (.int x3), .val (.ref b), .val (.int k), .val (.int x1), .val (.ref d), .val (.ref (convA k d c2 c3 c4 c5))] [(.int (1 : Int32))])) (fun _ kt => XT.iconstV X20.here hx rfl (1 : Int32) (hb hby at_98) (by decide)  kt) ?_
    refine Go.by (S' := T20.setTop (mkF m 103 #[.val (.int x0), .val (.int x1), .val (.int x2), .val (.int x3), .val (.ref b), .val (.int k), .val (.int x1), .val (.ref d), .val (.ref (convA k d c2 c3 c4 c5))] [(.int (1 : Int32))])) (fun _ kt => XS.goto X20.here hx rfl (pc0 := 99) (pc' := 103) rfl (hb hby at_99) (by decide) (by decide)  kt) ?_
    refine goRet X20 (v := some (.int (nar .boolean (1 : Int32)))) (fun h => by rw [Bd.returns] at h; cases h) Bd.notSynchronized (fun fs hr => retN X20 hx (t := .boolean) Bd.returns (by simp) (hb hby at_103) hr) (by decide) (by decide) ?_
    exact ⟨by simp [own_n1], N20⟩
set_option maxRecDepth 65536 in
set_option maxHeartbeats 40000000 in
theorem comes_1 {Post : Tables → Env → Array Value → State → Outcome → State → Prop} (hpost : ∀ tb e args s v u, (limb_1_1.after args s (.returned v) u = true ∧ limb_1_2.after args s (.returned v) u = true ∧ True) → FrameEnd s (.returned v) u (Jvm.fieldLocs frame_1_writes args s ++ Jvm.arrayLocs frame_1_arrays args s ++ Jvm.staticLocs frame_1_statics s) 16 128 → Post tb e args s (.returned v) u) :
    ArmFor flags0 classFile x code maxLocals ret World_1 tables_1 room_1 Calls_1 rest_1 Pre_1 Post := by
  intro l hfl _ _ p e ha hc hk s m args below hf hA hF happ hP
  obtain ⟨hcalls, hrest, hpre⟩ := hP
  obtain ⟨-, -, -, hnamed, -, -, -, hat⟩ := (Spec.applies_iff hf).mp happ
  obtain ⟨hg, hn⟩ := and_e (Cond.before_iff.mp (show (Jvm.Cond.and given_1 narrow_1).before args s = true from hpre))
  obtain ⟨gc, gr0⟩ := and_e hg
  obtain ⟨gi0, gr1⟩ := and_e gr0
  obtain ⟨gi1, gr2⟩ := and_e gr1
  obtain ⟨gi2, gr3⟩ := and_e gr2
  have gi3 := gr3
  obtain ⟨w0, w1, w2, w3, rfl⟩ : ∃ w0 w1 w2 w3 : Value, args = #[w0, w1, w2, w3] := by
    have hs : args.size = 4 := by simpa [Cond.value, given_1] using gc
    obtain ⟨L⟩ := args
    match L, hs with
    | [w0, w1, w2, w3], _ => exact ⟨w0, w1, w2, w3, rfl⟩
  have hw := fun d (hd : d ∈ tables_1) => atoms_spec (ws := Jvm.Cond.code x code maxLocals ret :: tables_1) hat d (List.mem_cons_of_mem _ hd)
  have hfit : Fit s := fun {y c} hc i hi => by
    obtain ⟨ha, rfl⟩ := Array.getElem?_eq_some_iff.mp hc
    have q := List.all_eq_true.mp ((Array.all_eq_true_iff_forall_mem.mp hF) _ (Array.getElem_mem ha)) i (List.mem_range.mpr hi)
    simpa [Array.getElem?_eq_getElem hi] using q
  obtain ⟨i0, ei0⟩ := is_v gi0
  obtain rfl : w0 = (.int i0) := Option.some.inj ei0
  obtain ⟨i1, ei1⟩ := is_v gi1
  obtain rfl : w1 = (.int i1) := Option.some.inj ei1
  obtain ⟨i2, ei2⟩ := is_v gi2
  obtain rfl : w2 = (.int i2) := Option.some.inj ei2
  obtain ⟨i3, ei3⟩ := is_v gi3
  obtain rfl : w3 = (.int i3) := Option.some.inj ei3
  obtain ⟨nx0, nr0⟩ := and_e hn
  obtain ⟨nx1, nr1⟩ := and_e nr0
  obtain ⟨nx2, nr2⟩ := and_e nr1
  obtain ⟨nx3, nr3⟩ := and_e nr2
  obtain ⟨nx4, nr4⟩ := and_e nr3
  obtain ⟨nx5, nr5⟩ := and_e nr4
  obtain ⟨ne0, nr6⟩ := and_e nr5
  obtain ⟨ne1, nr7⟩ := and_e nr6
  obtain ⟨ne4, nr8⟩ := and_e nr7
  obtain ⟨ne2, nr9⟩ := and_e nr8
  obtain ⟨ne3, nr10⟩ := and_e nr9
  have ne5 := nr10
  obtain ⟨c0, S0, E0, F0⟩ := own_enum nx0 ne0 (hw _ (List.mem_of_getElem? (i := 3) rfl)) (hw _ (List.mem_of_getElem? (i := 4) rfl))
  obtain ⟨c1, S1, E1, F1⟩ := own_enum nx1 ne1 (hw _ (List.mem_of_getElem? (i := 3) rfl)) (hw _ (List.mem_of_getElem? (i := 7) rfl))
  obtain ⟨c2, S2, E2, F2⟩ := own_enum nx2 ne2 (hw _ (List.mem_of_getElem? (i := 3) rfl)) (hw _ (List.mem_of_getElem? (i := 9) rfl))
  obtain ⟨c3, S3, E3, F3⟩ := own_enum nx3 ne3 (hw _ (List.mem_of_getElem? (i := 3) rfl)) (hw _ (List.mem_of_getElem? (i := 11) rfl))
  obtain ⟨c4, S4, E4, F4⟩ := own_enum nx4 ne4 (hw _ (List.mem_of_getElem? (i := 3) rfl)) (hw _ (List.mem_of_getElem? (i := 13) rfl))
  obtain ⟨c5, S5, E5, F5⟩ := own_enum nx5 ne5 (hw _ (List.mem_of_getElem? (i := 3) rfl)) (hw _ (List.mem_of_getElem? (i := 15) rfl))
  obtain ⟨n, o, h1, h2, h3, _, L, rfl, ⟨rfl, N⟩, hq⟩ := rm0 l s _ hw tables_1 i0 i1 i2 i3 c0 c1 c2 c3 c4 c5 s.heap s.heap.size (Nat.le_refl _) S0 S1 S2 S3 S4 S5 F0 F1 F2 F3 F4 F5 E0 E1 E2 E3 E4 E5 (F1.ne F0 (fun q => absurd (Value.int.inj q) (by decide))) (F2.ne F0 (fun q => absurd (Value.int.inj q) (by decide))) (F2.ne F1 (fun q => absurd (Value.int.inj q) (by decide))) (F3.ne F0 (fun q => absurd (Value.int.inj q) (by decide))) (F3.ne F1 (fun q => absurd (Value.int.inj q) (by decide))) (F3.ne F2 (fun q => absurd (Value.int.inj q) (by decide))) (F4.ne F0 (fun q => absurd (Value.int.inj q) (by decide))) (F4.ne F1 (fun q => absurd (Value.int.inj q) (by decide))) (F4.ne F2 (fun q => absurd (Value.int.inj q) (by decide))) (F4.ne F3 (fun q => absurd (Value.int.inj q) (by decide))) (F5.ne F0 (fun q => absurd (Value.int.inj q) (by decide))) (F5.ne F1 (fun q => absurd (Value.int.inj q) (by decide))) (F5.ne F2 (fun q => absurd (Value.int.inj q) (by decide))) (F5.ne F3 (fun q => absurd (Value.int.inj q) (by decide))) (F5.ne F4 (fun q => absurd (Value.int.inj q) (by decide))) p e ha hc hk s m _ below hf ((Spec.applies_iff_loose hf).mp happ).1 ⟨rfl, State.Warmed39.refl s, rfl⟩ trivial
  refine ⟨n, _, h1, h2, h3, hpost _ _ _ _ _ _ ⟨Cond.after_iff.mpr rfl, Cond.after_iff.mpr (eq_i res_at (Term.int_eval (1)) rfl), trivial⟩ ⟨hq.1, hq.2.1, (hq.2.2.sift fun y hy => Or.inr (N y hy)).mono (by decide) (by decide)⟩⟩
theorem main_1_1 : Claimed_1_1 := comes_1 fun _ _ _ _ _ _ h hF => ⟨h.1, hF⟩
theorem main_1_2 : Claimed_1_2 := comes_1 fun _ _ _ _ _ _ h hF => ⟨h.2.1, hF⟩
end Jvm.Pilot.@@N@@
namespace Jvm.Pilot.@@N@@
open Jvm Jvm.ClassFile Sem Op Lib Jvm.Free Jvm.Stand Jvm.Pilot.@@N@@.Jvm.D
/-! MADE BY PROGRAM (witnessworld.py) out of the Statement's table words and the real class files: 13 classes; the members and pool entries that the words name. The judged class is class 1, her method 2. -/
namespace start1
open Jvm.ClassFile
def u (s : String) : CpInfo := .utf8 (stringToUtf16 s)
/-- a pool by its gaps: so many unusable entries, then the entry; so many at the end -/
def gap : Nat → List CpInfo → List CpInfo
  | 0, r => r
  | n + 1, r => .unusable :: gap n r
def poolList (es : List (Nat × CpInfo)) (last : Nat) : List CpInfo := es.foldr (fun e r => gap e.1 (e.2 :: r)) (gap last [])
def pool (es : List (Nat × CpInfo)) (last : Nat) : Array CpInfo := ⟨poolList es last⟩
def fileOf (pool : Array CpInfo) (this : Nat) (attrs : Array Attribute := #[]) (ms : Array MethodInfo := #[]) (fl : Nat := 33) (sup : Nat := 0) (ifs : Array Nat := #[]) (fds : Array FieldInfo := #[]) : ClassFile where
  minorVersion := 0
  majorVersion := 65
  constantPool := pool
  accessFlags := fl
  thisClass := this
  superClass := sup
  interfaces := ifs
  fields := fds
  methods := ms
  attributes := attrs
def plain (name : String) (sup : Option ClassId) : Class where
  name := name
  kind := .ordinary
  loader := none
  accessFlags := 33
  super := sup
  interfaces := #[]
  cf := none
  fields := #[]
  methods := #[]
  instanceTypes := #[]
  staticTypes := #[]
  resolved := #[]
  callSites := []
  init := .initialized
  statics := none
  mirror := none

def pool0 : Array CpInfo := pool [(5, u "<init>"), (0, u "()V"), (1, .class_ 10), (1, u "java/lang/Object")] 113

def k0m0 : Method := { name := "<init>", desc := "()V", sig := { parameters := [], returnType := none }, accessFlags := 1, code := none }
/-- java/lang/Object -/
def k0 : Class := { plain "java/lang/Object" none with
  accessFlags := 33
  interfaces := #[]
  cf := some (fileOf pool0 8 #[] #[{ accessFlags := 1, nameIndex := 5, descriptorIndex := 6, attributes := #[] }] 33 0 #[] #[])
  fields := #[]
  methods := #[k0m0]
  instanceTypes := #[]
  staticTypes := #[]
  resolved := Array.replicate 124 none
  statics := none }

def pool1 : Array CpInfo := pool [(2, .class_ 4), (1, u "java/lang/Object"), (0, u "<init>"), (0, u "()V"), (0, .fieldref 8 9), (0, .class_ 10), (0, .nameAndType 11 12), (0, u "com/example/iterleave/iterleave/Expression$Comparator"), (0, u "EQUAL"), (0, u "Lcom/example/iterleave/iterleave/Expression$Comparator;"), (0, .fieldref 8 14), (0, .nameAndType 15 12), (0, u "NOT_EQUAL"), (0, .fieldref 8 17), (0, .nameAndType 18 12), (0, u "LESS"), (0, .fieldref 8 20), (0, .nameAndType 21 12), (0, u "LESS_OR_EQUAL"), (0, .fieldref 8 23), (0, .nameAndType 24 12), (0, u "GREATER"), (0, .fieldref 8 26), (0, .nameAndType 27 12), (0, u "GREATER_OR_EQUAL"), (0, .integer 2147483647), (0, .methodref 8 30), (0, .nameAndType 31 32), (0, u "converse"), (0, u "()Lcom/example/iterleave/iterleave/Expression$Comparator;"), (0, .methodref 34 35), (0, .class_ 36), (0, .nameAndType 37 38), (0, u "com/example/iterleave/iterleave/ComparatorConversePinLaw"), (0, u "holds"), (0, u "(Lcom/example/iterleave/iterleave/Expression$Comparator;II)Z"), (3, u "law"), (0, u "(IIII)Z")] 8

def k1m0 : Method := { name := "<init>", desc := "()V", sig := { parameters := [], returnType := none }, accessFlags := 2, code := none }
def k1c1 : Code := { maxStack := 2, maxLocals := 3, code := method_2_code, exceptionTable := #[], attributes := #[] }
def k1m1 : Method := { name := "holds", desc := "(Lcom/example/iterleave/iterleave/Expression$Comparator;II)Z", sig := { parameters := [(.object "com/example/iterleave/iterleave/Expression$Comparator"), .int, .int], returnType := some .boolean }, accessFlags := 10, code := some k1c1 }
def k1c2 : Code := { maxStack := 4, maxLocals := 9, code := code, exceptionTable := #[], attributes := #[] }
def k1m2 : Method := { name := "law", desc := "(IIII)Z", sig := { parameters := [.int, .int, .int, .int], returnType := some .boolean }, accessFlags := 9, code := some k1c2 }
/-- com/example/iterleave/iterleave/ComparatorConversePinLaw -/
def k1 : Class := { plain "com/example/iterleave/iterleave/ComparatorConversePinLaw" (some 0) with
  accessFlags := 49
  interfaces := #[]
  cf := some (fileOf pool1 34 #[] #[{ accessFlags := 2, nameIndex := 5, descriptorIndex := 6, attributes := #[] }, { accessFlags := 10, nameIndex := 37, descriptorIndex := 38, attributes := #[] }, { accessFlags := 9, nameIndex := 42, descriptorIndex := 43, attributes := #[] }] 49 2 #[] #[])
  fields := #[]
  methods := #[k1m0, k1m1, k1m2]
  instanceTypes := #[]
  staticTypes := #[]
  resolved := Array.replicate 52 none
  statics := none }

def pool2 : Array CpInfo := pool [(1, .class_ 2), (0, u "java/lang/constant/Constable"), (0, .class_ 4), (0, u "java/lang/Object")] 6

/-- java/lang/constant/Constable -/
def k2 : Class := { plain "java/lang/constant/Constable" (some 0) with
  accessFlags := 1537
  interfaces := #[]
  cf := some (fileOf pool2 1 #[] #[] 1537 3 #[] #[])
  fields := #[]
  methods := #[]
  instanceTypes := #[]
  staticTypes := #[]
  resolved := Array.replicate 11 none
  statics := none }

def pool3 : Array CpInfo := pool [(1, .class_ 2), (0, u "java/lang/Comparable"), (0, .class_ 4), (0, u "java/lang/Object")] 7

/-- java/lang/Comparable -/
def k3 : Class := { plain "java/lang/Comparable" (some 0) with
  accessFlags := 1537
  interfaces := #[]
  cf := some (fileOf pool3 1 #[] #[] 1537 3 #[] #[])
  fields := #[]
  methods := #[]
  instanceTypes := #[]
  staticTypes := #[]
  resolved := Array.replicate 12 none
  statics := none }

def pool4 : Array CpInfo := pool [(1, .class_ 2), (0, u "java/io/Serializable"), (0, .class_ 4), (0, u "java/lang/Object")] 2

/-- java/io/Serializable -/
def k4 : Class := { plain "java/io/Serializable" (some 0) with
  accessFlags := 1537
  interfaces := #[]
  cf := some (fileOf pool4 1 #[] #[] 1537 3 #[] #[])
  fields := #[]
  methods := #[]
  instanceTypes := #[]
  staticTypes := #[]
  resolved := Array.replicate 7 none
  statics := none }

def pool5 : Array CpInfo := pool [(2, .class_ 4), (1, u "java/lang/Enum"), (0, u "name"), (0, u "Ljava/lang/String;"), (0, .fieldref 2 8), (0, .nameAndType 9 10), (0, u "ordinal"), (0, u "I"), (1, .class_ 14), (1, u "java/lang/Object"), (4, u "hash"), (86, .class_ 108), (1, u "java/lang/Enum$EnumDesc"), (2, .class_ 112), (0, u "java/lang/constant/Constable"), (0, .class_ 114), (0, u "java/lang/Comparable"), (0, .class_ 116), (0, u "java/io/Serializable"), (9, u "()I")] 77

def k5c0 : Code := { maxStack := 1, maxLocals := 1, code := jdk_37_method_2_code, exceptionTable := #[], attributes := #[] }
def k5m0 : Method := { name := "ordinal", desc := "()I", sig := { parameters := [], returnType := some .int }, accessFlags := 17, code := some k5c0 }
/-- java/lang/Enum -/
def k5 : Class := { plain "java/lang/Enum" (some 0) with
  accessFlags := 1057
  interfaces := #[2, 3, 4]
  cf := some (fileOf pool5 2 #[.nestMembers #[106]] #[{ accessFlags := 17, nameIndex := 9, descriptorIndex := 126, attributes := #[] }] 1057 12 #[111, 113, 115] #[{ accessFlags := 18, nameIndex := 5, descriptorIndex := 6, attributes := #[] }, { accessFlags := 18, nameIndex := 9, descriptorIndex := 10, attributes := #[] }, { accessFlags := 2, nameIndex := 19, descriptorIndex := 10, attributes := #[] }])
  fields := #[{ name := "name", type := (.object "java/lang/String"), accessFlags := 18, slot := 0, constantValue := 0 }, { name := "ordinal", type := .int, accessFlags := 18, slot := 1, constantValue := 0 }, { name := "hash", type := .int, accessFlags := 2, slot := 2, constantValue := 0 }]
  methods := #[k5m0]
  instanceTypes := #[(.object "java/lang/String"), .int, .int]
  staticTypes := #[]
  resolved := Array.replicate 204 none
  statics := none }

def pool6 : Array CpInfo := pool [(1, .class_ 2), (0, u "com/example/iterleave/iterleave/Expression$Comparator"), (2, u "EQUAL"), (0, u "Lcom/example/iterleave/iterleave/Expression$Comparator;"), (2, u "NOT_EQUAL"), (0, .fieldref 1 11), (0, .nameAndType 12 6), (0, u "LESS"), (0, .fieldref 1 14), (0, .nameAndType 15 6), (0, u "LESS_OR_EQUAL"), (0, .fieldref 1 17), (0, .nameAndType 18 6), (0, u "GREATER"), (0, .fieldref 1 20), (0, .nameAndType 21 6), (0, u "GREATER_OR_EQUAL"), (2, u "$VALUES"), (0, u "[Lcom/example/iterleave/iterleave/Expression$Comparator;"), (6, .class_ 34), (1, u "java/lang/Enum"), (8, u "symbol"), (0, u "Ljava/lang/String;"), (0, .methodref 1 46), (0, .nameAndType 47 48), (0, u "ordinal"), (0, u "()I"), (38, u "converse"), (0, u "()Lcom/example/iterleave/iterleave/Expression$Comparator;"), (7, .class_ 97), (0, u "com/example/iterleave/iterleave/Expression")] 2

def k6c0 : Code := { maxStack := 4, maxLocals := 1, code := prog_11_method_5_code, exceptionTable := #[], attributes := #[] }
def k6m0 : Method := { name := "converse", desc := "()Lcom/example/iterleave/iterleave/Expression$Comparator;", sig := { parameters := [], returnType := some (.object "com/example/iterleave/iterleave/Expression$Comparator") }, accessFlags := 1, code := some k6c0 }
/-- com/example/iterleave/iterleave/Expression$Comparator -/
def k6 : Class := { plain "com/example/iterleave/iterleave/Expression$Comparator" (some 5) with
  accessFlags := 16433
  interfaces := #[]
  cf := some (fileOf pool6 1 #[.nestHost 96] #[{ accessFlags := 1, nameIndex := 87, descriptorIndex := 88, attributes := #[] }] 16433 32 #[] #[{ accessFlags := 16409, nameIndex := 5, descriptorIndex := 6, attributes := #[] }, { accessFlags := 16409, nameIndex := 9, descriptorIndex := 6, attributes := #[] }, { accessFlags := 16409, nameIndex := 12, descriptorIndex := 6, attributes := #[] }, { accessFlags := 16409, nameIndex := 15, descriptorIndex := 6, attributes := #[] }, { accessFlags := 16409, nameIndex := 18, descriptorIndex := 6, attributes := #[] }, { accessFlags := 16409, nameIndex := 21, descriptorIndex := 6, attributes := #[] }, { accessFlags := 18, nameIndex := 43, descriptorIndex := 44, attributes := #[] }, { accessFlags := 4122, nameIndex := 24, descriptorIndex := 25, attributes := #[] }])
  fields := #[{ name := "EQUAL", type := (.object "com/example/iterleave/iterleave/Expression$Comparator"), accessFlags := 16409, slot := 0, constantValue := 0 }, { name := "NOT_EQUAL", type := (.object "com/example/iterleave/iterleave/Expression$Comparator"), accessFlags := 16409, slot := 1, constantValue := 0 }, { name := "LESS", type := (.object "com/example/iterleave/iterleave/Expression$Comparator"), accessFlags := 16409, slot := 2, constantValue := 0 }, { name := "LESS_OR_EQUAL", type := (.object "com/example/iterleave/iterleave/Expression$Comparator"), accessFlags := 16409, slot := 3, constantValue := 0 }, { name := "GREATER", type := (.object "com/example/iterleave/iterleave/Expression$Comparator"), accessFlags := 16409, slot := 4, constantValue := 0 }, { name := "GREATER_OR_EQUAL", type := (.object "com/example/iterleave/iterleave/Expression$Comparator"), accessFlags := 16409, slot := 5, constantValue := 0 }, { name := "symbol", type := (.object "java/lang/String"), accessFlags := 18, slot := 3, constantValue := 0 }, { name := "$VALUES", type := (.array (.object "com/example/iterleave/iterleave/Expression$Comparator")), accessFlags := 4122, slot := 6, constantValue := 0 }]
  methods := #[k6m0]
  instanceTypes := #[(.object "java/lang/String"), .int, .int, (.object "java/lang/String")]
  staticTypes := #[(.object "com/example/iterleave/iterleave/Expression$Comparator"), (.object "com/example/iterleave/iterleave/Expression$Comparator"), (.object "com/example/iterleave/iterleave/Expression$Comparator"), (.object "com/example/iterleave/iterleave/Expression$Comparator"), (.object "com/example/iterleave/iterleave/Expression$Comparator"), (.object "com/example/iterleave/iterleave/Expression$Comparator"), (.array (.object "com/example/iterleave/iterleave/Expression$Comparator"))]
  resolved := Array.replicate 100 none
  statics := some 0 }

def pool7 : Array CpInfo := pool [(1, u "java/lang/Cloneable"), (0, .class_ 1), (0, u "java/lang/Object"), (0, .class_ 3)] 3

/-- java/lang/Cloneable -/
def k7 : Class := { plain "java/lang/Cloneable" (some 0) with
  accessFlags := 1537
  interfaces := #[]
  cf := some (fileOf pool7 2 #[] #[] 1537 4 #[] #[])
  fields := #[]
  methods := #[]
  instanceTypes := #[]
  staticTypes := #[]
  resolved := Array.replicate 8 none
  statics := none }

/-- the primitive byte -/
def k8 : Class := { plain "byte" none with kind := .primitive 'B', accessFlags := 0x411 }
/-- [B -/
def k9 : Class := { plain "[B" (some 0) with kind := .array 8 .byte, interfaces := #[7, 4], accessFlags := 1041 }

/-- the primitive int -/
def k10 : Class := { plain "int" none with kind := .primitive 'I', accessFlags := 0x411 }
/-- [I -/
def k11 : Class := { plain "[I" (some 0) with kind := .array 10 .int, interfaces := #[7, 4], accessFlags := 1041 }

/-- [Lcom/example/iterleave/iterleave/Expression$Comparator; -/
def k12 : Class := { plain "[Lcom/example/iterleave/iterleave/Expression$Comparator;" (some 0) with kind := .array 6 (.object "com/example/iterleave/iterleave/Expression$Comparator"), interfaces := #[7, 4], accessFlags := 1041 }

def heap : Heap := #[{ cls := 6, slots := #[.ref 1, .ref 2, .ref 3, .ref 4, .ref 5, .ref 6, .null], vm := .statics 6 },
  { cls := 6, slots := #[.null, .int 0, .int 0, .null], vm := .none },
  { cls := 6, slots := #[.null, .int 1, .int 0, .null], vm := .none },
  { cls := 6, slots := #[.null, .int 2, .int 0, .null], vm := .none },
  { cls := 6, slots := #[.null, .int 3, .int 0, .null], vm := .none },
  { cls := 6, slots := #[.null, .int 4, .int 0, .null], vm := .none },
  { cls := 6, slots := #[.null, .int 5, .int 0, .null], vm := .none }]
def classes : Array Class := #[k0, k1, k2, k3, k4, k5, k6, k7, k8, k9, k10, k11, k12]
def interned : List (Array UInt16 × Addr) := []
def slotsUsed : Nat := 31
def theMethod : MethodId := ⟨1, 2⟩
def args0 : Array Value := #[.int 1, .int 2, .int 3, .int 0]
def aboutOver (below : List Frame) : State where
  vm := { classes := classes, interned := interned.toArray }
  heap := heap
  slotsUsed := slotsUsed
  threads := #[{ frames := .invoking theMethod args0 :: below }]
def below0 : List Frame := [.native { method := ⟨0, 0⟩, args := #[] }]
def about1 : State := aboutOver below0
def p0 : Program := .bare "" "" ""
def e0 : Env := launch0.env 0 0 0
theorem w_frames : about1.frames = Frame.invoking theMethod args0 :: below0 := rfl
set_option maxRecDepth 65536 in
theorem w_args : argsFit about1.vm theMethod args0 = true := by decide +kernel
set_option maxRecDepth 65536 in
theorem w_heap : heapFits about1 = true := by decide +kernel
set_option maxRecDepth 65536 in
theorem w_runnable : about1.curStatus? = some .runnable := by decide +kernel
set_option maxRecDepth 65536 in
theorem w_alone : about1.alone = true := by decide +kernel
set_option maxRecDepth 65536 in
theorem w_named : about1.methodNamed? x = some theMethod := by decide +kernel
set_option maxRecDepth 65536 in
theorem w_hears : about1.hears theMethod below0 = true := by decide +kernel
set_option maxRecDepth 65536 in
theorem w_ripe : about1.ripe theMethod args0 below0 = true := by decide +kernel
theorem w_running : about1.status = .running := rfl
set_option maxRecDepth 65536 in
theorem w_room : about1.hasRoom e0.platform room_1 = true :=
  launch0.hasRoom_least _ room_1 (by decide +kernel) (by decide +kernel) (by decide +kernel) (by decide +kernel) (by decide +kernel) (by decide +kernel)
theorem allAtoms_all (ts : List Jvm.Cond) (a : Array Jvm.Value) (st : Jvm.State) : (allAtoms ts).before a st = ts.all (fun c => c.before a st) := by
  induction ts with
  | nil => rfl
  | cons c t ih =>
    show (Jvm.Cond.and c (allAtoms t)).before a st = _
    rw [Jvm.Cond.before_and, ih, List.all_cons]
def words1 : List Jvm.Cond := Jvm.Cond.code x code maxLocals ret :: tables_1
/-- a 'code' word, met by the world's own term for the bytes: nothing is compared byte by byte -/
theorem code_word {y : MethodName} {bytes : ByteArray} {mx : Nat} {rt : Option FieldType} {a : Array Value} {s : State} {m : MethodId} {meth : Method} {c : Code} (h1 : s.methodNamed? y = some m) (h2 : s.vm.method? m = some meth) (h3 : meth.code = some c) (h4 : c.code = bytes)
    (h5 : (c.maxLocals == mx && c.exceptionTable.isEmpty && decide (c.maxStack ≤ mostOperands) && decide (meth.sig.returnType = rt) && !meth.locks && decide (parseMethodDescriptor y.desc = some meth.sig)) = true) : (Jvm.Cond.code y bytes mx rt).before a s = true := by
  simp only [Bool.and_eq_true, beq_iff_eq, Bool.not_eq_true', decide_eq_true_eq] at h5
  obtain ⟨⟨⟨⟨⟨g1, g2⟩, g3⟩, g4⟩, g5⟩, g6⟩ := h5
  simp [Cond.before, Cond.holds, Cond.value, h1, h2, h3, h4, g1, g2, g3, g4, g5, g6]
def isCode : Jvm.Cond → Bool
  | .code _ _ _ _ => true
  | _ => false
theorem all_split {L : List Jvm.Cond} {P : Jvm.Cond → Bool} (h1 : L.all (fun c => isCode c || P c) = true) (h2 : ∀ c ∈ L.filter isCode, P c = true) : L.all P = true := by
  refine List.all_eq_true.mpr fun c hc => ?_
  have h := List.all_eq_true.mp h1 c hc
  rcases Bool.eq_false_or_eq_true (isCode c) with hi | hi
  · exact h2 c (List.mem_filter.mpr ⟨hc, hi⟩)
  · simpa [hi] using h
set_option maxRecDepth 65536 in
theorem w_c0 : (Jvm.Cond.code x code maxLocals ret).before args0 about1 = true := code_word (m := ⟨1, 2⟩) (meth := k1m2) (c := k1c2) (by decide +kernel) rfl rfl rfl (by decide +kernel)
set_option maxRecDepth 65536 in
theorem w_c1 : (Jvm.Cond.code ({ cls := "com/example/iterleave/iterleave/Expression$Comparator", name := "converse", desc := "()Lcom/example/iterleave/iterleave/Expression$Comparator;" } : Jvm.MethodName) prog_11_method_5_code (1 : Nat) (Option.some (Jvm.ClassFile.FieldType.object "com/example/iterleave/iterleave/Expression$Comparator"))).before args0 about1 = true := code_word (m := ⟨6, 0⟩) (meth := k6m0) (c := k6c0) (by decide +kernel) rfl rfl rfl (by decide +kernel)
set_option maxRecDepth 65536 in
theorem w_c2 : (Jvm.Cond.code ({ cls := "java/lang/Enum", name := "ordinal", desc := "()I" } : Jvm.MethodName) jdk_37_method_2_code (1 : Nat) (Option.some Jvm.ClassFile.FieldType.int)).before args0 about1 = true := code_word (m := ⟨5, 0⟩) (meth := k5m0) (c := k5c0) (by decide +kernel) rfl rfl rfl (by decide +kernel)
set_option maxRecDepth 65536 in
theorem w_c3 : (Jvm.Cond.code ({ cls := "com/example/iterleave/iterleave/ComparatorConversePinLaw", name := "holds", desc := "(Lcom/example/iterleave/iterleave/Expression$Comparator;II)Z" } : Jvm.MethodName) method_2_code (3 : Nat) (Option.some Jvm.ClassFile.FieldType.boolean)).before args0 about1 = true := code_word (m := ⟨1, 1⟩) (meth := k1m1) (c := k1c1) (by decide +kernel) rfl rfl rfl (by decide +kernel)
def codes1 : List Jvm.Cond := [Jvm.Cond.code x code maxLocals ret, Jvm.Cond.code ({ cls := "com/example/iterleave/iterleave/Expression$Comparator", name := "converse", desc := "()Lcom/example/iterleave/iterleave/Expression$Comparator;" } : Jvm.MethodName) prog_11_method_5_code (1 : Nat) (Option.some (Jvm.ClassFile.FieldType.object "com/example/iterleave/iterleave/Expression$Comparator")), Jvm.Cond.code ({ cls := "java/lang/Enum", name := "ordinal", desc := "()I" } : Jvm.MethodName) jdk_37_method_2_code (1 : Nat) (Option.some Jvm.ClassFile.FieldType.int), Jvm.Cond.code ({ cls := "com/example/iterleave/iterleave/ComparatorConversePinLaw", name := "holds", desc := "(Lcom/example/iterleave/iterleave/Expression$Comparator;II)Z" } : Jvm.MethodName) method_2_code (3 : Nat) (Option.some Jvm.ClassFile.FieldType.boolean)]
set_option maxRecDepth 65536 in
theorem codes_eq : words1.filter isCode = codes1 := rfl
theorem w_codes : ∀ c ∈ words1.filter isCode, c.before args0 about1 = true := by
  rw [codes_eq]
  intro c hc
  simp only [codes1, List.mem_cons, List.not_mem_nil, or_false] at hc
  rcases hc with rfl | rfl | rfl | rfl
  · exact w_c0
  · exact w_c1
  · exact w_c2
  · exact w_c3
set_option maxRecDepth 65536 in
theorem w_t1 : (words1.take 24).all (fun c => isCode c || c.before args0 about1) = true := by decide +kernel
set_option maxRecDepth 65536 in
theorem w_t2 : (words1.drop 24).all (fun c => isCode c || c.before args0 about1) = true := by decide +kernel
theorem w_tables : (allAtoms (Jvm.Cond.code x code maxLocals ret :: tables_1)).before args0 about1 = true := by
  rw [allAtoms_all]
  show words1.all (fun c => c.before args0 about1) = true
  refine all_split ?_ w_codes
  rw [← List.take_append_drop 24 words1, List.all_append, w_t1, w_t2]
  rfl
set_option maxRecDepth 65536 in
theorem w_case : (Jvm.Cond.and given_1 narrow_1).before args0 about1 = true := by decide +kernel
theorem w_applies : (headSpec (Jvm.Cond.code x code maxLocals ret :: tables_1) room_1).applies x e0.platform about1 = true :=
  (Spec.applies_iff w_frames).mpr ⟨w_running, w_runnable, w_alone, w_named, w_hears, w_ripe, w_room, w_tables⟩
theorem atStart : AtStart classFile x code maxLocals ret World_1 tables_1 room_1 Calls_1 rest_1 Pre_1 launch0 p0 e0 about1 theMethod args0 below0 :=
  ⟨lists_1, trivial, launch0.admits_env _ _ _, launch0.least_env, fairChoices_fair.cas, fairChoices_fair.clock, w_frames, w_args, w_heap, w_applies, trivial, trivial, w_case⟩
end start1
theorem witness_1 : WitnessClaimed_1 := ⟨start1.p0, start1.e0, start1.about1, start1.theMethod, start1.args0, start1.below0, start1.atStart⟩
end Jvm.Pilot.@@N@@
