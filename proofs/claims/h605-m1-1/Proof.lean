import JvmDerived
import JvmDerived.Pilot.@@N@@Statement
import JvmDerived.Pilot.@@N@@Code
set_option linter.unusedVariables false
set_option linter.unusedSimpArgs false
namespace Jvm.Pilot.@@N@@
open Jvm Jvm.ClassFile Sem Op Lib Jvm.Free Jvm.Stand Jvm.LawKit Jvm.RoadKit Bundle Jvm.Pilot.@@N@@.Jvm.D
section OwnKit
variable {p : Program} {l : Launch} {e : Env} {R : Room} {s : State} {m : MethodId} {args : Array Value} {below : List Frame} {meth : Method} {c : Code} {T S S' : State} {locs : List Loc} {cells slots : Nat} {F : Outcome → State → Prop}
def Go (p : Program) (e : Env) (below : List Frame) (S : State) (F : Outcome → State → Prop) : Prop := ∃ (U : State) (o : Outcome), Steps p.tables e below S U ∧ U.status = .running ∧ Ended U below o ∧ F o U
theorem goIn {g g' : JFrame} (q : g = g') (k : Go p e below (T.setTop g') F) : ∃ (U : State) (o : Outcome), Steps p.tables e below (T.setTop g) U ∧ U.status = .running ∧ Ended U below o ∧ F o U := q ▸ k
theorem Go.by (st : ∀ t, Steps p.tables e below S' t → Steps p.tables e below S t) (k : Go p e below S' F) : Go p e below S F := by
  obtain ⟨U, o, h1, h2⟩ := k
  exact ⟨U, o, st _ h1, h2⟩
theorem Go.at (st : Steps p.tables e below S S') (k : Go p e below S' F) : Go p e below S F := by
  obtain ⟨U, o, h1, h2⟩ := k
  exact ⟨U, o, st.trans h1, h2⟩
theorem goRet {W : Option Value → Heap → List Loc → Prop} {C N : Nat} {v : Option Value} {g : JFrame} (X : Stand p l e R s m args below meth c T locs cells slots) (hv : meth.sig.returnType = none → v = none) (hlk : meth.locks = false)
    (hst : ∀ fs, (∀ (f : JFrame) (acts : List Action), f.method = m → f.locked = none → f.entered = [] → (doReturn e (T.setTop f) acts v).1 = T.setFrames fs) → Steps p.tables e below (T.setTop g) (T.setFrames fs))
    (hc : cells ≤ C) (hs : slots ≤ N) (hq : W v T.heap locs) : Go p e below (T.setTop g) (fun o U => ∃ v L, o = .returned v ∧ W v U.heap L ∧ FrameEnd s o U L C N) := by
  obtain ⟨fs, hr, hrun, hended, hW, hsame⟩ := X.leave (v := v) hv hlk
  exact ⟨_, _, hst fs hr, hrun, hended, _, _, rfl, hq, ⟨_, rfl⟩, hW, hsame.mono hc hs⟩
theorem goRetW {W : Option Value → Heap → List Loc → Prop} {C N n : Nat} {v : Option Value} {g : JFrame} {vm₁ : Vm} (X : Stand p l e R (s.setVm vm₁) m args below meth c T locs cells slots) (hS : s.Since vm₁ n) (hn : n ≤ T.heap.size) (hv : meth.sig.returnType = none → v = none) (hlk : meth.locks = false)
    (hst : ∀ fs, (∀ (f : JFrame) (acts : List Action), f.method = m → f.locked = none → f.entered = [] → (doReturn e (T.setTop f) acts v).1 = T.setFrames fs) → Steps p.tables e below (T.setTop g) (T.setFrames fs))
    (hc : cells ≤ C) (hs : slots ≤ N) (hq : W v T.heap locs) : Go p e below (T.setTop g) (fun o U => ∃ v L, o = .returned v ∧ W v U.heap L ∧ ReturnedEndW s o U L C N) := by
  obtain ⟨fs, hr, hrun, hended, h1, h2, h3, h4⟩ := X.leaveW hS hn (v := v) hv hlk
  exact ⟨_, _, hst fs hr, hrun, hended, _, _, rfl, hq, h1, h2, h3, h4.mono hc hs⟩
/-- it returns w; nothing old is written; the heap is h0 -/
def PureQ (w : Option Value) (h0 : Heap) (n0 : Nat) (v : Option Value) (h : Heap) (L : List Loc) : Prop := v = w ∧ Fr n0 L ∧ h = h0
end OwnKit
theorem pd_0 : parseMethodDescriptor "(I)Lcom/example/tagwire/tagwire/StorageClass;" = some ⟨[.int], some (.object "com/example/tagwire/tagwire/StorageClass")⟩ := by decide +kernel
theorem pd_1 : parseMethodDescriptor "(I)I" = some ⟨[.int], some .int⟩ := by decide +kernel
theorem own_enum {s : State} {args : Array Value} {C n d O f : String} {k : Int32} (hx : (Jvm.Cond.exactly (Jvm.Term.static C n d) C).value args s none s [] = some true)
    (he : (Jvm.Cond.eq (Jvm.Term.field (Jvm.Term.static C n d) O f "I") (Jvm.Term.int k)).value args s none s [] = some true)
    (hi : (Jvm.Cond.initialized C).before args s = true) (hl : (Jvm.Cond.laysStatic C n d).before args s = true) :
    ∃ a, Sta s s.heap C n d (.ref a) ∧ Exa s s.heap a C ∧ Fld s s.heap a O f "I" (.int k) := by
  obtain ⟨a, ea⟩ := exa_v hx
  exact ⟨a, Sta.start ea (Or.inr ⟨hi, hl⟩), Exa.start ea hx, Fld.start ((fld_at ea).symm.trans (eqv_i (F := Jvm.Term.int k) rfl he))⟩
theorem own_n1 : nar .boolean (1 : Int32) = 1 := by decide
theorem own_n0 : nar .boolean (0 : Int32) = 0 := by decide
def pickA (i : Int32) (c0 c1 c2 c3 c4 c5 c6 c7 : Addr) : Addr := if i = 0 then c0 else if i = 1 then c1 else if i = 2 then c2 else if i = 3 then c3 else if i = 4 then c4 else if i = 5 then c5 else if i = 6 then c6 else  c7
theorem own_and7 (x : Int32) : x &&& 7 = 0 ∨ x &&& 7 = 1 ∨ x &&& 7 = 2 ∨ x &&& 7 = 3 ∨ x &&& 7 = 4 ∨ x &&& 7 = 5 ∨ x &&& 7 = 6 ∨ x &&& 7 = 7 := by
  obtain ⟨h1, h2⟩ := c_and x 7 (by decide)
  have e : (7 : Int32).toInt = 7 := by decide
  rw [e] at h2
  simp only [← Int32.toInt_inj]
  have e0 : (0 : Int32).toInt = 0 := by decide
  have e1 : (1 : Int32).toInt = 1 := by decide
  have e2 : (2 : Int32).toInt = 2 := by decide
  have e3 : (3 : Int32).toInt = 3 := by decide
  have e4 : (4 : Int32).toInt = 4 := by decide
  have e5 : (5 : Int32).toInt = 5 := by decide
  have e6 : (6 : Int32).toInt = 6 := by decide
  rw [e0, e1, e2, e3, e4, e5, e6, e]
  omega
theorem own_or {x y : Int32} (h : x &&& y = 0) : x ||| y = x + y := by
  apply Int32.toBitVec_inj.mp
  rw [Int32.toBitVec_or, Int32.toBitVec_add]
  have h' : x.toBitVec &&& y.toBitVec = 0#32 := by rw [← Int32.toBitVec_and, h]; rfl
  exact (BitVec.add_eq_or_of_and_eq_zero _ _ h').symm
theorem own_and_l (x m y : Int32) (h : x &&& m = 0) : x &&& (y &&& m) = 0 := by
  apply Int32.toBitVec_inj.mp
  have h' : x.toBitVec &&& m.toBitVec = 0#32 := by rw [← Int32.toBitVec_and, h]; rfl
  rw [Int32.toBitVec_and, Int32.toBitVec_and, BitVec.and_comm y.toBitVec, ← BitVec.and_assoc, h']
  simp
theorem own_small (y : Int32) (h : (y &&& 4095) < 16) : (y &&& 4095) &&& 15 = y &&& 4095 := by
  obtain ⟨h1, h2⟩ := c_and y 4095 (by decide)
  apply Int32.toInt_inj.mp
  rw [c_mask (y &&& 4095) 15 4 (by decide) (by decide)]
  rw [Int32.lt_iff_toInt_lt] at h
  have e : (16 : Int32).toInt = 16 := by decide
  rw [e] at h
  omega
theorem own_low (k y : Int32) (hk : k = 0 ∨ k = 1 ∨ k = 2 ∨ k = 3 ∨ k = 4 ∨ k = 5 ∨ k = 6 ∨ k = 7) (h : (y &&& 4095) < 16) : (k * 32) ||| (y &&& 4095) = k * 32 + (y &&& 4095) := by
  apply own_or
  rw [← own_small y h]
  apply own_and_l
  rcases hk with rfl | rfl | rfl | rfl | rfl | rfl | rfl | rfl <;> decide
theorem own_high (k y : Int32) (hk : k = 0 ∨ k = 1 ∨ k = 2 ∨ k = 3 ∨ k = 4 ∨ k = 5 ∨ k = 6 ∨ k = 7) : (((k * 32) <<< ((8 : Int32) &&& 31)) ||| 4096) ||| (y &&& 4095) = k * 8192 + 4096 + (y &&& 4095) := by
  have e : ((k * 32) <<< ((8 : Int32) &&& 31)) ||| 4096 = k * 8192 + 4096 := by rcases hk with rfl | rfl | rfl | rfl | rfl | rfl | rfl | rfl <;> decide
  rw [e]
  apply own_or
  apply own_and_l
  rcases hk with rfl | rfl | rfl | rfl | rfl | rfl | rfl | rfl <;> decide
theorem ef_rm1 (m : MethodId) (x0 : Int32) : entryFrame m #[(.int x0)] 1 = mkF m 0 #[.val (.int x0)] [] := by first | (simp [entryFrame, mkF, argsToLocals, Value.category]; done) | rfl
theorem pn_rm1 : plainName "com/example/tagwire/tagwire/StorageClassTypeCodePinLaw" = true := by first | (simp [plainName, overriddenIn]; done) | decide +kernel
theorem d1_0 : decode method_2_code 0 = .ok (.iload_n 0, 1) := by decide +kernel
theorem d1_1 : decode method_2_code 1 = .ok (.ifCond .ne 7, 3) := by decide +kernel
theorem d1_4 : decode method_2_code 4 = .ok (.getstatic 7, 3) := by decide +kernel
theorem d1_7 : decode method_2_code 7 = .ok (.areturn, 1) := by decide +kernel
theorem d1_8 : decode method_2_code 8 = .ok (.iload_n 0, 1) := by decide +kernel
theorem d1_9 : decode method_2_code 9 = .ok (.iconst 1, 1) := by decide +kernel
theorem d1_10 : decode method_2_code 10 = .ok (.if_icmp .ne 7, 3) := by decide +kernel
theorem d1_13 : decode method_2_code 13 = .ok (.getstatic 13, 3) := by decide +kernel
theorem d1_16 : decode method_2_code 16 = .ok (.areturn, 1) := by decide +kernel
theorem d1_17 : decode method_2_code 17 = .ok (.iload_n 0, 1) := by decide +kernel
theorem d1_18 : decode method_2_code 18 = .ok (.iconst 2, 1) := by decide +kernel
theorem d1_19 : decode method_2_code 19 = .ok (.if_icmp .ne 7, 3) := by decide +kernel
theorem d1_22 : decode method_2_code 22 = .ok (.getstatic 16, 3) := by decide +kernel
theorem d1_25 : decode method_2_code 25 = .ok (.areturn, 1) := by decide +kernel
theorem d1_26 : decode method_2_code 26 = .ok (.iload_n 0, 1) := by decide +kernel
theorem d1_27 : decode method_2_code 27 = .ok (.iconst 3, 1) := by decide +kernel
theorem d1_28 : decode method_2_code 28 = .ok (.if_icmp .ne 7, 3) := by decide +kernel
theorem d1_31 : decode method_2_code 31 = .ok (.getstatic 19, 3) := by decide +kernel
theorem d1_34 : decode method_2_code 34 = .ok (.areturn, 1) := by decide +kernel
theorem d1_35 : decode method_2_code 35 = .ok (.iload_n 0, 1) := by decide +kernel
theorem d1_36 : decode method_2_code 36 = .ok (.iconst 4, 1) := by decide +kernel
theorem d1_37 : decode method_2_code 37 = .ok (.if_icmp .ne 7, 3) := by decide +kernel
theorem d1_40 : decode method_2_code 40 = .ok (.getstatic 22, 3) := by decide +kernel
theorem d1_43 : decode method_2_code 43 = .ok (.areturn, 1) := by decide +kernel
theorem d1_44 : decode method_2_code 44 = .ok (.iload_n 0, 1) := by decide +kernel
theorem d1_45 : decode method_2_code 45 = .ok (.iconst 5, 1) := by decide +kernel
theorem d1_46 : decode method_2_code 46 = .ok (.if_icmp .ne 7, 3) := by decide +kernel
theorem d1_49 : decode method_2_code 49 = .ok (.getstatic 25, 3) := by decide +kernel
theorem d1_52 : decode method_2_code 52 = .ok (.areturn, 1) := by decide +kernel
theorem d1_53 : decode method_2_code 53 = .ok (.iload_n 0, 1) := by decide +kernel
theorem d1_54 : decode method_2_code 54 = .ok (.bipush 6, 2) := by decide +kernel
theorem d1_56 : decode method_2_code 56 = .ok (.if_icmp .ne 7, 3) := by decide +kernel
theorem d1_59 : decode method_2_code 59 = .ok (.getstatic 28, 3) := by decide +kernel
theorem d1_62 : decode method_2_code 62 = .ok (.areturn, 1) := by decide +kernel
theorem d1_63 : decode method_2_code 63 = .ok (.getstatic 31, 3) := by decide +kernel
theorem d1_66 : decode method_2_code 66 = .ok (.areturn, 1) := by decide +kernel
set_option maxRecDepth 65536 in
set_option maxHeartbeats 40000000 in
theorem rm1 (l : Launch) (Z : State) (a0 : Array Value) (hw : ∀ d ∈ tables_1, d.before a0 Z = true) (ws : List Jvm.Cond) (i : Int32) (c0 c1 c2 c3 c4 c5 c6 c7 : Addr) (h0 : Heap) (n0 : Nat) (S0 : Sta Z h0 "com/example/tagwire/tagwire/StorageClass" "NOBYTES" "Lcom/example/tagwire/tagwire/StorageClass;" (.ref c0)) (S1 : Sta Z h0 "com/example/tagwire/tagwire/StorageClass" "BYTE" "Lcom/example/tagwire/tagwire/StorageClass;" (.ref c1)) (S2 : Sta Z h0 "com/example/tagwire/tagwire/StorageClass" "WORD" "Lcom/example/tagwire/tagwire/StorageClass;" (.ref c2)) (S3 : Sta Z h0 "com/example/tagwire/tagwire/StorageClass" "DWORD" "Lcom/example/tagwire/tagwire/StorageClass;" (.ref c3)) (S4 : Sta Z h0 "com/example/tagwire/tagwire/StorageClass" "QWORD" "Lcom/example/tagwire/tagwire/StorageClass;" (.ref c4)) (S5 : Sta Z h0 "com/example/tagwire/tagwire/StorageClass" "STRING" "Lcom/example/tagwire/tagwire/StorageClass;" (.ref c5)) (S6 : Sta Z h0 "com/example/tagwire/tagwire/StorageClass" "BLOB" "Lcom/example/tagwire/tagwire/StorageClass;" (.ref c6)) (S7 : Sta Z h0 "com/example/tagwire/tagwire/StorageClass" "CONTAINER" "Lcom/example/tagwire/tagwire/StorageClass;" (.ref c7)) :
    MetFree l (⟨"com/example/tagwire/tagwire/StorageClassTypeCodePinLaw", "pick", "(I)Lcom/example/tagwire/tagwire/StorageClass;"⟩ : MethodName) (head1 (Jvm.Cond.code (⟨"com/example/tagwire/tagwire/StorageClassTypeCodePinLaw", "pick", "(I)Lcom/example/tagwire/tagwire/StorageClass;"⟩ : MethodName) method_2_code 1 (some (.object "com/example/tagwire/tagwire/StorageClass")) :: ws) ({ frames := 0, cells := 0, slots := 0, locals := 0 } : Room)) (fun aa U => aa = #[(.int i)] ∧ Z.Warmed39 U.vm ∧ U.heap = h0) (fun _ _ _ _ _ => True) (fun _ U o U' => ∃ v L, o = .returned v ∧ PureQ (some (.ref (pickA i c0 c1 c2 c3 c4 c5 c6 c7))) h0 n0 v U'.heap L ∧ FrameEnd U o U' L ({ frames := 0, cells := 0, slots := 0, locals := 0 } : Room).cells ({ frames := 0, cells := 0, slots := 0, locals := 0 } : Room).slots) := by
  refine MetFree.of_bodySF (plainFor_of_name pn_rm1) hisR ?_
  intro p e s m args below meth c s₁ Bd hml0 hP hK
  obtain ⟨rfl, hZ, hh⟩ := hP
  have hx := Bd.exec
  have hby := Bd.bytes
  have hml : c.maxLocals = 1 := hml0
  have hown : s.vm.findClass "com/example/tagwire/tagwire/StorageClassTypeCodePinLaw" = some m.cls := findClass_of_methodNamed Bd.named
  have hnm := (name_of_methodNamed Bd.named Bd.method).1
  have X0 : Stand p l e ({ frames := 0, cells := 0, slots := 0, locals := 0 } : Room) s m #[(.int i)] below meth c s₁ [] 0 0 := Stand.of_body Bd
  have e0 : s₁.heap = h0 := by rw [← hh, Bd.state]; rfl
  have N0 := Fr.nil n0
  refine goIn (ef_rm1 m i) ?_
  refine Go.by (S' := s₁.setTop (mkF m 1 #[.val (.int i)] [(.int i)])) (fun _ kt => XS.iloadN X0.here hx rfl (hb hby d1_0) rfl  kt) ?_
  by_cases hc1_1 : i = (0 : Int32)
  · refine Go.by (S' := s₁.setTop (mkF m 4 #[.val (.int i)] [])) (fun _ kt => XS.ifNo X0.here hx rfl (hb hby d1_1) rfl (XT.i0_ne_f hc1_1)  kt) ?_
    obtain ⟨T2, X2, e2, st2⟩ := getS2 X0 hx hZ hown (host := "") (Or.inl (hw _ (List.mem_of_getElem? (i := 4) rfl))) Via.refl e0 S0 (g := (mkF m 4 #[.val (.int i)] [])) rfl (hb hby d1_4)
    refine Go.by (S' := T2.setTop (mkF m 7 #[.val (.int i)] [(.ref c0)])) st2 ?_
    refine goRet X2 (v := some (.ref c0)) (fun h => by rw [Bd.returns] at h; cases h) Bd.notSynchronized (fun fs hr => retOut X2 hx Bd.returns rfl (Or.inr (Or.inr (Or.inr (Or.inr ⟨rfl, rfl, rfl⟩)))) (hb hby d1_7) hr) (by decide) (by decide) ?_
    exact ⟨by simp [pickA, hc1_1], N0, e2⟩
  · refine Go.by (S' := s₁.setTop (mkF m 8 #[.val (.int i)] [])) (fun _ kt => XS.ifYes X0.here hx rfl (pc0 := 1) (pc' := 8) rfl (hb hby d1_1) rfl (XT.i0_ne_t hc1_1) (by decide) (by decide)  kt) ?_
    refine Go.by (S' := s₁.setTop (mkF m 9 #[.val (.int i)] [(.int i)])) (fun _ kt => XS.iloadN X0.here hx rfl (hb hby d1_8) rfl  kt) ?_
    refine Go.by (S' := s₁.setTop (mkF m 10 #[.val (.int i)] [(.int (1 : Int32)), (.int i)])) (fun _ kt => XT.iconstV X0.here hx rfl (1 : Int32) (hb hby d1_9) (by decide)  kt) ?_
    by_cases hc10_3 : i = (1 : Int32)
    · refine Go.by (S' := s₁.setTop (mkF m 13 #[.val (.int i)] [])) (fun _ kt => XS.icmpNo X0.here hx rfl (hb hby d1_10) rfl (XT.ii_ne_f hc10_3)  kt) ?_
      obtain ⟨T4, X4, e4, st4⟩ := getS2 X0 hx hZ hown (host := "") (Or.inl (hw _ (List.mem_of_getElem? (i := 24) rfl))) Via.refl e0 S1 (g := (mkF m 13 #[.val (.int i)] [])) rfl (hb hby d1_13)
      refine Go.by (S' := T4.setTop (mkF m 16 #[.val (.int i)] [(.ref c1)])) st4 ?_
      refine goRet X4 (v := some (.ref c1)) (fun h => by rw [Bd.returns] at h; cases h) Bd.notSynchronized (fun fs hr => retOut X4 hx Bd.returns rfl (Or.inr (Or.inr (Or.inr (Or.inr ⟨rfl, rfl, rfl⟩)))) (hb hby d1_16) hr) (by decide) (by decide) ?_
      exact ⟨by simp [pickA, hc1_1, hc10_3], N0, e4⟩
    · refine Go.by (S' := s₁.setTop (mkF m 17 #[.val (.int i)] [])) (fun _ kt => XS.icmpYes X0.here hx rfl (pc0 := 10) (pc' := 17) rfl (hb hby d1_10) rfl (XT.ii_ne_t hc10_3) (by decide) (by decide)  kt) ?_
      refine Go.by (S' := s₁.setTop (mkF m 18 #[.val (.int i)] [(.int i)])) (fun _ kt => XS.iloadN X0.here hx rfl (hb hby d1_17) rfl  kt) ?_
      refine Go.by (S' := s₁.setTop (mkF m 19 #[.val (.int i)] [(.int (2 : Int32)), (.int i)])) (fun _ kt => XT.iconstV X0.here hx rfl (2 : Int32) (hb hby d1_18) (by decide)  kt) ?_
      by_cases hc19_5 : i = (2 : Int32)
      · refine Go.by (S' := s₁.setTop (mkF m 22 #[.val (.int i)] [])) (fun _ kt => XS.icmpNo X0.here hx rfl (hb hby d1_19) rfl (XT.ii_ne_f hc19_5)  kt) ?_
        obtain ⟨T6, X6, e6, st6⟩ := getS2 X0 hx hZ hown (host := "") (Or.inl (hw _ (List.mem_of_getElem? (i := 26) rfl))) Via.refl e0 S2 (g := (mkF m 22 #[.val (.int i)] [])) rfl (hb hby d1_22)
        refine Go.by (S' := T6.setTop (mkF m 25 #[.val (.int i)] [(.ref c2)])) st6 ?_
        refine goRet X6 (v := some (.ref c2)) (fun h => by rw [Bd.returns] at h; cases h) Bd.notSynchronized (fun fs hr => retOut X6 hx Bd.returns rfl (Or.inr (Or.inr (Or.inr (Or.inr ⟨rfl, rfl, rfl⟩)))) (hb hby d1_25) hr) (by decide) (by decide) ?_
        exact ⟨by simp [pickA, hc1_1, hc10_3, hc19_5], N0, e6⟩
      · refine Go.by (S' := s₁.setTop (mkF m 26 #[.val (.int i)] [])) (fun _ kt => XS.icmpYes X0.here hx rfl (pc0 := 19) (pc' := 26) rfl (hb hby d1_19) rfl (XT.ii_ne_t hc19_5) (by decide) (by decide)  kt) ?_
        refine Go.by (S' := s₁.setTop (mkF m 27 #[.val (.int i)] [(.int i)])) (fun _ kt => XS.iloadN X0.here hx rfl (hb hby d1_26) rfl  kt) ?_
        refine Go.by (S' := s₁.setTop (mkF m 28 #[.val (.int i)] [(.int (3 : Int32)), (.int i)])) (fun _ kt => XT.iconstV X0.here hx rfl (3 : Int32) (hb hby d1_27) (by decide)  kt) ?_
        by_cases hc28_7 : i = (3 : Int32)
        · refine Go.by (S' := s₁.setTop (mkF m 31 #[.val (.int i)] [])) (fun _ kt => XS.icmpNo X0.here hx rfl (hb hby d1_28) rfl (XT.ii_ne_f hc28_7)  kt) ?_
          obtain ⟨T8, X8, e8, st8⟩ := getS2 X0 hx hZ hown (host := "") (Or.inl (hw _ (List.mem_of_getElem? (i := 22) rfl))) Via.refl e0 S3 (g := (mkF m 31 #[.val (.int i)] [])) rfl (hb hby d1_31)
          refine Go.by (S' := T8.setTop (mkF m 34 #[.val (.int i)] [(.ref c3)])) st8 ?_
          refine goRet X8 (v := some (.ref c3)) (fun h => by rw [Bd.returns] at h; cases h) Bd.notSynchronized (fun fs hr => retOut X8 hx Bd.returns rfl (Or.inr (Or.inr (Or.inr (Or.inr ⟨rfl, rfl, rfl⟩)))) (hb hby d1_34) hr) (by decide) (by decide) ?_
          exact ⟨by simp [pickA, hc1_1, hc10_3, hc19_5, hc28_7], N0, e8⟩
        · refine Go.by (S' := s₁.setTop (mkF m 35 #[.val (.int i)] [])) (fun _ kt => XS.icmpYes X0.here hx rfl (pc0 := 28) (pc' := 35) rfl (hb hby d1_28) rfl (XT.ii_ne_t hc28_7) (by decide) (by decide)  kt) ?_
          refine Go.by (S' := s₁.setTop (mkF m 36 #[.val (.int i)] [(.int i)])) (fun _ kt => XS.iloadN X0.here hx rfl (hb hby d1_35) rfl  kt) ?_
          refine Go.by (S' := s₁.setTop (mkF m 37 #[.val (.int i)] [(.int (4 : Int32)), (.int i)])) (fun _ kt => XT.iconstV X0.here hx rfl (4 : Int32) (hb hby d1_36) (by decide)  kt) ?_
          by_cases hc37_9 : i = (4 : Int32)
          · refine Go.by (S' := s₁.setTop (mkF m 40 #[.val (.int i)] [])) (fun _ kt => XS.icmpNo X0.here hx rfl (hb hby d1_37) rfl (XT.ii_ne_f hc37_9)  kt) ?_
            obtain ⟨T10, X10, e10, st10⟩ := getS2 X0 hx hZ hown (host := "") (Or.inl (hw _ (List.mem_of_getElem? (i := 16) rfl))) Via.refl e0 S4 (g := (mkF m 40 #[.val (.int i)] [])) rfl (hb hby d1_40)
            refine Go.by (S' := T10.setTop (mkF m 43 #[.val (.int i)] [(.ref c4)])) st10 ?_
            refine goRet X10 (v := some (.ref c4)) (fun h => by rw [Bd.returns] at h; cases h) Bd.notSynchronized (fun fs hr => retOut X10 hx Bd.returns rfl (Or.inr (Or.inr (Or.inr (Or.inr ⟨rfl, rfl, rfl⟩)))) (hb hby d1_43) hr) (by decide) (by decide) ?_
            exact ⟨by simp [pickA, hc1_1, hc10_3, hc19_5, hc28_7, hc37_9], N0, e10⟩
          · refine Go.by (S' := s₁.setTop (mkF m 44 #[.val (.int i)] [])) (fun _ kt => XS.icmpYes X0.here hx rfl (pc0 := 37) (pc' := 44) rfl (hb hby d1_37) rfl (XT.ii_ne_t hc37_9) (by decide) (by decide)  kt) ?_
            refine Go.by (S' := s₁.setTop (mkF m 45 #[.val (.int i)] [(.int i)])) (fun _ kt => XS.iloadN X0.here hx rfl (hb hby d1_44) rfl  kt) ?_
            refine Go.by (S' := s₁.setTop (mkF m 46 #[.val (.int i)] [(.int (5 : Int32)), (.int i)])) (fun _ kt => XT.iconstV X0.here hx rfl (5 : Int32) (hb hby d1_45) (by decide)  kt) ?_
            by_cases hc46_11 : i = (5 : Int32)
            · refine Go.by (S' := s₁.setTop (mkF m 49 #[.val (.int i)] [])) (fun _ kt => XS.icmpNo X0.here hx rfl (hb hby d1_46) rfl (XT.ii_ne_f hc46_11)  kt) ?_
              obtain ⟨T12, X12, e12, st12⟩ := getS2 X0 hx hZ hown (host := "") (Or.inl (hw _ (List.mem_of_getElem? (i := 18) rfl))) Via.refl e0 S5 (g := (mkF m 49 #[.val (.int i)] [])) rfl (hb hby d1_49)
              refine Go.by (S' := T12.setTop (mkF m 52 #[.val (.int i)] [(.ref c5)])) st12 ?_
              refine goRet X12 (v := some (.ref c5)) (fun h => by rw [Bd.returns] at h; cases h) Bd.notSynchronized (fun fs hr => retOut X12 hx Bd.returns rfl (Or.inr (Or.inr (Or.inr (Or.inr ⟨rfl, rfl, rfl⟩)))) (hb hby d1_52) hr) (by decide) (by decide) ?_
              exact ⟨by simp [pickA, hc1_1, hc10_3, hc19_5, hc28_7, hc37_9, hc46_11], N0, e12⟩
            · refine Go.by (S' := s₁.setTop (mkF m 53 #[.val (.int i)] [])) (fun _ kt => XS.icmpYes X0.here hx rfl (pc0 := 46) (pc' := 53) rfl (hb hby d1_46) rfl (XT.ii_ne_t hc46_11) (by decide) (by decide)  kt) ?_
              refine Go.by (S' := s₁.setTop (mkF m 54 #[.val (.int i)] [(.int i)])) (fun _ kt => XS.iloadN X0.here hx rfl (hb hby d1_53) rfl  kt) ?_
              refine Go.by (S' := s₁.setTop (mkF m 56 #[.val (.int i)] [(.int (6 : Int32)), (.int i)])) (fun _ kt => XT.bipushV X0.here hx rfl (6 : Int32) (hb hby d1_54) (by decide)  kt) ?_
              by_cases hc56_13 : i = (6 : Int32)
              · refine Go.by (S' := s₁.setTop (mkF m 59 #[.val (.int i)] [])) (fun _ kt => XS.icmpNo X0.here hx rfl (hb hby d1_56) rfl (XT.ii_ne_f hc56_13)  kt) ?_
                obtain ⟨T14, X14, e14, st14⟩ := getS2 X0 hx hZ hown (host := "") (Or.inl (hw _ (List.mem_of_getElem? (i := 14) rfl))) Via.refl e0 S6 (g := (mkF m 59 #[.val (.int i)] [])) rfl (hb hby d1_59)
                refine Go.by (S' := T14.setTop (mkF m 62 #[.val (.int i)] [(.ref c6)])) st14 ?_
                refine goRet X14 (v := some (.ref c6)) (fun h => by rw [Bd.returns] at h; cases h) Bd.notSynchronized (fun fs hr => retOut X14 hx Bd.returns rfl (Or.inr (Or.inr (Or.inr (Or.inr ⟨rfl, rfl, rfl⟩)))) (hb hby d1_62) hr) (by decide) (by decide) ?_
                exact ⟨by simp [pickA, hc1_1, hc10_3, hc19_5, hc28_7, hc37_9, hc46_11, hc56_13], N0, e14⟩
              · refine Go.by (S' := s₁.setTop (mkF m 63 #[.val (.int i)] [])) (fun _ kt => XS.icmpYes X0.here hx rfl (pc0 := 56) (pc' := 63) rfl (hb hby d1_56) rfl (XT.ii_ne_t hc56_13) (by decide) (by decide)  kt) ?_
                obtain ⟨T15, X15, e15, st15⟩ := getS2 X0 hx hZ hown (host := "") (Or.inl (hw _ (List.mem_of_getElem? (i := 20) rfl))) Via.refl e0 S7 (g := (mkF m 63 #[.val (.int i)] [])) rfl (hb hby d1_63)
                refine Go.by (S' := T15.setTop (mkF m 66 #[.val (.int i)] [(.ref c7)])) st15 ?_
                refine goRet X15 (v := some (.ref c7)) (fun h => by rw [Bd.returns] at h; cases h) Bd.notSynchronized (fun fs hr => retOut X15 hx Bd.returns rfl (Or.inr (Or.inr (Or.inr (Or.inr ⟨rfl, rfl, rfl⟩)))) (hb hby d1_66) hr) (by decide) (by decide) ?_
                exact ⟨by simp [pickA, hc1_1, hc10_3, hc19_5, hc28_7, hc37_9, hc46_11, hc56_13], N0, e15⟩
theorem ef_rm2 (m : MethodId) (x0 : Addr) (x1 : Int32) : entryFrame m #[(.ref x0), (.int x1)] 2 = mkF m 0 #[.val (.ref x0), .val (.int x1)] [] := by first | (simp [entryFrame, mkF, argsToLocals, Value.category]; done) | rfl
theorem pn_rm2 : plainName "com/example/tagwire/tagwire/StorageClass" = true := by first | (simp [plainName, overriddenIn]; done) | decide +kernel
theorem d2_0 : decode prog_47_method_6_code 0 = .ok (.iload_n 1, 1) := by decide +kernel
theorem d2_1 : decode prog_47_method_6_code 1 = .ok (.bipush 16, 2) := by decide +kernel
theorem d2_3 : decode prog_47_method_6_code 3 = .ok (.if_icmp .ge 12, 3) := by decide +kernel
theorem d2_6 : decode prog_47_method_6_code 6 = .ok (.aload_n 0, 1) := by decide +kernel
theorem d2_7 : decode prog_47_method_6_code 7 = .ok (.getfield 67, 3) := by decide +kernel
theorem d2_10 : decode prog_47_method_6_code 10 = .ok (.iload_n 1, 1) := by decide +kernel
theorem d2_11 : decode prog_47_method_6_code 11 = .ok (.ior, 1) := by decide +kernel
theorem d2_12 : decode prog_47_method_6_code 12 = .ok (.goto 16, 3) := by decide +kernel
theorem d2_15 : decode prog_47_method_6_code 15 = .ok (.aload_n 0, 1) := by decide +kernel
theorem d2_16 : decode prog_47_method_6_code 16 = .ok (.getfield 67, 3) := by decide +kernel
theorem d2_19 : decode prog_47_method_6_code 19 = .ok (.bipush 8, 2) := by decide +kernel
theorem d2_21 : decode prog_47_method_6_code 21 = .ok (.ishl, 1) := by decide +kernel
theorem d2_22 : decode prog_47_method_6_code 22 = .ok (.sipush 4096, 3) := by decide +kernel
theorem d2_25 : decode prog_47_method_6_code 25 = .ok (.ior, 1) := by decide +kernel
theorem d2_26 : decode prog_47_method_6_code 26 = .ok (.iload_n 1, 1) := by decide +kernel
theorem d2_27 : decode prog_47_method_6_code 27 = .ok (.ior, 1) := by decide +kernel
theorem d2_28 : decode prog_47_method_6_code 28 = .ok (.ireturn, 1) := by decide +kernel
set_option maxRecDepth 65536 in
set_option maxHeartbeats 40000000 in
theorem rm2 (l : Launch) (Z : State) (a0 : Array Value) (hw : ∀ d ∈ tables_1, d.before a0 Z = true) (ws : List Jvm.Cond) (a : Addr) (y : Int32) (b : Int32) (h0 : Heap) (n0 : Nat) (F : Fld Z h0 a "com/example/tagwire/tagwire/StorageClass" "bits" "I" (.int b)) :
    MetFree l (⟨"com/example/tagwire/tagwire/StorageClass", "typeCode", "(I)I"⟩ : MethodName) (head1 (Jvm.Cond.code (⟨"com/example/tagwire/tagwire/StorageClass", "typeCode", "(I)I"⟩ : MethodName) prog_47_method_6_code 2 (some .int) :: ws) ({ frames := 0, cells := 0, slots := 0, locals := 0 } : Room)) (fun aa U => aa = #[(.ref a), (.int y)] ∧ Z.Warmed39 U.vm ∧ U.heap = h0) (fun _ _ _ _ _ => True) (fun _ U o U' => ∃ v L, o = .returned v ∧ PureQ (some (.int (if y < 16 then b ||| y else ((b <<< ((8 : Int32) &&& 31)) ||| 4096) ||| y))) h0 n0 v U'.heap L ∧ FrameEnd U o U' L ({ frames := 0, cells := 0, slots := 0, locals := 0 } : Room).cells ({ frames := 0, cells := 0, slots := 0, locals := 0 } : Room).slots) := by
  refine MetFree.of_bodySF (plainFor_of_name pn_rm2) hisR ?_
  intro p e s m args below meth c s₁ Bd hml0 hP hK
  obtain ⟨rfl, hZ, hh⟩ := hP
  have hx := Bd.exec
  have hby := Bd.bytes
  have hml : c.maxLocals = 2 := hml0
  have hown : s.vm.findClass "com/example/tagwire/tagwire/StorageClass" = some m.cls := findClass_of_methodNamed Bd.named
  have hnm := (name_of_methodNamed Bd.named Bd.method).1
  have X0 : Stand p l e ({ frames := 0, cells := 0, slots := 0, locals := 0 } : Room) s m #[(.ref a), (.int y)] below meth c s₁ [] 0 0 := Stand.of_body Bd
  have e0 : s₁.heap = h0 := by rw [← hh, Bd.state]; rfl
  have N0 := Fr.nil n0
  refine goIn (ef_rm2 m a y) ?_
  refine Go.by (S' := s₁.setTop (mkF m 1 #[.val (.ref a), .val (.int y)] [(.int y)])) (fun _ kt => XS.iloadN X0.here hx rfl (hb hby d2_0) rfl  kt) ?_
  refine Go.by (S' := s₁.setTop (mkF m 3 #[.val (.ref a), .val (.int y)] [(.int (16 : Int32)), (.int y)])) (fun _ kt => XT.bipushV X0.here hx rfl (16 : Int32) (hb hby d2_1) (by decide)  kt) ?_
  by_cases hc3_1 : y < (16 : Int32)
  · refine Go.by (S' := s₁.setTop (mkF m 6 #[.val (.ref a), .val (.int y)] [])) (fun _ kt => XS.icmpNo X0.here hx rfl (hb hby d2_3) rfl (XT.ii_ge_f hc3_1)  kt) ?_
    refine Go.by (S' := s₁.setTop (mkF m 7 #[.val (.ref a), .val (.int y)] [(.ref a)])) (fun _ kt => XS.aloadN X0.here hx rfl (hb hby d2_6) rfl rfl  kt) ?_
    obtain ⟨T2, X2, e2, st2⟩ := getF X0 hx hZ hown (host := "") (Or.inl (hw _ (List.mem_of_getElem? (i := 12) rfl))) Via.refl e0 F (g := (mkF m 7 #[.val (.ref a), .val (.int y)] [(.ref a)])) rfl rfl (hb hby d2_7)
    refine Go.by (S' := T2.setTop (mkF m 10 #[.val (.ref a), .val (.int y)] [(.int b)])) st2 ?_
    refine Go.by (S' := T2.setTop (mkF m 11 #[.val (.ref a), .val (.int y)] [(.int y), (.int b)])) (fun _ kt => XS.iloadN X2.here hx rfl (hb hby d2_10) rfl  kt) ?_
    refine Go.by (S' := T2.setTop (mkF m 12 #[.val (.ref a), .val (.int y)] [(.int (b ||| y))])) (fun _ kt => XS.ior X2.here hx rfl (hb hby d2_11) rfl  kt) ?_
    refine Go.by (S' := T2.setTop (mkF m 28 #[.val (.ref a), .val (.int y)] [(.int (b ||| y))])) (fun _ kt => XS.goto X2.here hx rfl (pc0 := 12) (pc' := 28) rfl (hb hby d2_12) (by decide) (by decide)  kt) ?_
    refine goRet X2 (v := some (.int (b ||| y))) (fun h => by rw [Bd.returns] at h; cases h) Bd.notSynchronized (fun fs hr => retOut X2 hx Bd.returns rfl (Or.inl ⟨rfl, Or.inl rfl, _, rfl⟩) (hb hby d2_28) hr) (by decide) (by decide) ?_
    exact ⟨by simp [hc3_1], N0, e2⟩
  · refine Go.by (S' := s₁.setTop (mkF m 15 #[.val (.ref a), .val (.int y)] [])) (fun _ kt => XS.icmpYes X0.here hx rfl (pc0 := 3) (pc' := 15) rfl (hb hby d2_3) rfl (XT.ii_ge_t hc3_1) (by decide) (by decide)  kt) ?_
    refine Go.by (S' := s₁.setTop (mkF m 16 #[.val (.ref a), .val (.int y)] [(.ref a)])) (fun _ kt => XS.aloadN X0.here hx rfl (hb hby d2_15) rfl rfl  kt) ?_
    obtain ⟨T3, X3, e3, st3⟩ := getF X0 hx hZ hown (host := "") (Or.inl (hw _ (List.mem_of_getElem? (i := 12) rfl))) Via.refl e0 F (g := (mkF m 16 #[.val (.ref a), .val (.int y)] [(.ref a)])) rfl rfl (hb hby d2_16)
    refine Go.by (S' := T3.setTop (mkF m 19 #[.val (.ref a), .val (.int y)] [(.int b)])) st3 ?_
    refine Go.by (S' := T3.setTop (mkF m 21 #[.val (.ref a), .val (.int y)] [(.int (8 : Int32)), (.int b)])) (fun _ kt => XT.bipushV X3.here hx rfl (8 : Int32) (hb hby d2_19) (by decide)  kt) ?_
    refine Go.by (S' := T3.setTop (mkF m 22 #[.val (.ref a), .val (.int y)] [(.int (b <<< ((8 : Int32) &&& 31)))])) (fun _ kt => XS.ishl X3.here hx rfl (hb hby d2_21) rfl  kt) ?_
    refine Go.by (S' := T3.setTop (mkF m 25 #[.val (.ref a), .val (.int y)] [(.int (4096 : Int32)), (.int (b <<< ((8 : Int32) &&& 31)))])) (fun _ kt => XT.sipushV X3.here hx rfl (4096 : Int32) (hb hby d2_22) (by decide)  kt) ?_
    refine Go.by (S' := T3.setTop (mkF m 26 #[.val (.ref a), .val (.int y)] [(.int ((b <<< ((8 : Int32) &&& 31)) ||| (4096 : Int32)))])) (fun _ kt => XS.ior X3.here hx rfl (hb hby d2_25) rfl  kt) ?_
    refine Go.by (S' := T3.setTop (mkF m 27 #[.val (.ref a), .val (.int y)] [(.int y), (.int ((b <<< ((8 : Int32) &&& 31)) ||| (4096 : Int32)))])) (fun _ kt => XS.iloadN X3.here hx rfl (hb hby d2_26) rfl  kt) ?_
    refine Go.by (S' := T3.setTop (mkF m 28 #[.val (.ref a), .val (.int y)] [(.int (((b <<< ((8 : Int32) &&& 31)) ||| (4096 : Int32)) ||| y))])) (fun _ kt => XS.ior X3.here hx rfl (hb hby d2_27) rfl  kt) ?_
    refine goRet X3 (v := some (.int (((b <<< ((8 : Int32) &&& 31)) ||| (4096 : Int32)) ||| y))) (fun h => by rw [Bd.returns] at h; cases h) Bd.notSynchronized (fun fs hr => retOut X3 hx Bd.returns rfl (Or.inl ⟨rfl, Or.inl rfl, _, rfl⟩) (hb hby d2_28) hr) (by decide) (by decide) ?_
    exact ⟨by simp [hc3_1], N0, e3⟩
theorem own_pick {Z : State} {h0 : Heap} {c0 c1 c2 c3 c4 c5 c6 c7 : Addr} (i : Int32) (hi : i = 0 ∨ i = 1 ∨ i = 2 ∨ i = 3 ∨ i = 4 ∨ i = 5 ∨ i = 6 ∨ i = 7) (F0 : Fld Z h0 c0 "com/example/tagwire/tagwire/StorageClass" "bits" "I" (.int 0)) (F1 : Fld Z h0 c1 "com/example/tagwire/tagwire/StorageClass" "bits" "I" (.int 32)) (F2 : Fld Z h0 c2 "com/example/tagwire/tagwire/StorageClass" "bits" "I" (.int 64)) (F3 : Fld Z h0 c3 "com/example/tagwire/tagwire/StorageClass" "bits" "I" (.int 96)) (F4 : Fld Z h0 c4 "com/example/tagwire/tagwire/StorageClass" "bits" "I" (.int 128)) (F5 : Fld Z h0 c5 "com/example/tagwire/tagwire/StorageClass" "bits" "I" (.int 160)) (F6 : Fld Z h0 c6 "com/example/tagwire/tagwire/StorageClass" "bits" "I" (.int 192)) (F7 : Fld Z h0 c7 "com/example/tagwire/tagwire/StorageClass" "bits" "I" (.int 224)) (E0 : Exa Z h0 c0 "com/example/tagwire/tagwire/StorageClass") (E1 : Exa Z h0 c1 "com/example/tagwire/tagwire/StorageClass") (E2 : Exa Z h0 c2 "com/example/tagwire/tagwire/StorageClass") (E3 : Exa Z h0 c3 "com/example/tagwire/tagwire/StorageClass") (E4 : Exa Z h0 c4 "com/example/tagwire/tagwire/StorageClass") (E5 : Exa Z h0 c5 "com/example/tagwire/tagwire/StorageClass") (E6 : Exa Z h0 c6 "com/example/tagwire/tagwire/StorageClass") (E7 : Exa Z h0 c7 "com/example/tagwire/tagwire/StorageClass") : Fld Z h0 (pickA i c0 c1 c2 c3 c4 c5 c6 c7) "com/example/tagwire/tagwire/StorageClass" "bits" "I" (.int (i * 32)) ∧ Exa Z h0 (pickA i c0 c1 c2 c3 c4 c5 c6 c7) "com/example/tagwire/tagwire/StorageClass" := by
  rcases hi with rfl | rfl | rfl | rfl | rfl | rfl | rfl | rfl
  · exact ⟨F0, E0⟩
  · exact ⟨F1, E1⟩
  · exact ⟨F2, E2⟩
  · exact ⟨F3, E3⟩
  · exact ⟨F4, E4⟩
  · exact ⟨F5, E5⟩
  · exact ⟨F6, E6⟩
  · exact ⟨F7, E7⟩
def LawQ (n0 : Nat) (v : Option Value) (h : Heap) (L : List Loc) : Prop := v = some (.int 1) ∧ Fr n0 L
theorem ef_rm0 (m : MethodId) (x0 : Int32) (x1 : Int32) : entryFrame m #[(.int x0), (.int x1)] maxLocals = mkF m 0 #[.val (.int x0), .val (.int x1), .unset, .unset, .unset, .unset, .unset] [] := by first | (simp [entryFrame, mkF, argsToLocals, Value.category, maxLocals]; done) | rfl
theorem pn_rm0 : plainName "com/example/tagwire/tagwire/StorageClassTypeCodePinLaw" = true := by first | (simp [plainName, overriddenIn]; done) | decide +kernel
set_option maxRecDepth 65536 in
set_option maxHeartbeats 40000000 in
theorem rm0 (l : Launch) (Z : State) (a0 : Array Value) (hw : ∀ d ∈ tables_1, d.before a0 Z = true) (ws : List Jvm.Cond) (x0 : Int32) (x1 : Int32) (c0 c1 c2 c3 c4 c5 c6 c7 : Addr) (h0 : Heap) (n0 : Nat) (S0 : Sta Z h0 "com/example/tagwire/tagwire/StorageClass" "NOBYTES" "Lcom/example/tagwire/tagwire/StorageClass;" (.ref c0)) (S1 : Sta Z h0 "com/example/tagwire/tagwire/StorageClass" "BYTE" "Lcom/example/tagwire/tagwire/StorageClass;" (.ref c1)) (S2 : Sta Z h0 "com/example/tagwire/tagwire/StorageClass" "WORD" "Lcom/example/tagwire/tagwire/StorageClass;" (.ref c2)) (S3 : Sta Z h0 "com/example/tagwire/tagwire/StorageClass" "DWORD" "Lcom/example/tagwire/tagwire/StorageClass;" (.ref c3)) (S4 : Sta Z h0 "com/example/tagwire/tagwire/StorageClass" "QWORD" "Lcom/example/tagwire/tagwire/StorageClass;" (.ref c4)) (S5 : Sta Z h0 "com/example/tagwire/tagwire/StorageClass" "STRING" "Lcom/example/tagwire/tagwire/StorageClass;" (.ref c5)) (S6 : Sta Z h0 "com/example/tagwire/tagwire/StorageClass" "BLOB" "Lcom/example/tagwire/tagwire/StorageClass;" (.ref c6)) (S7 : Sta Z h0 "com/example/tagwire/tagwire/StorageClass" "CONTAINER" "Lcom/example/tagwire/tagwire/StorageClass;" (.ref c7)) (F0 : Fld Z h0 c0 "com/example/tagwire/tagwire/StorageClass" "bits" "I" (.int 0)) (F1 : Fld Z h0 c1 "com/example/tagwire/tagwire/StorageClass" "bits" "I" (.int 32)) (F2 : Fld Z h0 c2 "com/example/tagwire/tagwire/StorageClass" "bits" "I" (.int 64)) (F3 : Fld Z h0 c3 "com/example/tagwire/tagwire/StorageClass" "bits" "I" (.int 96)) (F4 : Fld Z h0 c4 "com/example/tagwire/tagwire/StorageClass" "bits" "I" (.int 128)) (F5 : Fld Z h0 c5 "com/example/tagwire/tagwire/StorageClass" "bits" "I" (.int 160)) (F6 : Fld Z h0 c6 "com/example/tagwire/tagwire/StorageClass" "bits" "I" (.int 192)) (F7 : Fld Z h0 c7 "com/example/tagwire/tagwire/StorageClass" "bits" "I" (.int 224)) (E0 : Exa Z h0 c0 "com/example/tagwire/tagwire/StorageClass") (E1 : Exa Z h0 c1 "com/example/tagwire/tagwire/StorageClass") (E2 : Exa Z h0 c2 "com/example/tagwire/tagwire/StorageClass") (E3 : Exa Z h0 c3 "com/example/tagwire/tagwire/StorageClass") (E4 : Exa Z h0 c4 "com/example/tagwire/tagwire/StorageClass") (E5 : Exa Z h0 c5 "com/example/tagwire/tagwire/StorageClass") (E6 : Exa Z h0 c6 "com/example/tagwire/tagwire/StorageClass") (E7 : Exa Z h0 c7 "com/example/tagwire/tagwire/StorageClass") :
    MetFree l x (head1 (Jvm.Cond.code x code maxLocals ret :: ws) room_1) (fun aa U => aa = #[(.int x0), (.int x1)] ∧ Z.Warmed39 U.vm ∧ U.heap = h0) (fun _ _ _ _ _ => True) (fun _ U o U' => ∃ v L, o = .returned v ∧ LawQ n0 v U'.heap L ∧ FrameEnd U o U' L room_1.cells room_1.slots) := by
  refine MetFree.of_bodySF (plainFor_of_name pn_rm0) hisR ?_
  intro p e s m args below meth c s₁ Bd hml0 hP hK
  obtain ⟨rfl, hZ, hh⟩ := hP
  have hx := Bd.exec
  have hby := Bd.bytes
  have hml : c.maxLocals = 7 := hml0
  have hown : s.vm.findClass "com/example/tagwire/tagwire/StorageClassTypeCodePinLaw" = some m.cls := findClass_of_methodNamed Bd.named
  have hnm := (name_of_methodNamed Bd.named Bd.method).1
  have X0 : Stand p l e room_1 s m #[(.int x0), (.int x1)] below meth c s₁ [] 0 0 := Stand.of_body Bd
  have e0 : s₁.heap = h0 := by rw [← hh, Bd.state]; rfl
  have N0 := Fr.nil n0
  refine goIn (ef_rm0 m x0 x1) ?_
  refine Go.by (S' := s₁.setTop (mkF m 1 #[.val (.int x0), .val (.int x1), .unset, .unset, .unset, .unset, .unset] [(.int x0)])) (fun _ kt => XS.iloadN X0.here hx rfl (hb hby at_0) rfl  kt) ?_
  refine Go.by (S' := s₁.setTop (mkF m 3 #[.val (.int x0), .val (.int x1), .unset, .unset, .unset, .unset, .unset] [(.int (7 : Int32)), (.int x0)])) (fun _ kt => XT.bipushV X0.here hx rfl (7 : Int32) (hb hby at_1) (by decide)  kt) ?_
  refine Go.by (S' := s₁.setTop (mkF m 4 #[.val (.int x0), .val (.int x1), .unset, .unset, .unset, .unset, .unset] [(.int (x0 &&& (7 : Int32)))])) (fun _ kt => XS.iand X0.here hx rfl (hb hby at_3) rfl  kt) ?_
  obtain ⟨k, hk0⟩ : ∃ k, k = x0 &&& (7 : Int32) := ⟨_, rfl⟩
  rw [← hk0]
  have hk := own_and7 x0
  rw [← hk0] at hk
  refine Go.by (S' := s₁.setTop (mkF m 5 #[.val (.int x0), .val (.int x1), .val (.int k), .unset, .unset, .unset, .unset] [])) (fun _ kt => XS.istoreN X0.here hx rfl (hb hby at_4) rfl (l' := #[.val (.int x0), .val (.int x1), .val (.int k), .unset, .unset, .unset, .unset]) rfl  kt) ?_
  refine Go.by (S' := s₁.setTop (mkF m 6 #[.val (.int x0), .val (.int x1), .val (.int k), .unset, .unset, .unset, .unset] [(.int x1)])) (fun _ kt => XS.iloadN X0.here hx rfl (hb hby at_5) rfl  kt) ?_
  refine Go.by (S' := s₁.setTop (mkF m 9 #[.val (.int x0), .val (.int x1), .val (.int k), .unset, .unset, .unset, .unset] [(.int (4095 : Int32)), (.int x1)])) (fun _ kt => XT.sipushV X0.here hx rfl (4095 : Int32) (hb hby at_6) (by decide)  kt) ?_
  refine Go.by (S' := s₁.setTop (mkF m 10 #[.val (.int x0), .val (.int x1), .val (.int k), .unset, .unset, .unset, .unset] [(.int (x1 &&& (4095 : Int32)))])) (fun _ kt => XS.iand X0.here hx rfl (hb hby at_9) rfl  kt) ?_
  refine Go.by (S' := s₁.setTop (mkF m 11 #[.val (.int x0), .val (.int x1), .val (.int k), .val (.int (x1 &&& (4095 : Int32))), .unset, .unset, .unset] [])) (fun _ kt => XS.istoreN X0.here hx rfl (hb hby at_10) rfl (l' := #[.val (.int x0), .val (.int x1), .val (.int k), .val (.int (x1 &&& (4095 : Int32))), .unset, .unset, .unset]) rfl  kt) ?_
  refine Go.by (S' := s₁.setTop (mkF m 12 #[.val (.int x0), .val (.int x1), .val (.int k), .val (.int (x1 &&& (4095 : Int32))), .unset, .unset, .unset] [(.int k)])) (fun _ kt => XS.iloadN X0.here hx rfl (hb hby at_11) rfl  kt) ?_
  obtain ⟨_, _, ⟨T1, L1, k1, n1⟩, -, X1, ⟨Lc1, hQ1, l1, y1, z1⟩, st1⟩ := Jvm.LawKit.callS X0 hx (y := (⟨"com/example/tagwire/tagwire/StorageClassTypeCodePinLaw", "pick", "(I)Lcom/example/tagwire/tagwire/StorageClass;"⟩ : MethodName)) hown (mvT hZ (hw _ (List.mem_of_getElem? (i := 0) rfl))) (mvT hZ (hw _ (List.mem_of_getElem? (i := 1) rfl))) (mvT hZ (hw _ (List.mem_of_getElem? (i := 2) rfl))) (mvT hZ (hw _ (List.mem_of_getElem? (i := 3) rfl))) (by decide) (backOf (W := 0) (rm1 l Z a0 hw [] k c0 c1 c2 c3 c4 c5 c6 c7 h0 n0 S0 S1 S2 S3 S4 S5 S6 S7) hZ (hw _ (List.mem_of_getElem? (i := 3) rfl)) (hw _ (List.mem_of_getElem? (i := 2) rfl)) (by decide) (by decide)) (g := (mkF m 12 #[.val (.int x0), .val (.int x1), .val (.int k), .val (.int (x1 &&& (4095 : Int32))), .unset, .unset, .unset] [(.int k)])) rfl (by rw [hml]; rfl) (argsL := [(.int k)]) (rest := []) (lenOf pd_0 rfl) rfl (by show 2 * 0 + _ ≤ _; exact Nat.le_of_eq rfl) (hb hby at_12) (fun _ _ => ⟨rfl, e0, (by decide : 0 + 0 ≤ _), (by decide : 0 + 0 ≤ _)⟩)
  dsimp only [Pt.U, Pt.locs, Pt.cells, Pt.slots] at X1 l1 y1 z1 st1 hQ1
  subst l1 y1 z1
  obtain ⟨rfl, N1q, e1⟩ := hQ1
  have N1 := Fr.app N0 N1q
  obtain ⟨F, E⟩ := own_pick k hk F0 F1 F2 F3 F4 F5 F6 F7 E0 E1 E2 E3 E4 E5 E6 E7
  obtain ⟨d, hd⟩ : ∃ d, d = pickA k c0 c1 c2 c3 c4 c5 c6 c7 := ⟨_, rfl⟩
  rw [← hd] at st1 F E
  refine Go.by (S' := T1.setTop (mkF m 15 #[.val (.int x0), .val (.int x1), .val (.int k), .val (.int (x1 &&& (4095 : Int32))), .unset, .unset, .unset] [(.ref d)])) st1 ?_
  refine Go.by (S' := T1.setTop (mkF m 17 #[.val (.int x0), .val (.int x1), .val (.int k), .val (.int (x1 &&& (4095 : Int32))), .val (.ref d), .unset, .unset] [])) (fun _ kt => XS.astore X1.here hx rfl (hb hby at_15) rfl rfl (l' := #[.val (.int x0), .val (.int x1), .val (.int k), .val (.int (x1 &&& (4095 : Int32))), .val (.ref d), .unset, .unset]) rfl  kt) ?_
  refine Go.by (S' := T1.setTop (mkF m 19 #[.val (.int x0), .val (.int x1), .val (.int k), .val (.int (x1 &&& (4095 : Int32))), .val (.ref d), .unset, .unset] [(.ref d)])) (fun _ kt => XS.aload X1.here hx rfl (hb hby at_17) rfl rfl  kt) ?_
  refine Go.by (S' := T1.setTop (mkF m 20 #[.val (.int x0), .val (.int x1), .val (.int k), .val (.int (x1 &&& (4095 : Int32))), .val (.ref d), .unset, .unset] [(.int (x1 &&& (4095 : Int32))), (.ref d)])) (fun _ kt => XS.iloadN X1.here hx rfl (hb hby at_19) rfl  kt) ?_
  obtain ⟨cq2, kq2, q2a, q2b, q2c⟩ := isOf hZ e1 (E)
  obtain ⟨_, _, ⟨T2, L2, k2, n2⟩, -, X2, ⟨Lc2, hQ2, l2, y2, z2⟩, st2⟩ := X1.virtualBack hx (y := (⟨"com/example/tagwire/tagwire/StorageClass", "typeCode", "(I)I"⟩ : MethodName)) (z := (⟨"com/example/tagwire/tagwire/StorageClass", "typeCode", "(I)I"⟩ : MethodName)) hown (mvT hZ (hw _ (List.mem_of_getElem? (i := 7) rfl))) (mvT hZ (hw _ (List.mem_of_getElem? (i := 8) rfl))) (notFace_of_selects (args := #[]) (mvT hZ (hw _ (List.mem_of_getElem? (i := 10) rfl)))) (mvT hZ (hw _ (List.mem_of_getElem? (i := 10) rfl))) (mvT hZ (hw _ (List.mem_of_getElem? (i := 9) rfl))) (by decide) (backOf (W := 0) (rm2 l Z a0 hw [] d (x1 &&& (4095 : Int32)) (k * 32) h0 n0 F) hZ (hw _ (List.mem_of_getElem? (i := 11) rfl)) (hw _ (List.mem_of_getElem? (i := 5) rfl)) (by decide) (by decide)) q2a q2c (g := (mkF m 20 #[.val (.int x0), .val (.int x1), .val (.int k), .val (.int (x1 &&& (4095 : Int32))), .val (.ref d), .unset, .unset] [(.int (x1 &&& (4095 : Int32))), (.ref d)])) rfl (by rw [hml]; rfl) (Steps.refl _) (argsL := [(.int (x1 &&& (4095 : Int32)))]) (rest := []) (lenOf pd_1 rfl) rfl (by show 2 * 0 + _ ≤ _; exact Nat.le_of_eq rfl) (hb hby at_20) (fun _ _ => ⟨rfl, e1, (by decide : 0 + 0 ≤ _), (by decide : 0 + 0 ≤ _)⟩)
  dsimp only [Pt.U, Pt.locs, Pt.cells, Pt.slots] at X2 l2 y2 z2 st2 hQ2
  subst l2 y2 z2
  obtain ⟨rfl, N2q, e2⟩ := hQ2
  have N2 := Fr.app N1 N2q
  generalize hg : (if (x1 &&& (4095 : Int32)) < 16 then (k * 32) ||| (x1 &&& (4095 : Int32)) else (((k * 32) <<< ((8 : Int32) &&& 31)) ||| 4096) ||| (x1 &&& (4095 : Int32))) = g at st2
  refine Go.at (S' := T2.setTop (mkF m 23 #[.val (.int x0), .val (.int x1), .val (.int k), .val (.int (x1 &&& (4095 : Int32))), .val (.ref d), .unset, .unset] [(.int g)])) st2 ?_
  refine Go.by (S' := T2.setTop (mkF m 25 #[.val (.int x0), .val (.int x1), .val (.int k), .val (.int (x1 &&& (4095 : Int32))), .val (.ref d), .val (.int g), .unset] [])) (fun _ kt => XS.istore X2.here hx rfl (hb hby at_23) rfl (l' := #[.val (.int x0), .val (.int x1), .val (.int k), .val (.int (x1 &&& (4095 : Int32))), .val (.ref d), .val (.int g), .unset]) rfl  kt) ?_
  refine Go.by (S' := T2.setTop (mkF m 26 #[.val (.int x0), .val (.int x1), .val (.int k), .val (.int (x1 &&& (4095 : Int32))), .val (.ref d), .val (.int g), .unset] [(.int (x1 &&& (4095 : Int32)))])) (fun _ kt => XS.iloadN X2.here hx rfl (hb hby at_25) rfl  kt) ?_
  refine Go.by (S' := T2.setTop (mkF m 28 #[.val (.int x0), .val (.int x1), .val (.int k), .val (.int (x1 &&& (4095 : Int32))), .val (.ref d), .val (.int g), .unset] [(.int (16 : Int32)), (.int (x1 &&& (4095 : Int32)))])) (fun _ kt => XT.bipushV X2.here hx rfl (16 : Int32) (hb hby at_26) (by decide)  kt) ?_
  by_cases hc28_3 : (x1 &&& (4095 : Int32)) < (16 : Int32)
  · refine Go.by (S' := T2.setTop (mkF m 31 #[.val (.int x0), .val (.int x1), .val (.int k), .val (.int (x1 &&& (4095 : Int32))), .val (.ref d), .val (.int g), .unset] [])) (fun _ kt => XS.icmpNo X2.here hx rfl (hb hby at_28) rfl (XT.ii_ge_f hc28_3)  kt) ?_
    refine Go.by (S' := T2.setTop (mkF m 32 #[.val (.int x0), .val (.int x1), .val (.int k), .val (.int (x1 &&& (4095 : Int32))), .val (.ref d), .val (.int g), .unset] [(.int k)])) (fun _ kt => XS.iloadN X2.here hx rfl (hb hby at_31) rfl  kt) ?_
    refine Go.by (S' := T2.setTop (mkF m 34 #[.val (.int x0), .val (.int x1), .val (.int k), .val (.int (x1 &&& (4095 : Int32))), .val (.ref d), .val (.int g), .unset] [(.int (32 : Int32)), (.int k)])) (fun _ kt => XT.bipushV X2.here hx rfl (32 : Int32) (hb hby at_32) (by decide)  kt) ?_
    refine Go.by (S' := T2.setTop (mkF m 35 #[.val (.int x0), .val (.int x1), .val (.int k), .val (.int (x1 &&& (4095 : Int32))), .val (.ref d), .val (.int g), .unset] [(.int (k * (32 : Int32)))])) (fun _ kt => XS.imul X2.here hx rfl (hb hby at_34) rfl  kt) ?_
    refine Go.by (S' := T2.setTop (mkF m 36 #[.val (.int x0), .val (.int x1), .val (.int k), .val (.int (x1 &&& (4095 : Int32))), .val (.ref d), .val (.int g), .unset] [(.int (x1 &&& (4095 : Int32))), (.int (k * (32 : Int32)))])) (fun _ kt => XS.iloadN X2.here hx rfl (hb hby at_35) rfl  kt) ?_
    refine Go.by (S' := T2.setTop (mkF m 37 #[.val (.int x0), .val (.int x1), .val (.int k), .val (.int (x1 &&& (4095 : Int32))), .val (.ref d), .val (.int g), .unset] [(.int ((k * (32 : Int32)) + (x1 &&& (4095 : Int32))))])) (fun _ kt => XS.iadd X2.here hx rfl (hb hby at_36) rfl  kt) ?_
    refine Go.by (S' := T2.setTop (mkF m 39 #[.val (.int x0), .val (.int x1), .val (.int k), .val (.int (x1 &&& (4095 : Int32))), .val (.ref d), .val (.int g), .val (.int ((k * (32 : Int32)) + (x1 &&& (4095 : Int32))))] [])) (fun _ kt => XS.istore X2.here hx rfl (hb hby at_37) rfl (l' := #[.val (.int x0), .val (.int x1), .val (.int k), .val (.int (x1 &&& (4095 : Int32))), .val (.ref d), .val (.int g), .val (.int ((k * (32 : Int32)) + (x1 &&& (4095 : Int32))))]) rfl  kt) ?_
    refine Go.by (S' := T2.setTop (mkF m 55 #[.val (.int x0), .val (.int x1), .val (.int k), .val (.int (x1 &&& (4095 : Int32))), .val (.ref d), .val (.int g), .val (.int ((k * (32 : Int32)) + (x1 &&& (4095 : Int32))))] [])) (fun _ kt => XS.goto X2.here hx rfl (pc0 := 39) (pc' := 55) rfl (hb hby at_39) (by decide) (by decide)  kt) ?_
    refine Go.by (S' := T2.setTop (mkF m 57 #[.val (.int x0), .val (.int x1), .val (.int k), .val (.int (x1 &&& (4095 : Int32))), .val (.ref d), .val (.int g), .val (.int ((k * (32 : Int32)) + (x1 &&& (4095 : Int32))))] [(.int g)])) (fun _ kt => XS.iload X2.here hx rfl (hb hby at_55) rfl  kt) ?_
    refine Go.by (S' := T2.setTop (mkF m 59 #[.val (.int x0), .val (.int x1), .val (.int k), .val (.int (x1 &&& (4095 : Int32))), .val (.ref d), .val (.int g), .val (.int ((k * (32 : Int32)) + (x1 &&& (4095 : Int32))))] [(.int ((k * (32 : Int32)) + (x1 &&& (4095 : Int32)))), (.int g)])) (fun _ kt => XS.iload X2.here hx rfl (hb hby at_57) rfl  kt) ?_
    refine Go.by (S' := T2.setTop (mkF m 62 #[.val (.int x0), .val (.int x1), .val (.int k), .val (.int (x1 &&& (4095 : Int32))), .val (.ref d), .val (.int g), .val (.int ((k * (32 : Int32)) + (x1 &&& (4095 : Int32))))] [])) (fun _ kt => XS.icmpNo X2.here hx rfl (hb hby at_59) rfl (XT.ii_ne_f (hg ▸ by simp only [hc28_3, if_true, if_false]; exact own_low k x1 hk hc28_3))  kt) ?_
    refine Go.by (S' := T2.setTop (mkF m 63 #[.val (.int x0), .val (.int x1), .val (.int k), .val (.int (x1 &&& (4095 : Int32))), .val (.ref d), .val (.int g), .val (.int ((k * (32 : Int32)) + (x1 &&& (4095 : Int32))))] [(.int (1 : Int32))])) (fun _ kt => XT.iconstV X2.here hx rfl (1 : Int32) (hb hby at_62) (by decide)  kt) ?_
    refine Go.by (S' := T2.setTop (mkF m 67 #[.val (.int x0), .val (.int x1), .val (.int k), .val (.int (x1 &&& (4095 : Int32))), .val (.ref d), .val (.int g), .val (.int ((k * (32 : Int32)) + (x1 &&& (4095 : Int32))))] [(.int (1 : Int32))])) (fun _ kt => XS.goto X2.here hx rfl (pc0 := 63) (pc' := 67) rfl (hb hby at_63) (by decide) (by decide)  kt) ?_
    refine goRet X2 (v := some (.int (nar .boolean (1 : Int32)))) (fun h => by rw [Bd.returns] at h; cases h) Bd.notSynchronized (fun fs hr => retN X2 hx (t := .boolean) Bd.returns (by simp) (hb hby at_67) hr) (by decide) (by decide) ?_
    exact ⟨by simp [own_n1], N2⟩
  · refine Go.by (S' := T2.setTop (mkF m 42 #[.val (.int x0), .val (.int x1), .val (.int k), .val (.int (x1 &&& (4095 : Int32))), .val (.ref d), .val (.int g), .unset] [])) (fun _ kt => XS.icmpYes X2.here hx rfl (pc0 := 28) (pc' := 42) rfl (hb hby at_28) rfl (XT.ii_ge_t hc28_3) (by decide) (by decide)  kt) ?_
    refine Go.by (S' := T2.setTop (mkF m 43 #[.val (.int x0), .val (.int x1), .val (.int k), .val (.int (x1 &&& (4095 : Int32))), .val (.ref d), .val (.int g), .unset] [(.int k)])) (fun _ kt => XS.iloadN X2.here hx rfl (hb hby at_42) rfl  kt) ?_
    refine Go.by (S' := T2.setTop (mkF m 46 #[.val (.int x0), .val (.int x1), .val (.int k), .val (.int (x1 &&& (4095 : Int32))), .val (.ref d), .val (.int g), .unset] [(.int (8192 : Int32)), (.int k)])) (fun _ kt => XT.sipushV X2.here hx rfl (8192 : Int32) (hb hby at_43) (by decide)  kt) ?_
    refine Go.by (S' := T2.setTop (mkF m 47 #[.val (.int x0), .val (.int x1), .val (.int k), .val (.int (x1 &&& (4095 : Int32))), .val (.ref d), .val (.int g), .unset] [(.int (k * (8192 : Int32)))])) (fun _ kt => XS.imul X2.here hx rfl (hb hby at_46) rfl  kt) ?_
    refine Go.by (S' := T2.setTop (mkF m 50 #[.val (.int x0), .val (.int x1), .val (.int k), .val (.int (x1 &&& (4095 : Int32))), .val (.ref d), .val (.int g), .unset] [(.int (4096 : Int32)), (.int (k * (8192 : Int32)))])) (fun _ kt => XT.sipushV X2.here hx rfl (4096 : Int32) (hb hby at_47) (by decide)  kt) ?_
    refine Go.by (S' := T2.setTop (mkF m 51 #[.val (.int x0), .val (.int x1), .val (.int k), .val (.int (x1 &&& (4095 : Int32))), .val (.ref d), .val (.int g), .unset] [(.int ((k * (8192 : Int32)) + (4096 : Int32)))])) (fun _ kt => XS.iadd X2.here hx rfl (hb hby at_50) rfl  kt) ?_
    refine Go.by (S' := T2.setTop (mkF m 52 #[.val (.int x0), .val (.int x1), .val (.int k), .val (.int (x1 &&& (4095 : Int32))), .val (.ref d), .val (.int g), .unset] [(.int (x1 &&& (4095 : Int32))), (.int ((k * (8192 : Int32)) + (4096 : Int32)))])) (fun _ kt => XS.iloadN X2.here hx rfl (hb hby at_51) rfl  kt) ?_
    refine Go.by (S' := T2.setTop (mkF m 53 #[.val (.int x0), .val (.int x1), .val (.int k), .val (.int (x1 &&& (4095 : Int32))), .val (.ref d), .val (.int g), .unset] [(.int (((k * (8192 : Int32)) + (4096 : Int32)) + (x1 &&& (4095 : Int32))))])) (fun _ kt => XS.iadd X2.here hx rfl (hb hby at_52) rfl  kt) ?_
    refine Go.by (S' := T2.setTop (mkF m 55 #[.val (.int x0), .val (.int x1), .val (.int k), .val (.int (x1 &&& (4095 : Int32))), .val (.ref d), .val (.int g), .val (.int (((k * (8192 : Int32)) + (4096 : Int32)) + (x1 &&& (4095 : Int32))))] [])) (fun _ kt => XS.istore X2.here hx rfl (hb hby at_53) rfl (l' := #[.val (.int x0), .val (.int x1), .val (.int k), .val (.int (x1 &&& (4095 : Int32))), .val (.ref d), .val (.int g), .val (.int (((k * (8192 : Int32)) + (4096 : Int32)) + (x1 &&& (4095 : Int32))))]) rfl  kt) ?_
    refine Go.by (S' := T2.setTop (mkF m 57 #[.val (.int x0), .val (.int x1), .val (.int k), .val (.int (x1 &&& (4095 : Int32))), .val (.ref d), .val (.int g), .val (.int (((k * (8192 : Int32)) + (4096 : Int32)) + (x1 &&& (4095 : Int32))))] [(.int g)])) (fun _ kt => XS.iload X2.here hx rfl (hb hby at_55) rfl  kt) ?_
    refine Go.by (S' := T2.setTop (mkF m 59 #[.val (.int x0), .val (.int x1), .val (.int k), .val (.int (x1 &&& (4095 : Int32))), .val (.ref d), .val (.int g), .val (.int (((k * (8192 : Int32)) + (4096 : Int32)) + (x1 &&& (4095 : Int32))))] [(.int (((k * (8192 : Int32)) + (4096 : Int32)) + (x1 &&& (4095 : Int32)))), (.int g)])) (fun _ kt => XS.iload X2.here hx rfl (hb hby at_57) rfl  kt) ?_
    refine Go.by (S' := T2.setTop (mkF m 62 #[.val (.int x0), .val (.int x1), .val (.int k), .val (.int (x1 &&& (4095 : Int32))), .val (.ref d), .val (.int g), .val (.int (((k * (8192 : Int32)) + (4096 : Int32)) + (x1 &&& (4095 : Int32))))] [])) (fun _ kt => XS.icmpNo X2.here hx rfl (hb hby at_59) rfl (XT.ii_ne_f (hg ▸ by simp only [hc28_3, if_true, if_false]; exact own_high k x1 hk))  kt) ?_
    refine Go.by (S' := T2.setTop (mkF m 63 #[.val (.int x0), .val (.int x1), .val (.int k), .val (.int (x1 &&& (4095 : Int32))), .val (.ref d), .val (.int g), .val (.int (((k * (8192 : Int32)) + (4096 : Int32)) + (x1 &&& (4095 : Int32))))] [(.int (1 : Int32))])) (fun _ kt => XT.iconstV X2.here hx rfl (1 : Int32) (hb hby at_62) (by decide)  kt) ?_
    refine Go.by (S' := T2.setTop (mkF m 67 #[.val (.int x0), .val (.int x1), .val (.int k), .val (.int (x1 &&& (4095 : Int32))), .val (.ref d), .val (.int g), .val (.int (((k * (8192 : Int32)) + (4096 : Int32)) + (x1 &&& (4095 : Int32))))] [(.int (1 : Int32))])) (fun _ kt => XS.goto X2.here hx rfl (pc0 := 63) (pc' := 67) rfl (hb hby at_63) (by decide) (by decide)  kt) ?_
    refine goRet X2 (v := some (.int (nar .boolean (1 : Int32)))) (fun h => by rw [Bd.returns] at h; cases h) Bd.notSynchronized (fun fs hr => retN X2 hx (t := .boolean) Bd.returns (by simp) (hb hby at_67) hr) (by decide) (by decide) ?_
    exact ⟨by simp [own_n1], N2⟩
set_option maxRecDepth 65536 in
set_option maxHeartbeats 40000000 in
theorem comes_1 {Post : Tables → Env → Array Value → State → Outcome → State → Prop} (hpost : ∀ tb e args s v u, (limb_1_1.after args s (.returned v) u = true ∧ limb_1_2.after args s (.returned v) u = true ∧ True) → FrameEnd s (.returned v) u (Jvm.fieldLocs frame_1_writes args s ++ Jvm.arrayLocs frame_1_arrays args s ++ Jvm.staticLocs frame_1_statics s) 0 0 → Post tb e args s (.returned v) u) :
    ArmFor flags0 classFile x code maxLocals ret World_1 tables_1 room_1 Calls_1 rest_1 Pre_1 Post := by
  intro l hfl _ _ p e ha hc hk s m args below hf hA hF happ hP
  obtain ⟨hcalls, hrest, hpre⟩ := hP
  obtain ⟨-, -, -, hnamed, -, -, -, hat⟩ := (Spec.applies_iff hf).mp happ
  obtain ⟨hg, hn⟩ := and_e (Cond.before_iff.mp (show (Jvm.Cond.and given_1 narrow_1).before args s = true from hpre))
  obtain ⟨gc, gr0⟩ := and_e hg
  obtain ⟨gi0, gr1⟩ := and_e gr0
  have gi1 := gr1
  obtain ⟨w0, w1, rfl⟩ : ∃ w0 w1 : Value, args = #[w0, w1] := by
    have hs : args.size = 2 := by simpa [Cond.value, given_1] using gc
    obtain ⟨L⟩ := args
    match L, hs with
    | [w0, w1], _ => exact ⟨w0, w1, rfl⟩
  have hw := fun d (hd : d ∈ tables_1) => atoms_spec (ws := Jvm.Cond.code x code maxLocals ret :: tables_1) hat d (List.mem_cons_of_mem _ hd)
  have hfit : Fit s := fun {y c} hc i hi => by
    obtain ⟨ha, rfl⟩ := Array.getElem?_eq_some_iff.mp hc
    have q := List.all_eq_true.mp ((Array.all_eq_true_iff_forall_mem.mp hF) _ (Array.getElem_mem ha)) i (List.mem_range.mpr hi)
    simpa [Array.getElem?_eq_getElem hi] using q
  obtain ⟨i0, ei0⟩ := is_v gi0
  obtain rfl : w0 = (.int i0) := Option.some.inj ei0
  obtain ⟨i1, ei1⟩ := is_v gi1
  obtain rfl : w1 = (.int i1) := Option.some.inj ei1
  obtain ⟨nx0, nr0⟩ := and_e hn
  obtain ⟨ne0, nr1⟩ := and_e nr0
  obtain ⟨nx6, nr2⟩ := and_e nr1
  obtain ⟨ne6, nr3⟩ := and_e nr2
  obtain ⟨nx4, nr4⟩ := and_e nr3
  obtain ⟨ne4, nr5⟩ := and_e nr4
  obtain ⟨nx5, nr6⟩ := and_e nr5
  obtain ⟨ne5, nr7⟩ := and_e nr6
  obtain ⟨nx7, nr8⟩ := and_e nr7
  obtain ⟨ne7, nr9⟩ := and_e nr8
  obtain ⟨nx3, nr10⟩ := and_e nr9
  obtain ⟨ne3, nr11⟩ := and_e nr10
  obtain ⟨nx1, nr12⟩ := and_e nr11
  obtain ⟨ne1, nr13⟩ := and_e nr12
  obtain ⟨nx2, nr14⟩ := and_e nr13
  have ne2 := nr14
  obtain ⟨c0, S0, E0, F0⟩ := own_enum nx0 ne0 (hw _ (List.mem_of_getElem? (i := 5) rfl)) (hw _ (List.mem_of_getElem? (i := 6) rfl))
  obtain ⟨c1, S1, E1, F1⟩ := own_enum nx1 ne1 (hw _ (List.mem_of_getElem? (i := 5) rfl)) (hw _ (List.mem_of_getElem? (i := 25) rfl))
  obtain ⟨c2, S2, E2, F2⟩ := own_enum nx2 ne2 (hw _ (List.mem_of_getElem? (i := 5) rfl)) (hw _ (List.mem_of_getElem? (i := 27) rfl))
  obtain ⟨c3, S3, E3, F3⟩ := own_enum nx3 ne3 (hw _ (List.mem_of_getElem? (i := 5) rfl)) (hw _ (List.mem_of_getElem? (i := 23) rfl))
  obtain ⟨c4, S4, E4, F4⟩ := own_enum nx4 ne4 (hw _ (List.mem_of_getElem? (i := 5) rfl)) (hw _ (List.mem_of_getElem? (i := 17) rfl))
  obtain ⟨c5, S5, E5, F5⟩ := own_enum nx5 ne5 (hw _ (List.mem_of_getElem? (i := 5) rfl)) (hw _ (List.mem_of_getElem? (i := 19) rfl))
  obtain ⟨c6, S6, E6, F6⟩ := own_enum nx6 ne6 (hw _ (List.mem_of_getElem? (i := 5) rfl)) (hw _ (List.mem_of_getElem? (i := 15) rfl))
  obtain ⟨c7, S7, E7, F7⟩ := own_enum nx7 ne7 (hw _ (List.mem_of_getElem? (i := 5) rfl)) (hw _ (List.mem_of_getElem? (i := 21) rfl))
  obtain ⟨n, o, h1, h2, h3, _, L, rfl, ⟨rfl, N⟩, hq⟩ := rm0 l s _ hw tables_1 i0 i1 c0 c1 c2 c3 c4 c5 c6 c7 s.heap s.heap.size S0 S1 S2 S3 S4 S5 S6 S7 F0 F1 F2 F3 F4 F5 F6 F7 E0 E1 E2 E3 E4 E5 E6 E7 p e ha hc hk s m _ below hf ((Spec.applies_iff_loose hf).mp happ).1 ⟨rfl, State.Warmed39.refl s, rfl⟩ trivial
  refine ⟨n, _, h1, h2, h3, hpost _ _ _ _ _ _ ⟨Cond.after_iff.mpr rfl, Cond.after_iff.mpr (eq_i res_at (Term.int_eval (1)) rfl), trivial⟩ ⟨hq.1, hq.2.1, (hq.2.2.sift fun y hy => Or.inr (N y hy)).mono (by decide) (by decide)⟩⟩
theorem main_1_1 : Claimed_1_1 := comes_1 fun _ _ _ _ _ _ h hF => ⟨h.1, hF⟩
theorem main_1_2 : Claimed_1_2 := comes_1 fun _ _ _ _ _ _ h hF => ⟨h.2.1, hF⟩
end Jvm.Pilot.@@N@@
namespace Jvm.Pilot.@@N@@
open Jvm Jvm.ClassFile Sem Op Lib Jvm.Free Jvm.Stand Jvm.Pilot.@@N@@.Jvm.D
/-! MADE BY PROGRAM (witnessworld.py) out of the Statement's table words and the real class files: 12 classes; the members and pool entries that the words name. The judged class is class 1, her method 2. -/
namespace start1
open Jvm.ClassFile
def u (s : String) : CpInfo := .utf8 (stringToUtf16 s)
/-- a pool by its gaps: so many unusable entries, then the entry; so many at the end -/
def gap : Nat → List CpInfo → List CpInfo
  | 0, r => r
  | n + 1, r => .unusable :: gap n r
def poolList (es : List (Nat × CpInfo)) (last : Nat) : List CpInfo := es.foldr (fun e r => gap e.1 (e.2 :: r)) (gap last [])
def pool (es : List (Nat × CpInfo)) (last : Nat) : Array CpInfo := ⟨poolList es last⟩
def fileOf (pool : Array CpInfo) (this : Nat) (attrs : Array Attribute := #[]) (ms : Array MethodInfo := #[]) (fl : Nat := 33) (sup : Nat := 0) (ifs : Array Nat := #[]) (fds : Array FieldInfo := #[]) : ClassFile where
  minorVersion := 0
  majorVersion := 65
  constantPool := pool
  accessFlags := fl
  thisClass := this
  superClass := sup
  interfaces := ifs
  fields := fds
  methods := ms
  attributes := attrs
def plain (name : String) (sup : Option ClassId) : Class where
  name := name
  kind := .ordinary
  loader := none
  accessFlags := 33
  super := sup
  interfaces := #[]
  cf := none
  fields := #[]
  methods := #[]
  instanceTypes := #[]
  staticTypes := #[]
  resolved := #[]
  callSites := []
  init := .initialized
  statics := none
  mirror := none

def pool0 : Array CpInfo := pool [(5, u "<init>"), (0, u "()V"), (1, .class_ 10), (1, u "java/lang/Object")] 113

def k0m0 : Method := { name := "<init>", desc := "()V", sig := { parameters := [], returnType := none }, accessFlags := 1, code := none }
/-- java/lang/Object -/
def k0 : Class := { plain "java/lang/Object" none with
  accessFlags := 33
  interfaces := #[]
  cf := some (fileOf pool0 8 #[] #[{ accessFlags := 1, nameIndex := 5, descriptorIndex := 6, attributes := #[] }] 33 0 #[] #[])
  fields := #[]
  methods := #[k0m0]
  instanceTypes := #[]
  staticTypes := #[]
  resolved := Array.replicate 124 none
  statics := none }

def pool1 : Array CpInfo := pool [(2, .class_ 4), (1, u "java/lang/Object"), (0, u "<init>"), (0, u "()V"), (0, .fieldref 8 9), (0, .class_ 10), (0, .nameAndType 11 12), (0, u "com/example/tagwire/tagwire/StorageClass"), (0, u "NOBYTES"), (0, u "Lcom/example/tagwire/tagwire/StorageClass;"), (0, .fieldref 8 14), (0, .nameAndType 15 12), (0, u "BYTE"), (0, .fieldref 8 17), (0, .nameAndType 18 12), (0, u "WORD"), (0, .fieldref 8 20), (0, .nameAndType 21 12), (0, u "DWORD"), (0, .fieldref 8 23), (0, .nameAndType 24 12), (0, u "QWORD"), (0, .fieldref 8 26), (0, .nameAndType 27 12), (0, u "STRING"), (0, .fieldref 8 29), (0, .nameAndType 30 12), (0, u "BLOB"), (0, .fieldref 8 32), (0, .nameAndType 33 12), (0, u "CONTAINER"), (0, .methodref 35 36), (0, .class_ 37), (0, .nameAndType 38 39), (0, u "com/example/tagwire/tagwire/StorageClassTypeCodePinLaw"), (0, u "pick"), (0, u "(I)Lcom/example/tagwire/tagwire/StorageClass;"), (0, .methodref 8 41), (0, .nameAndType 42 43), (0, u "typeCode"), (0, u "(I)I"), (3, u "law"), (0, u "(II)Z")] 2

def k1m0 : Method := { name := "<init>", desc := "()V", sig := { parameters := [], returnType := none }, accessFlags := 1, code := none }
def k1c1 : Code := { maxStack := 2, maxLocals := 1, code := method_2_code, exceptionTable := #[], attributes := #[] }
def k1m1 : Method := { name := "pick", desc := "(I)Lcom/example/tagwire/tagwire/StorageClass;", sig := { parameters := [.int], returnType := some (.object "com/example/tagwire/tagwire/StorageClass") }, accessFlags := 10, code := some k1c1 }
def k1c2 : Code := { maxStack := 2, maxLocals := 7, code := code, exceptionTable := #[], attributes := #[] }
def k1m2 : Method := { name := "law", desc := "(II)Z", sig := { parameters := [.int, .int], returnType := some .boolean }, accessFlags := 9, code := some k1c2 }
/-- com/example/tagwire/tagwire/StorageClassTypeCodePinLaw -/
def k1 : Class := { plain "com/example/tagwire/tagwire/StorageClassTypeCodePinLaw" (some 0) with
  accessFlags := 49
  interfaces := #[]
  cf := some (fileOf pool1 35 #[] #[{ accessFlags := 1, nameIndex := 5, descriptorIndex := 6, attributes := #[] }, { accessFlags := 10, nameIndex := 38, descriptorIndex := 39, attributes := #[] }, { accessFlags := 9, nameIndex := 47, descriptorIndex := 48, attributes := #[] }] 49 2 #[] #[])
  fields := #[]
  methods := #[k1m0, k1m1, k1m2]
  instanceTypes := #[]
  staticTypes := #[]
  resolved := Array.replicate 51 none
  statics := none }

def pool2 : Array CpInfo := pool [(1, .class_ 2), (0, u "java/lang/constant/Constable"), (0, .class_ 4), (0, u "java/lang/Object")] 6

/-- java/lang/constant/Constable -/
def k2 : Class := { plain "java/lang/constant/Constable" (some 0) with
  accessFlags := 1537
  interfaces := #[]
  cf := some (fileOf pool2 1 #[] #[] 1537 3 #[] #[])
  fields := #[]
  methods := #[]
  instanceTypes := #[]
  staticTypes := #[]
  resolved := Array.replicate 11 none
  statics := none }

def pool3 : Array CpInfo := pool [(1, .class_ 2), (0, u "java/lang/Comparable"), (0, .class_ 4), (0, u "java/lang/Object")] 7

/-- java/lang/Comparable -/
def k3 : Class := { plain "java/lang/Comparable" (some 0) with
  accessFlags := 1537
  interfaces := #[]
  cf := some (fileOf pool3 1 #[] #[] 1537 3 #[] #[])
  fields := #[]
  methods := #[]
  instanceTypes := #[]
  staticTypes := #[]
  resolved := Array.replicate 12 none
  statics := none }

def pool4 : Array CpInfo := pool [(1, .class_ 2), (0, u "java/io/Serializable"), (0, .class_ 4), (0, u "java/lang/Object")] 2

/-- java/io/Serializable -/
def k4 : Class := { plain "java/io/Serializable" (some 0) with
  accessFlags := 1537
  interfaces := #[]
  cf := some (fileOf pool4 1 #[] #[] 1537 3 #[] #[])
  fields := #[]
  methods := #[]
  instanceTypes := #[]
  staticTypes := #[]
  resolved := Array.replicate 7 none
  statics := none }

def pool5 : Array CpInfo := pool [(2, .class_ 4), (1, u "java/lang/Enum"), (0, u "name"), (0, u "Ljava/lang/String;"), (2, u "ordinal"), (0, u "I"), (1, .class_ 14), (1, u "java/lang/Object"), (4, u "hash"), (86, .class_ 108), (1, u "java/lang/Enum$EnumDesc"), (2, .class_ 112), (0, u "java/lang/constant/Constable"), (0, .class_ 114), (0, u "java/lang/Comparable"), (0, .class_ 116), (0, u "java/io/Serializable")] 87

/-- java/lang/Enum -/
def k5 : Class := { plain "java/lang/Enum" (some 0) with
  accessFlags := 1057
  interfaces := #[2, 3, 4]
  cf := some (fileOf pool5 2 #[.nestMembers #[106]] #[] 1057 12 #[111, 113, 115] #[{ accessFlags := 18, nameIndex := 5, descriptorIndex := 6, attributes := #[] }, { accessFlags := 18, nameIndex := 9, descriptorIndex := 10, attributes := #[] }, { accessFlags := 2, nameIndex := 19, descriptorIndex := 10, attributes := #[] }])
  fields := #[{ name := "name", type := (.object "java/lang/String"), accessFlags := 18, slot := 0, constantValue := 0 }, { name := "ordinal", type := .int, accessFlags := 18, slot := 1, constantValue := 0 }, { name := "hash", type := .int, accessFlags := 2, slot := 2, constantValue := 0 }]
  methods := #[]
  instanceTypes := #[(.object "java/lang/String"), .int, .int]
  staticTypes := #[]
  resolved := Array.replicate 204 none
  statics := none }

def pool6 : Array CpInfo := pool [(1, .class_ 2), (0, u "com/example/tagwire/tagwire/StorageClass"), (2, u "NOBYTES"), (0, u "Lcom/example/tagwire/tagwire/StorageClass;"), (2, u "BYTE"), (2, u "WORD"), (2, u "DWORD"), (2, u "QWORD"), (2, u "STRING"), (2, u "BLOB"), (2, u "CONTAINER"), (2, u "$VALUES"), (0, u "[Lcom/example/tagwire/tagwire/StorageClass;"), (6, .class_ 40), (1, u "java/lang/Enum"), (24, u "label"), (0, u "Ljava/lang/String;"), (0, .fieldref 1 68), (0, .nameAndType 69 70), (0, u "bits"), (0, u "I"), (2, u "width"), (2, u "BY_BITS"), (28, u "MAX_SUBTYPE"), (2, u "TWO_BYTE_TYPE"), (1, u "TWO_BYTE_SUBTYPES"), (7, u "typeCode"), (0, u "(I)I")] 25

def k6c0 : Code := { maxStack := 2, maxLocals := 2, code := prog_47_method_6_code, exceptionTable := #[], attributes := #[] }
def k6m0 : Method := { name := "typeCode", desc := "(I)I", sig := { parameters := [.int], returnType := some .int }, accessFlags := 0, code := some k6c0 }
/-- com/example/tagwire/tagwire/StorageClass -/
def k6 : Class := { plain "com/example/tagwire/tagwire/StorageClass" (some 5) with
  accessFlags := 16433
  interfaces := #[]
  cf := some (fileOf pool6 1 #[] #[{ accessFlags := 0, nameIndex := 118, descriptorIndex := 119, attributes := #[] }] 16433 38 #[] #[{ accessFlags := 16409, nameIndex := 5, descriptorIndex := 6, attributes := #[] }, { accessFlags := 16409, nameIndex := 9, descriptorIndex := 6, attributes := #[] }, { accessFlags := 16409, nameIndex := 12, descriptorIndex := 6, attributes := #[] }, { accessFlags := 16409, nameIndex := 15, descriptorIndex := 6, attributes := #[] }, { accessFlags := 16409, nameIndex := 18, descriptorIndex := 6, attributes := #[] }, { accessFlags := 16409, nameIndex := 21, descriptorIndex := 6, attributes := #[] }, { accessFlags := 16409, nameIndex := 24, descriptorIndex := 6, attributes := #[] }, { accessFlags := 16409, nameIndex := 27, descriptorIndex := 6, attributes := #[] }, { accessFlags := 24, nameIndex := 105, descriptorIndex := 70, attributes := #[] }, { accessFlags := 24, nameIndex := 108, descriptorIndex := 70, attributes := #[] }, { accessFlags := 24, nameIndex := 110, descriptorIndex := 70, attributes := #[] }, { accessFlags := 26, nameIndex := 76, descriptorIndex := 31, attributes := #[] }, { accessFlags := 18, nameIndex := 69, descriptorIndex := 70, attributes := #[] }, { accessFlags := 18, nameIndex := 73, descriptorIndex := 70, attributes := #[] }, { accessFlags := 18, nameIndex := 65, descriptorIndex := 66, attributes := #[] }, { accessFlags := 4122, nameIndex := 30, descriptorIndex := 31, attributes := #[] }])
  fields := #[{ name := "NOBYTES", type := (.object "com/example/tagwire/tagwire/StorageClass"), accessFlags := 16409, slot := 0, constantValue := 0 }, { name := "BYTE", type := (.object "com/example/tagwire/tagwire/StorageClass"), accessFlags := 16409, slot := 1, constantValue := 0 }, { name := "WORD", type := (.object "com/example/tagwire/tagwire/StorageClass"), accessFlags := 16409, slot := 2, constantValue := 0 }, { name := "DWORD", type := (.object "com/example/tagwire/tagwire/StorageClass"), accessFlags := 16409, slot := 3, constantValue := 0 }, { name := "QWORD", type := (.object "com/example/tagwire/tagwire/StorageClass"), accessFlags := 16409, slot := 4, constantValue := 0 }, { name := "STRING", type := (.object "com/example/tagwire/tagwire/StorageClass"), accessFlags := 16409, slot := 5, constantValue := 0 }, { name := "BLOB", type := (.object "com/example/tagwire/tagwire/StorageClass"), accessFlags := 16409, slot := 6, constantValue := 0 }, { name := "CONTAINER", type := (.object "com/example/tagwire/tagwire/StorageClass"), accessFlags := 16409, slot := 7, constantValue := 0 }, { name := "MAX_SUBTYPE", type := .int, accessFlags := 24, slot := 8, constantValue := 0 }, { name := "TWO_BYTE_TYPE", type := .int, accessFlags := 24, slot := 9, constantValue := 0 }, { name := "TWO_BYTE_SUBTYPES", type := .int, accessFlags := 24, slot := 10, constantValue := 0 }, { name := "BY_BITS", type := (.array (.object "com/example/tagwire/tagwire/StorageClass")), accessFlags := 26, slot := 11, constantValue := 0 }, { name := "bits", type := .int, accessFlags := 18, slot := 3, constantValue := 0 }, { name := "width", type := .int, accessFlags := 18, slot := 4, constantValue := 0 }, { name := "label", type := (.object "java/lang/String"), accessFlags := 18, slot := 5, constantValue := 0 }, { name := "$VALUES", type := (.array (.object "com/example/tagwire/tagwire/StorageClass")), accessFlags := 4122, slot := 12, constantValue := 0 }]
  methods := #[k6m0]
  instanceTypes := #[(.object "java/lang/String"), .int, .int, .int, .int, (.object "java/lang/String")]
  staticTypes := #[(.object "com/example/tagwire/tagwire/StorageClass"), (.object "com/example/tagwire/tagwire/StorageClass"), (.object "com/example/tagwire/tagwire/StorageClass"), (.object "com/example/tagwire/tagwire/StorageClass"), (.object "com/example/tagwire/tagwire/StorageClass"), (.object "com/example/tagwire/tagwire/StorageClass"), (.object "com/example/tagwire/tagwire/StorageClass"), (.object "com/example/tagwire/tagwire/StorageClass"), .int, .int, .int, (.array (.object "com/example/tagwire/tagwire/StorageClass")), (.array (.object "com/example/tagwire/tagwire/StorageClass"))]
  resolved := Array.replicate 145 none
  statics := some 0 }

def pool7 : Array CpInfo := pool [(1, u "java/lang/Cloneable"), (0, .class_ 1), (0, u "java/lang/Object"), (0, .class_ 3)] 3

/-- java/lang/Cloneable -/
def k7 : Class := { plain "java/lang/Cloneable" (some 0) with
  accessFlags := 1537
  interfaces := #[]
  cf := some (fileOf pool7 2 #[] #[] 1537 4 #[] #[])
  fields := #[]
  methods := #[]
  instanceTypes := #[]
  staticTypes := #[]
  resolved := Array.replicate 8 none
  statics := none }

/-- the primitive byte -/
def k8 : Class := { plain "byte" none with kind := .primitive 'B', accessFlags := 0x411 }
/-- [B -/
def k9 : Class := { plain "[B" (some 0) with kind := .array 8 .byte, interfaces := #[7, 4], accessFlags := 1041 }

/-- the primitive int -/
def k10 : Class := { plain "int" none with kind := .primitive 'I', accessFlags := 0x411 }
/-- [I -/
def k11 : Class := { plain "[I" (some 0) with kind := .array 10 .int, interfaces := #[7, 4], accessFlags := 1041 }

def heap : Heap := #[{ cls := 6, slots := #[.ref 1, .ref 2, .ref 3, .ref 4, .ref 5, .ref 6, .ref 7, .ref 8, .int 0, .int 0, .int 0, .null, .null], vm := .statics 6 },
  { cls := 6, slots := #[.null, .int 0, .int 0, .int 0, .int 0, .null], vm := .none },
  { cls := 6, slots := #[.null, .int 1, .int 0, .int 32, .int 0, .null], vm := .none },
  { cls := 6, slots := #[.null, .int 2, .int 0, .int 64, .int 0, .null], vm := .none },
  { cls := 6, slots := #[.null, .int 3, .int 0, .int 96, .int 0, .null], vm := .none },
  { cls := 6, slots := #[.null, .int 4, .int 0, .int 128, .int 0, .null], vm := .none },
  { cls := 6, slots := #[.null, .int 5, .int 0, .int 160, .int 0, .null], vm := .none },
  { cls := 6, slots := #[.null, .int 6, .int 0, .int 192, .int 0, .null], vm := .none },
  { cls := 6, slots := #[.null, .int 7, .int 0, .int 224, .int 0, .null], vm := .none }]
def classes : Array Class := #[k0, k1, k2, k3, k4, k5, k6, k7, k8, k9, k10, k11]
def interned : List (Array UInt16 × Addr) := []
def slotsUsed : Nat := 61
def theMethod : MethodId := ⟨1, 2⟩
def args0 : Array Value := #[.int 5, .int 300]
def aboutOver (below : List Frame) : State where
  vm := { classes := classes, interned := interned.toArray }
  heap := heap
  slotsUsed := slotsUsed
  threads := #[{ frames := .invoking theMethod args0 :: below }]
def below0 : List Frame := [.native { method := ⟨0, 0⟩, args := #[] }]
def about1 : State := aboutOver below0
def p0 : Program := .bare "" "" ""
def e0 : Env := launch0.env 0 0 0
theorem w_frames : about1.frames = Frame.invoking theMethod args0 :: below0 := rfl
set_option maxRecDepth 65536 in
theorem w_args : argsFit about1.vm theMethod args0 = true := by decide +kernel
set_option maxRecDepth 65536 in
theorem w_heap : heapFits about1 = true := by decide +kernel
set_option maxRecDepth 65536 in
theorem w_runnable : about1.curStatus? = some .runnable := by decide +kernel
set_option maxRecDepth 65536 in
theorem w_alone : about1.alone = true := by decide +kernel
set_option maxRecDepth 65536 in
theorem w_named : about1.methodNamed? x = some theMethod := by decide +kernel
set_option maxRecDepth 65536 in
theorem w_hears : about1.hears theMethod below0 = true := by decide +kernel
set_option maxRecDepth 65536 in
theorem w_ripe : about1.ripe theMethod args0 below0 = true := by decide +kernel
theorem w_running : about1.status = .running := rfl
set_option maxRecDepth 65536 in
theorem w_room : about1.hasRoom e0.platform room_1 = true :=
  launch0.hasRoom_least _ room_1 (by decide +kernel) (by decide +kernel) (by decide +kernel) (by decide +kernel) (by decide +kernel) (by decide +kernel)
theorem allAtoms_all (ts : List Jvm.Cond) (a : Array Jvm.Value) (st : Jvm.State) : (allAtoms ts).before a st = ts.all (fun c => c.before a st) := by
  induction ts with
  | nil => rfl
  | cons c t ih =>
    show (Jvm.Cond.and c (allAtoms t)).before a st = _
    rw [Jvm.Cond.before_and, ih, List.all_cons]
def words1 : List Jvm.Cond := Jvm.Cond.code x code maxLocals ret :: tables_1
/-- a 'code' word, met by the world's own term for the bytes: nothing is compared byte by byte -/
theorem code_word {y : MethodName} {bytes : ByteArray} {mx : Nat} {rt : Option FieldType} {a : Array Value} {s : State} {m : MethodId} {meth : Method} {c : Code} (h1 : s.methodNamed? y = some m) (h2 : s.vm.method? m = some meth) (h3 : meth.code = some c) (h4 : c.code = bytes)
    (h5 : (c.maxLocals == mx && c.exceptionTable.isEmpty && decide (c.maxStack ≤ mostOperands) && decide (meth.sig.returnType = rt) && !meth.locks && decide (parseMethodDescriptor y.desc = some meth.sig)) = true) : (Jvm.Cond.code y bytes mx rt).before a s = true := by
  simp only [Bool.and_eq_true, beq_iff_eq, Bool.not_eq_true', decide_eq_true_eq] at h5
  obtain ⟨⟨⟨⟨⟨g1, g2⟩, g3⟩, g4⟩, g5⟩, g6⟩ := h5
  simp [Cond.before, Cond.holds, Cond.value, h1, h2, h3, h4, g1, g2, g3, g4, g5, g6]
def isCode : Jvm.Cond → Bool
  | .code _ _ _ _ => true
  | _ => false
theorem all_split {L : List Jvm.Cond} {P : Jvm.Cond → Bool} (h1 : L.all (fun c => isCode c || P c) = true) (h2 : ∀ c ∈ L.filter isCode, P c = true) : L.all P = true := by
  refine List.all_eq_true.mpr fun c hc => ?_
  have h := List.all_eq_true.mp h1 c hc
  rcases Bool.eq_false_or_eq_true (isCode c) with hi | hi
  · exact h2 c (List.mem_filter.mpr ⟨hc, hi⟩)
  · simpa [hi] using h
set_option maxRecDepth 65536 in
theorem w_c0 : (Jvm.Cond.code x code maxLocals ret).before args0 about1 = true := code_word (m := ⟨1, 2⟩) (meth := k1m2) (c := k1c2) (by decide +kernel) rfl rfl rfl (by decide +kernel)
set_option maxRecDepth 65536 in
theorem w_c1 : (Jvm.Cond.code ({ cls := "com/example/tagwire/tagwire/StorageClassTypeCodePinLaw", name := "pick", desc := "(I)Lcom/example/tagwire/tagwire/StorageClass;" } : Jvm.MethodName) method_2_code (1 : Nat) (Option.some (Jvm.ClassFile.FieldType.object "com/example/tagwire/tagwire/StorageClass"))).before args0 about1 = true := code_word (m := ⟨1, 1⟩) (meth := k1m1) (c := k1c1) (by decide +kernel) rfl rfl rfl (by decide +kernel)
set_option maxRecDepth 65536 in
theorem w_c2 : (Jvm.Cond.code ({ cls := "com/example/tagwire/tagwire/StorageClass", name := "typeCode", desc := "(I)I" } : Jvm.MethodName) prog_47_method_6_code (2 : Nat) (Option.some Jvm.ClassFile.FieldType.int)).before args0 about1 = true := code_word (m := ⟨6, 0⟩) (meth := k6m0) (c := k6c0) (by decide +kernel) rfl rfl rfl (by decide +kernel)
def codes1 : List Jvm.Cond := [Jvm.Cond.code x code maxLocals ret, Jvm.Cond.code ({ cls := "com/example/tagwire/tagwire/StorageClassTypeCodePinLaw", name := "pick", desc := "(I)Lcom/example/tagwire/tagwire/StorageClass;" } : Jvm.MethodName) method_2_code (1 : Nat) (Option.some (Jvm.ClassFile.FieldType.object "com/example/tagwire/tagwire/StorageClass")), Jvm.Cond.code ({ cls := "com/example/tagwire/tagwire/StorageClass", name := "typeCode", desc := "(I)I" } : Jvm.MethodName) prog_47_method_6_code (2 : Nat) (Option.some Jvm.ClassFile.FieldType.int)]
set_option maxRecDepth 65536 in
theorem codes_eq : words1.filter isCode = codes1 := rfl
theorem w_codes : ∀ c ∈ words1.filter isCode, c.before args0 about1 = true := by
  rw [codes_eq]
  intro c hc
  simp only [codes1, List.mem_cons, List.not_mem_nil, or_false] at hc
  rcases hc with rfl | rfl | rfl
  · exact w_c0
  · exact w_c1
  · exact w_c2
set_option maxRecDepth 65536 in
theorem w_t1 : (words1.take 24).all (fun c => isCode c || c.before args0 about1) = true := by decide +kernel
set_option maxRecDepth 65536 in
theorem w_t2 : (words1.drop 24).all (fun c => isCode c || c.before args0 about1) = true := by decide +kernel
theorem w_tables : (allAtoms (Jvm.Cond.code x code maxLocals ret :: tables_1)).before args0 about1 = true := by
  rw [allAtoms_all]
  show words1.all (fun c => c.before args0 about1) = true
  refine all_split ?_ w_codes
  rw [← List.take_append_drop 24 words1, List.all_append, w_t1, w_t2]
  rfl
set_option maxRecDepth 65536 in
theorem w_case : (Jvm.Cond.and given_1 narrow_1).before args0 about1 = true := by decide +kernel
theorem w_applies : (headSpec (Jvm.Cond.code x code maxLocals ret :: tables_1) room_1).applies x e0.platform about1 = true :=
  (Spec.applies_iff w_frames).mpr ⟨w_running, w_runnable, w_alone, w_named, w_hears, w_ripe, w_room, w_tables⟩
theorem atStart : AtStart classFile x code maxLocals ret World_1 tables_1 room_1 Calls_1 rest_1 Pre_1 launch0 p0 e0 about1 theMethod args0 below0 :=
  ⟨lists_1, trivial, launch0.admits_env _ _ _, launch0.least_env, fairChoices_fair.cas, fairChoices_fair.clock, w_frames, w_args, w_heap, w_applies, trivial, trivial, w_case⟩
end start1
theorem witness_1 : WitnessClaimed_1 := ⟨start1.p0, start1.e0, start1.about1, start1.theMethod, start1.args0, start1.below0, start1.atStart⟩
end Jvm.Pilot.@@N@@
