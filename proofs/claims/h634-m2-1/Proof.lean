import JvmDerived
import JvmDerived.Pilot.@@N@@Statement
import JvmDerived.Pilot.@@N@@Code
set_option linter.unusedVariables false
set_option linter.unusedSimpArgs false
namespace Jvm.Pilot.@@N@@
open Jvm Jvm.ClassFile Sem Op Lib Jvm.Free Jvm.Stand Jvm.LawKit Jvm.RoadKit Bundle Jvm.Pilot.@@N@@.Jvm.D
section OwnKit
variable {p : Program} {l : Launch} {e : Env} {R : Room} {s : State} {m : MethodId} {args : Array Value} {below : List Frame} {meth : Method} {c : Code} {T S S' : State} {locs : List Loc} {cells slots : Nat} {F : Outcome → State → Prop}
def Go (p : Program) (e : Env) (below : List Frame) (S : State) (F : Outcome → State → Prop) : Prop := ∃ (U : State) (o : Outcome), Steps p.tables e below S U ∧ U.status = .running ∧ Ended U below o ∧ F o U
theorem goIn {g g' : JFrame} (q : g = g') (k : Go p e below (T.setTop g') F) : ∃ (U : State) (o : Outcome), Steps p.tables e below (T.setTop g) U ∧ U.status = .running ∧ Ended U below o ∧ F o U := q ▸ k
theorem Go.by (st : ∀ t, Steps p.tables e below S' t → Steps p.tables e below S t) (k : Go p e below S' F) : Go p e below S F := by
  obtain ⟨U, o, h1, h2⟩ := k
  exact ⟨U, o, st _ h1, h2⟩
theorem Go.at (st : Steps p.tables e below S S') (k : Go p e below S' F) : Go p e below S F := by
  obtain ⟨U, o, h1, h2⟩ := k
  exact ⟨U, o, st.trans h1, h2⟩
theorem goRet {W : Option Value → Heap → List Loc → Prop} {C N : Nat} {v : Option Value} {g : JFrame} (X : Stand p l e R s m args below meth c T locs cells slots) (hv : meth.sig.returnType = none → v = none) (hlk : meth.locks = false)
    (hst : ∀ fs, (∀ (f : JFrame) (acts : List Action), f.method = m → f.locked = none → f.entered = [] → (doReturn e (T.setTop f) acts v).1 = T.setFrames fs) → Steps p.tables e below (T.setTop g) (T.setFrames fs))
    (hc : cells ≤ C) (hs : slots ≤ N) (hq : W v T.heap locs) : Go p e below (T.setTop g) (fun o U => ∃ v L, o = .returned v ∧ W v U.heap L ∧ FrameEnd s o U L C N) := by
  obtain ⟨fs, hr, hrun, hended, hW, hsame⟩ := X.leave (v := v) hv hlk
  exact ⟨_, _, hst fs hr, hrun, hended, _, _, rfl, hq, ⟨_, rfl⟩, hW, hsame.mono hc hs⟩
theorem goRetW {W : Option Value → Heap → List Loc → Prop} {C N n : Nat} {v : Option Value} {g : JFrame} {vm₁ : Vm} (X : Stand p l e R (s.setVm vm₁) m args below meth c T locs cells slots) (hS : s.Since vm₁ n) (hn : n ≤ T.heap.size) (hv : meth.sig.returnType = none → v = none) (hlk : meth.locks = false)
    (hst : ∀ fs, (∀ (f : JFrame) (acts : List Action), f.method = m → f.locked = none → f.entered = [] → (doReturn e (T.setTop f) acts v).1 = T.setFrames fs) → Steps p.tables e below (T.setTop g) (T.setFrames fs))
    (hc : cells ≤ C) (hs : slots ≤ N) (hq : W v T.heap locs) : Go p e below (T.setTop g) (fun o U => ∃ v L, o = .returned v ∧ W v U.heap L ∧ ReturnedEndW s o U L C N) := by
  obtain ⟨fs, hr, hrun, hended, h1, h2, h3, h4⟩ := X.leaveW hS hn (v := v) hv hlk
  exact ⟨_, _, hst fs hr, hrun, hended, _, _, rfl, hq, h1, h2, h3, h4.mono hc hs⟩
/-- it returns w; nothing old is written; the heap is h0 -/
def PureQ (w : Option Value) (h0 : Heap) (n0 : Nat) (v : Option Value) (h : Heap) (L : List Loc) : Prop := v = w ∧ Fr n0 L ∧ h = h0
end OwnKit
theorem pd_0 : parseMethodDescriptor "(I)Z" = some ⟨[.int], some .boolean⟩ := by decide +kernel
theorem own_n1 : nar .boolean (1 : Int32) = 1 := by decide
theorem own_n0 : nar .boolean (0 : Int32) = 0 := by decide
def expF (c : Int32) : Int32 := if ¬ c < 97 ∧ ¬ 122 < c then 1 else if ¬ c < 65 ∧ ¬ 90 < c then 1 else if ¬ c < 48 ∧ ¬ 57 < c then 1 else if c = 33 ∨ c = 35 ∨ c = 36 ∨ c = 37 ∨ c = 38 ∨ c = 39 ∨ c = 42 ∨ c = 43 ∨ c = 45 ∨ c = 46 ∨ c = 94 ∨ c = 95 ∨ c = 96 ∨ c = 124 ∨ c = 126 then 1 else 0
theorem expF_01 (c : Int32) : expF c = 0 ∨ expF c = 1 := by
  unfold expF
  split
  · exact Or.inr rfl
  · split
    · exact Or.inr rfl
    · split
      · exact Or.inr rfl
      · split
        · exact Or.inr rfl
        · exact Or.inl rfl
theorem expF_big {c : Int32} (h : ¬ c < 128) : expF c = 0 := by
  have h' : 128 ≤ c.toInt := by
    rw [Int32.lt_iff_toInt_lt] at h
    have e : (128 : Int32).toInt = 128 := by decide
    rw [e] at h; omega
  unfold expF
  rw [if_neg, if_neg, if_neg, if_neg]
  · intro q
    rcases q with rfl | rfl | rfl | rfl | rfl | rfl | rfl | rfl | rfl | rfl | rfl | rfl | rfl | rfl | rfl <;> exact h (by decide)
  · rintro ⟨-, q⟩
    rw [Int32.lt_iff_toInt_lt] at q
    have e : (57 : Int32).toInt = 57 := by decide
    rw [e] at q; omega
  · rintro ⟨-, q⟩
    rw [Int32.lt_iff_toInt_lt] at q
    have e : (90 : Int32).toInt = 90 := by decide
    rw [e] at q; omega
  · rintro ⟨-, q⟩
    rw [Int32.lt_iff_toInt_lt] at q
    have e : (122 : Int32).toInt = 122 := by decide
    rw [e] at q; omega
theorem own_same (c : Int32) : (if c < 128 then expF c else 0) = expF c := by
  by_cases h : c < 128
  · rw [if_pos h]
  · rw [if_neg h, expF_big h]
theorem own_in {cl : Cell} (sz : cl.slots.size = 128) {j : Int32} (h1 : ¬ j < 0) (h2 : j < 128) : ¬ (j < 0 ∨ cl.slots.size ≤ j.toNatClampNeg) := by
  rw [sz]
  rintro (q | q)
  · exact h1 q
  · have := nat_of h1
    rw [Int32.lt_iff_toInt_lt] at h2
    have e : (128 : Int32).toInt = 128 := by decide
    rw [e] at h2; omega
theorem ef_rm1 (m : MethodId) (x0 : Int32) : entryFrame m #[(.int x0)] 1 = mkF m 0 #[.val (.int x0)] [] := by first | (simp [entryFrame, mkF, argsToLocals, Value.category]; done) | rfl
theorem pn_rm1 : plainName "com/example/upright_balancer/uprightbalancer/traffic/MessageHead" = true := by first | (simp [plainName, overriddenIn]; done) | decide +kernel
theorem d1_0 : decode prog_80_method_20_code 0 = .ok (.iload_n 0, 1) := by decide +kernel
theorem d1_1 : decode prog_80_method_20_code 1 = .ok (.getstatic 194, 3) := by decide +kernel
theorem d1_4 : decode prog_80_method_20_code 4 = .ok (.arraylength, 1) := by decide +kernel
theorem d1_5 : decode prog_80_method_20_code 5 = .ok (.if_icmp .ge 15, 3) := by decide +kernel
theorem d1_8 : decode prog_80_method_20_code 8 = .ok (.getstatic 194, 3) := by decide +kernel
theorem d1_11 : decode prog_80_method_20_code 11 = .ok (.iload_n 0, 1) := by decide +kernel
theorem d1_12 : decode prog_80_method_20_code 12 = .ok (.baload, 1) := by decide +kernel
theorem d1_13 : decode prog_80_method_20_code 13 = .ok (.ifCond .eq 7, 3) := by decide +kernel
theorem d1_16 : decode prog_80_method_20_code 16 = .ok (.iconst 1, 1) := by decide +kernel
theorem d1_17 : decode prog_80_method_20_code 17 = .ok (.goto 4, 3) := by decide +kernel
theorem d1_20 : decode prog_80_method_20_code 20 = .ok (.iconst 0, 1) := by decide +kernel
theorem d1_21 : decode prog_80_method_20_code 21 = .ok (.ireturn, 1) := by decide +kernel
set_option maxRecDepth 65536 in
set_option maxHeartbeats 40000000 in
theorem rm1 (l : Launch) (Z : State) (a0 : Array Value) (hw : ∀ d ∈ tables_1, d.before a0 Z = true) (ws : List Jvm.Cond) (c_ : Int32) (t : Addr) (cl : Cell) (h0 : Heap) (n0 : Nat) (S : Sta Z h0 "com/example/upright_balancer/uprightbalancer/traffic/MessageHead" "TOKEN_CHARACTERS" "[Z" (.ref t)) (A : Arr Z h0 t cl .boolean) (sz : cl.slots.size = 128) (H : ∀ j : Int32, ¬ j < 0 → j < 128 → cl.slots[j.toNatClampNeg]? = some (.int (expF j))) (hc0 : ¬ c_ < 0) :
    MetFree l (⟨"com/example/upright_balancer/uprightbalancer/traffic/MessageHead", "isTokenCharacter", "(I)Z"⟩ : MethodName) (head1 (Jvm.Cond.code (⟨"com/example/upright_balancer/uprightbalancer/traffic/MessageHead", "isTokenCharacter", "(I)Z"⟩ : MethodName) prog_80_method_20_code 1 (some .boolean) :: ws) ({ frames := 0, cells := 0, slots := 0, locals := 0 } : Room)) (fun aa U => aa = #[(.int c_)] ∧ Z.Warmed39 U.vm ∧ U.heap = h0) (fun _ _ _ _ _ => True) (fun _ U o U' => ∃ v L, o = .returned v ∧ PureQ (some (.int (if c_ < 128 then expF c_ else 0))) h0 n0 v U'.heap L ∧ FrameEnd U o U' L ({ frames := 0, cells := 0, slots := 0, locals := 0 } : Room).cells ({ frames := 0, cells := 0, slots := 0, locals := 0 } : Room).slots) := by
  refine MetFree.of_bodySF (plainFor_of_name pn_rm1) hisR ?_
  intro p e s m args below meth c s₁ Bd hml0 hP hK
  obtain ⟨rfl, hZ, hh⟩ := hP
  have hx := Bd.exec
  have hby := Bd.bytes
  have hml : c.maxLocals = 1 := hml0
  have hown : s.vm.findClass "com/example/upright_balancer/uprightbalancer/traffic/MessageHead" = some m.cls := findClass_of_methodNamed Bd.named
  have hnm := (name_of_methodNamed Bd.named Bd.method).1
  have X0 : Stand p l e ({ frames := 0, cells := 0, slots := 0, locals := 0 } : Room) s m #[(.int c_)] below meth c s₁ [] 0 0 := Stand.of_body Bd
  have e0 : s₁.heap = h0 := by rw [← hh, Bd.state]; rfl
  have N0 := Fr.nil n0
  refine goIn (ef_rm1 m c_) ?_
  refine Go.by (S' := s₁.setTop (mkF m 1 #[.val (.int c_)] [(.int c_)])) (fun _ kt => XS.iloadN X0.here hx rfl (hb hby d1_0) rfl  kt) ?_
  obtain ⟨T1, X1, e1, st1⟩ := getS2 X0 hx hZ hown (host := "") (Or.inl (hw _ (List.mem_of_getElem? (i := 4) rfl))) Via.refl e0 S (g := (mkF m 1 #[.val (.int c_)] [(.int c_)])) rfl (hb hby d1_1)
  refine Go.by (S' := T1.setTop (mkF m 4 #[.val (.int c_)] [(.ref t), (.int c_)])) st1 ?_
  refine Go.by (S' := T1.setTop (mkF m 5 #[.val (.int c_)] [(.int cl.slots.size.toInt32), (.int c_)])) (fun _ kt => X1.arraylength hx (by rw [e1]; exact A.1) (State.isArrayOf_alike hZ.alike A.2.1) (g := (mkF m 4 #[.val (.int c_)] [(.ref t), (.int c_)])) rfl rfl (hb hby d1_4) _ kt) ?_
  rw [show cl.slots.size.toInt32 = (128 : Int32) from by rw [sz]; rfl]
  by_cases hc5_2 : c_ < (128 : Int32)
  · refine Go.by (S' := T1.setTop (mkF m 8 #[.val (.int c_)] [])) (fun _ kt => XS.icmpNo X1.here hx rfl (hb hby d1_5) rfl (XT.ii_ge_f hc5_2)  kt) ?_
    obtain ⟨T3, X3, e3, st3⟩ := getS2 X1 hx hZ hown (host := "") (Or.inl (hw _ (List.mem_of_getElem? (i := 4) rfl))) Via.refl e1 S (g := (mkF m 8 #[.val (.int c_)] [])) rfl (hb hby d1_8)
    refine Go.by (S' := T3.setTop (mkF m 11 #[.val (.int c_)] [(.ref t)])) st3 ?_
    refine Go.by (S' := T3.setTop (mkF m 12 #[.val (.int c_)] [(.int c_), (.ref t)])) (fun _ kt => XS.iloadN X3.here hx rfl (hb hby d1_11) rfl  kt) ?_
    refine Go.by (S' := T3.setTop (mkF m 13 #[.val (.int c_)] [(.int (expF c_))])) (fun _ kt => X3.baloadBooleans hx (j := c_) (v := .int (expF c_)) (by rw [e3]; exact A.1) (State.isArrayOf_alike hZ.alike A.2.1) A.2.2 (own_in sz hc0 hc5_2) (H c_ hc0 hc5_2) (g := (mkF m 12 #[.val (.int c_)] [(.int c_), (.ref t)])) rfl rfl (hb hby d1_12) _ kt) ?_
    by_cases hc13_4 : (expF c_) = (0 : Int32)
    · refine Go.by (S' := T3.setTop (mkF m 20 #[.val (.int c_)] [])) (fun _ kt => XS.ifYes X3.here hx rfl (pc0 := 13) (pc' := 20) rfl (hb hby d1_13) rfl (XT.i0_eq_t hc13_4) (by decide) (by decide)  kt) ?_
      refine Go.by (S' := T3.setTop (mkF m 21 #[.val (.int c_)] [(.int (0 : Int32))])) (fun _ kt => XT.iconstV X3.here hx rfl (0 : Int32) (hb hby d1_20) (by decide)  kt) ?_
      refine goRet X3 (v := some (.int (nar .boolean (0 : Int32)))) (fun h => by rw [Bd.returns] at h; cases h) Bd.notSynchronized (fun fs hr => retN X3 hx (t := .boolean) Bd.returns (by simp) (hb hby d1_21) hr) (by decide) (by decide) ?_
      exact ⟨by simp [own_n0, hc5_2, hc13_4], N0, e3⟩
    · refine Go.by (S' := T3.setTop (mkF m 16 #[.val (.int c_)] [])) (fun _ kt => XS.ifNo X3.here hx rfl (hb hby d1_13) rfl (XT.i0_eq_f hc13_4)  kt) ?_
      refine Go.by (S' := T3.setTop (mkF m 17 #[.val (.int c_)] [(.int (1 : Int32))])) (fun _ kt => XT.iconstV X3.here hx rfl (1 : Int32) (hb hby d1_16) (by decide)  kt) ?_
      refine Go.by (S' := T3.setTop (mkF m 21 #[.val (.int c_)] [(.int (1 : Int32))])) (fun _ kt => XS.goto X3.here hx rfl (pc0 := 17) (pc' := 21) rfl (hb hby d1_17) (by decide) (by decide)  kt) ?_
      refine goRet X3 (v := some (.int (nar .boolean (1 : Int32)))) (fun h => by rw [Bd.returns] at h; cases h) Bd.notSynchronized (fun fs hr => retN X3 hx (t := .boolean) Bd.returns (by simp) (hb hby d1_21) hr) (by decide) (by decide) ?_
      exact ⟨by simp [own_n1, hc5_2, (expF_01 c_).resolve_left hc13_4], N0, e3⟩
  · refine Go.by (S' := T1.setTop (mkF m 20 #[.val (.int c_)] [])) (fun _ kt => XS.icmpYes X1.here hx rfl (pc0 := 5) (pc' := 20) rfl (hb hby d1_5) rfl (XT.ii_ge_t hc5_2) (by decide) (by decide)  kt) ?_
    refine Go.by (S' := T1.setTop (mkF m 21 #[.val (.int c_)] [(.int (0 : Int32))])) (fun _ kt => XT.iconstV X1.here hx rfl (0 : Int32) (hb hby d1_20) (by decide)  kt) ?_
    refine goRet X1 (v := some (.int (nar .boolean (0 : Int32)))) (fun h => by rw [Bd.returns] at h; cases h) Bd.notSynchronized (fun fs hr => retN X1 hx (t := .boolean) Bd.returns (by simp) (hb hby d1_21) hr) (by decide) (by decide) ?_
    exact ⟨by simp [own_n0, hc5_2], N0, e1⟩
def e42 (c : Int32) : Int32 := if c = 33 ∨ c = 35 ∨ c = 36 ∨ c = 37 ∨ c = 38 ∨ c = 39 ∨ c = 42 ∨ c = 43 ∨ c = 45 ∨ c = 46 ∨ c = 94 ∨ c = 95 ∨ c = 96 ∨ c = 124 ∨ c = 126 then 1 else 0
def e28 (c : Int32) : Int32 := if ¬ c < 48 ∧ ¬ 57 < c then 1 else e42 c
def e14 (c : Int32) : Int32 := if ¬ c < 65 ∧ ¬ 90 < c then 1 else e28 c
theorem expF_eq (c : Int32) : expF c = if ¬ c < 97 ∧ ¬ 122 < c then 1 else e14 c := rfl
theorem ef_rm2 (m : MethodId) (x0 : Int32) : entryFrame m #[(.int x0)] 1 = mkF m 0 #[.val (.int x0)] [] := by first | (simp [entryFrame, mkF, argsToLocals, Value.category]; done) | rfl
theorem pn_rm2 : plainName "com/example/upright_balancer/uprightbalancer/traffic/MessageHeadIsTokenCharacterPinLaw" = true := by first | (simp [plainName, overriddenIn]; done) | decide +kernel
theorem d2_0 : decode method_2_code 0 = .ok (.iload_n 0, 1) := by decide +kernel
theorem d2_1 : decode method_2_code 1 = .ok (.bipush 97, 2) := by decide +kernel
theorem d2_3 : decode method_2_code 3 = .ok (.if_icmp .lt 11, 3) := by decide +kernel
theorem d2_6 : decode method_2_code 6 = .ok (.iload_n 0, 1) := by decide +kernel
theorem d2_7 : decode method_2_code 7 = .ok (.bipush 122, 2) := by decide +kernel
theorem d2_9 : decode method_2_code 9 = .ok (.if_icmp .gt 5, 3) := by decide +kernel
theorem d2_12 : decode method_2_code 12 = .ok (.iconst 1, 1) := by decide +kernel
theorem d2_13 : decode method_2_code 13 = .ok (.ireturn, 1) := by decide +kernel
theorem d2_14 : decode method_2_code 14 = .ok (.iload_n 0, 1) := by decide +kernel
theorem d2_15 : decode method_2_code 15 = .ok (.bipush 65, 2) := by decide +kernel
theorem d2_17 : decode method_2_code 17 = .ok (.if_icmp .lt 11, 3) := by decide +kernel
theorem d2_20 : decode method_2_code 20 = .ok (.iload_n 0, 1) := by decide +kernel
theorem d2_21 : decode method_2_code 21 = .ok (.bipush 90, 2) := by decide +kernel
theorem d2_23 : decode method_2_code 23 = .ok (.if_icmp .gt 5, 3) := by decide +kernel
theorem d2_26 : decode method_2_code 26 = .ok (.iconst 1, 1) := by decide +kernel
theorem d2_27 : decode method_2_code 27 = .ok (.ireturn, 1) := by decide +kernel
theorem d2_28 : decode method_2_code 28 = .ok (.iload_n 0, 1) := by decide +kernel
theorem d2_29 : decode method_2_code 29 = .ok (.bipush 48, 2) := by decide +kernel
theorem d2_31 : decode method_2_code 31 = .ok (.if_icmp .lt 11, 3) := by decide +kernel
theorem d2_34 : decode method_2_code 34 = .ok (.iload_n 0, 1) := by decide +kernel
theorem d2_35 : decode method_2_code 35 = .ok (.bipush 57, 2) := by decide +kernel
theorem d2_37 : decode method_2_code 37 = .ok (.if_icmp .gt 5, 3) := by decide +kernel
theorem d2_40 : decode method_2_code 40 = .ok (.iconst 1, 1) := by decide +kernel
theorem d2_41 : decode method_2_code 41 = .ok (.ireturn, 1) := by decide +kernel
theorem d2_42 : decode method_2_code 42 = .ok (.iload_n 0, 1) := by decide +kernel
theorem d2_43 : decode method_2_code 43 = .ok (.bipush 33, 2) := by decide +kernel
theorem d2_45 : decode method_2_code 45 = .ok (.if_icmp .eq 87, 3) := by decide +kernel
theorem d2_48 : decode method_2_code 48 = .ok (.iload_n 0, 1) := by decide +kernel
theorem d2_49 : decode method_2_code 49 = .ok (.bipush 35, 2) := by decide +kernel
theorem d2_51 : decode method_2_code 51 = .ok (.if_icmp .eq 81, 3) := by decide +kernel
theorem d2_54 : decode method_2_code 54 = .ok (.iload_n 0, 1) := by decide +kernel
theorem d2_55 : decode method_2_code 55 = .ok (.bipush 36, 2) := by decide +kernel
theorem d2_57 : decode method_2_code 57 = .ok (.if_icmp .eq 75, 3) := by decide +kernel
theorem d2_60 : decode method_2_code 60 = .ok (.iload_n 0, 1) := by decide +kernel
theorem d2_61 : decode method_2_code 61 = .ok (.bipush 37, 2) := by decide +kernel
theorem d2_63 : decode method_2_code 63 = .ok (.if_icmp .eq 69, 3) := by decide +kernel
theorem d2_66 : decode method_2_code 66 = .ok (.iload_n 0, 1) := by decide +kernel
theorem d2_67 : decode method_2_code 67 = .ok (.bipush 38, 2) := by decide +kernel
theorem d2_69 : decode method_2_code 69 = .ok (.if_icmp .eq 63, 3) := by decide +kernel
theorem d2_72 : decode method_2_code 72 = .ok (.iload_n 0, 1) := by decide +kernel
theorem d2_73 : decode method_2_code 73 = .ok (.bipush 39, 2) := by decide +kernel
theorem d2_75 : decode method_2_code 75 = .ok (.if_icmp .eq 57, 3) := by decide +kernel
theorem d2_78 : decode method_2_code 78 = .ok (.iload_n 0, 1) := by decide +kernel
theorem d2_79 : decode method_2_code 79 = .ok (.bipush 42, 2) := by decide +kernel
theorem d2_81 : decode method_2_code 81 = .ok (.if_icmp .eq 51, 3) := by decide +kernel
theorem d2_84 : decode method_2_code 84 = .ok (.iload_n 0, 1) := by decide +kernel
theorem d2_85 : decode method_2_code 85 = .ok (.bipush 43, 2) := by decide +kernel
theorem d2_87 : decode method_2_code 87 = .ok (.if_icmp .eq 45, 3) := by decide +kernel
theorem d2_90 : decode method_2_code 90 = .ok (.iload_n 0, 1) := by decide +kernel
theorem d2_91 : decode method_2_code 91 = .ok (.bipush 45, 2) := by decide +kernel
theorem d2_93 : decode method_2_code 93 = .ok (.if_icmp .eq 39, 3) := by decide +kernel
theorem d2_96 : decode method_2_code 96 = .ok (.iload_n 0, 1) := by decide +kernel
theorem d2_97 : decode method_2_code 97 = .ok (.bipush 46, 2) := by decide +kernel
theorem d2_99 : decode method_2_code 99 = .ok (.if_icmp .eq 33, 3) := by decide +kernel
theorem d2_102 : decode method_2_code 102 = .ok (.iload_n 0, 1) := by decide +kernel
theorem d2_103 : decode method_2_code 103 = .ok (.bipush 94, 2) := by decide +kernel
theorem d2_105 : decode method_2_code 105 = .ok (.if_icmp .eq 27, 3) := by decide +kernel
theorem d2_108 : decode method_2_code 108 = .ok (.iload_n 0, 1) := by decide +kernel
theorem d2_109 : decode method_2_code 109 = .ok (.bipush 95, 2) := by decide +kernel
theorem d2_111 : decode method_2_code 111 = .ok (.if_icmp .eq 21, 3) := by decide +kernel
theorem d2_114 : decode method_2_code 114 = .ok (.iload_n 0, 1) := by decide +kernel
theorem d2_115 : decode method_2_code 115 = .ok (.bipush 96, 2) := by decide +kernel
theorem d2_117 : decode method_2_code 117 = .ok (.if_icmp .eq 15, 3) := by decide +kernel
theorem d2_120 : decode method_2_code 120 = .ok (.iload_n 0, 1) := by decide +kernel
theorem d2_121 : decode method_2_code 121 = .ok (.bipush 124, 2) := by decide +kernel
theorem d2_123 : decode method_2_code 123 = .ok (.if_icmp .eq 9, 3) := by decide +kernel
theorem d2_126 : decode method_2_code 126 = .ok (.iload_n 0, 1) := by decide +kernel
theorem d2_127 : decode method_2_code 127 = .ok (.bipush 126, 2) := by decide +kernel
theorem d2_129 : decode method_2_code 129 = .ok (.if_icmp .ne 7, 3) := by decide +kernel
theorem d2_132 : decode method_2_code 132 = .ok (.iconst 1, 1) := by decide +kernel
theorem d2_133 : decode method_2_code 133 = .ok (.goto 4, 3) := by decide +kernel
theorem d2_136 : decode method_2_code 136 = .ok (.iconst 0, 1) := by decide +kernel
theorem d2_137 : decode method_2_code 137 = .ok (.ireturn, 1) := by decide +kernel
set_option maxRecDepth 65536 in
set_option maxHeartbeats 40000000 in
theorem rm2 (l : Launch) (Z : State) (a0 : Array Value) (hw : ∀ d ∈ tables_1, d.before a0 Z = true) (ws : List Jvm.Cond) (c_ : Int32)  (h0 : Heap) (n0 : Nat) :
    MetFree l (⟨"com/example/upright_balancer/uprightbalancer/traffic/MessageHeadIsTokenCharacterPinLaw", "expected", "(I)Z"⟩ : MethodName) (head1 (Jvm.Cond.code (⟨"com/example/upright_balancer/uprightbalancer/traffic/MessageHeadIsTokenCharacterPinLaw", "expected", "(I)Z"⟩ : MethodName) method_2_code 1 (some .boolean) :: ws) ({ frames := 0, cells := 0, slots := 0, locals := 0 } : Room)) (fun aa U => aa = #[(.int c_)] ∧ Z.Warmed39 U.vm ∧ U.heap = h0) (fun _ _ _ _ _ => True) (fun _ U o U' => ∃ v L, o = .returned v ∧ PureQ (some (.int (expF c_))) h0 n0 v U'.heap L ∧ FrameEnd U o U' L ({ frames := 0, cells := 0, slots := 0, locals := 0 } : Room).cells ({ frames := 0, cells := 0, slots := 0, locals := 0 } : Room).slots) := by
  refine MetFree.of_bodySF (plainFor_of_name pn_rm2) hisR ?_
  intro p e s m args below meth c s₁ Bd hml0 hP hK
  obtain ⟨rfl, hZ, hh⟩ := hP
  have hx := Bd.exec
  have hby := Bd.bytes
  have hml : c.maxLocals = 1 := hml0
  have hown : s.vm.findClass "com/example/upright_balancer/uprightbalancer/traffic/MessageHeadIsTokenCharacterPinLaw" = some m.cls := findClass_of_methodNamed Bd.named
  have hnm := (name_of_methodNamed Bd.named Bd.method).1
  have X0 : Stand p l e ({ frames := 0, cells := 0, slots := 0, locals := 0 } : Room) s m #[(.int c_)] below meth c s₁ [] 0 0 := Stand.of_body Bd
  have e0 : s₁.heap = h0 := by rw [← hh, Bd.state]; rfl
  have N0 := Fr.nil n0
  have t42 : expF c_ = e42 c_ → Go p e below (s₁.setTop (mkF m 42 #[.val (.int c_)] [])) (fun o U => ∃ v L, o = Outcome.returned v ∧ PureQ (some (.int (expF c_))) h0 n0 v U.heap L ∧ FrameEnd s o U L ({ frames := 0, cells := 0, slots := 0, locals := 0 } : Room).cells ({ frames := 0, cells := 0, slots := 0, locals := 0 } : Room).slots) := by
    intro hE
    refine Go.by (S' := s₁.setTop (mkF m 43 #[.val (.int c_)] [(.int c_)])) (fun _ kt => XS.iloadN X0.here hx rfl (hb hby d2_42) rfl  kt) ?_
    refine Go.by (S' := s₁.setTop (mkF m 45 #[.val (.int c_)] [(.int (33 : Int32)), (.int c_)])) (fun _ kt => XT.bipushV X0.here hx rfl (33 : Int32) (hb hby d2_43) (by decide)  kt) ?_
    by_cases hc45_421 : c_ = (33 : Int32)
    · refine Go.by (S' := s₁.setTop (mkF m 132 #[.val (.int c_)] [])) (fun _ kt => XS.icmpYes X0.here hx rfl (pc0 := 45) (pc' := 132) rfl (hb hby d2_45) rfl (XT.ii_eq_t hc45_421) (by decide) (by decide)  kt) ?_
      refine Go.by (S' := s₁.setTop (mkF m 133 #[.val (.int c_)] [(.int (1 : Int32))])) (fun _ kt => XT.iconstV X0.here hx rfl (1 : Int32) (hb hby d2_132) (by decide)  kt) ?_
      refine Go.by (S' := s₁.setTop (mkF m 137 #[.val (.int c_)] [(.int (1 : Int32))])) (fun _ kt => XS.goto X0.here hx rfl (pc0 := 133) (pc' := 137) rfl (hb hby d2_133) (by decide) (by decide)  kt) ?_
      refine goRet X0 (v := some (.int (nar .boolean (1 : Int32)))) (fun h => by rw [Bd.returns] at h; cases h) Bd.notSynchronized (fun fs hr => retN X0 hx (t := .boolean) Bd.returns (by simp) (hb hby d2_137) hr) (by decide) (by decide) ?_
      exact ⟨by rw [hE]; simp [e42, own_n1, own_n0, hc45_421], N0, e0⟩
    · refine Go.by (S' := s₁.setTop (mkF m 48 #[.val (.int c_)] [])) (fun _ kt => XS.icmpNo X0.here hx rfl (hb hby d2_45) rfl (XT.ii_eq_f hc45_421)  kt) ?_
      refine Go.by (S' := s₁.setTop (mkF m 49 #[.val (.int c_)] [(.int c_)])) (fun _ kt => XS.iloadN X0.here hx rfl (hb hby d2_48) rfl  kt) ?_
      refine Go.by (S' := s₁.setTop (mkF m 51 #[.val (.int c_)] [(.int (35 : Int32)), (.int c_)])) (fun _ kt => XT.bipushV X0.here hx rfl (35 : Int32) (hb hby d2_49) (by decide)  kt) ?_
      by_cases hc51_422 : c_ = (35 : Int32)
      · refine Go.by (S' := s₁.setTop (mkF m 132 #[.val (.int c_)] [])) (fun _ kt => XS.icmpYes X0.here hx rfl (pc0 := 51) (pc' := 132) rfl (hb hby d2_51) rfl (XT.ii_eq_t hc51_422) (by decide) (by decide)  kt) ?_
        refine Go.by (S' := s₁.setTop (mkF m 133 #[.val (.int c_)] [(.int (1 : Int32))])) (fun _ kt => XT.iconstV X0.here hx rfl (1 : Int32) (hb hby d2_132) (by decide)  kt) ?_
        refine Go.by (S' := s₁.setTop (mkF m 137 #[.val (.int c_)] [(.int (1 : Int32))])) (fun _ kt => XS.goto X0.here hx rfl (pc0 := 133) (pc' := 137) rfl (hb hby d2_133) (by decide) (by decide)  kt) ?_
        refine goRet X0 (v := some (.int (nar .boolean (1 : Int32)))) (fun h => by rw [Bd.returns] at h; cases h) Bd.notSynchronized (fun fs hr => retN X0 hx (t := .boolean) Bd.returns (by simp) (hb hby d2_137) hr) (by decide) (by decide) ?_
        exact ⟨by rw [hE]; simp [e42, own_n1, own_n0, hc45_421, hc51_422], N0, e0⟩
      · refine Go.by (S' := s₁.setTop (mkF m 54 #[.val (.int c_)] [])) (fun _ kt => XS.icmpNo X0.here hx rfl (hb hby d2_51) rfl (XT.ii_eq_f hc51_422)  kt) ?_
        refine Go.by (S' := s₁.setTop (mkF m 55 #[.val (.int c_)] [(.int c_)])) (fun _ kt => XS.iloadN X0.here hx rfl (hb hby d2_54) rfl  kt) ?_
        refine Go.by (S' := s₁.setTop (mkF m 57 #[.val (.int c_)] [(.int (36 : Int32)), (.int c_)])) (fun _ kt => XT.bipushV X0.here hx rfl (36 : Int32) (hb hby d2_55) (by decide)  kt) ?_
        by_cases hc57_423 : c_ = (36 : Int32)
        · refine Go.by (S' := s₁.setTop (mkF m 132 #[.val (.int c_)] [])) (fun _ kt => XS.icmpYes X0.here hx rfl (pc0 := 57) (pc' := 132) rfl (hb hby d2_57) rfl (XT.ii_eq_t hc57_423) (by decide) (by decide)  kt) ?_
          refine Go.by (S' := s₁.setTop (mkF m 133 #[.val (.int c_)] [(.int (1 : Int32))])) (fun _ kt => XT.iconstV X0.here hx rfl (1 : Int32) (hb hby d2_132) (by decide)  kt) ?_
          refine Go.by (S' := s₁.setTop (mkF m 137 #[.val (.int c_)] [(.int (1 : Int32))])) (fun _ kt => XS.goto X0.here hx rfl (pc0 := 133) (pc' := 137) rfl (hb hby d2_133) (by decide) (by decide)  kt) ?_
          refine goRet X0 (v := some (.int (nar .boolean (1 : Int32)))) (fun h => by rw [Bd.returns] at h; cases h) Bd.notSynchronized (fun fs hr => retN X0 hx (t := .boolean) Bd.returns (by simp) (hb hby d2_137) hr) (by decide) (by decide) ?_
          exact ⟨by rw [hE]; simp [e42, own_n1, own_n0, hc45_421, hc51_422, hc57_423], N0, e0⟩
        · refine Go.by (S' := s₁.setTop (mkF m 60 #[.val (.int c_)] [])) (fun _ kt => XS.icmpNo X0.here hx rfl (hb hby d2_57) rfl (XT.ii_eq_f hc57_423)  kt) ?_
          refine Go.by (S' := s₁.setTop (mkF m 61 #[.val (.int c_)] [(.int c_)])) (fun _ kt => XS.iloadN X0.here hx rfl (hb hby d2_60) rfl  kt) ?_
          refine Go.by (S' := s₁.setTop (mkF m 63 #[.val (.int c_)] [(.int (37 : Int32)), (.int c_)])) (fun _ kt => XT.bipushV X0.here hx rfl (37 : Int32) (hb hby d2_61) (by decide)  kt) ?_
          by_cases hc63_424 : c_ = (37 : Int32)
          · refine Go.by (S' := s₁.setTop (mkF m 132 #[.val (.int c_)] [])) (fun _ kt => XS.icmpYes X0.here hx rfl (pc0 := 63) (pc' := 132) rfl (hb hby d2_63) rfl (XT.ii_eq_t hc63_424) (by decide) (by decide)  kt) ?_
            refine Go.by (S' := s₁.setTop (mkF m 133 #[.val (.int c_)] [(.int (1 : Int32))])) (fun _ kt => XT.iconstV X0.here hx rfl (1 : Int32) (hb hby d2_132) (by decide)  kt) ?_
            refine Go.by (S' := s₁.setTop (mkF m 137 #[.val (.int c_)] [(.int (1 : Int32))])) (fun _ kt => XS.goto X0.here hx rfl (pc0 := 133) (pc' := 137) rfl (hb hby d2_133) (by decide) (by decide)  kt) ?_
            refine goRet X0 (v := some (.int (nar .boolean (1 : Int32)))) (fun h => by rw [Bd.returns] at h; cases h) Bd.notSynchronized (fun fs hr => retN X0 hx (t := .boolean) Bd.returns (by simp) (hb hby d2_137) hr) (by decide) (by decide) ?_
            exact ⟨by rw [hE]; simp [e42, own_n1, own_n0, hc45_421, hc51_422, hc57_423, hc63_424], N0, e0⟩
          · refine Go.by (S' := s₁.setTop (mkF m 66 #[.val (.int c_)] [])) (fun _ kt => XS.icmpNo X0.here hx rfl (hb hby d2_63) rfl (XT.ii_eq_f hc63_424)  kt) ?_
            refine Go.by (S' := s₁.setTop (mkF m 67 #[.val (.int c_)] [(.int c_)])) (fun _ kt => XS.iloadN X0.here hx rfl (hb hby d2_66) rfl  kt) ?_
            refine Go.by (S' := s₁.setTop (mkF m 69 #[.val (.int c_)] [(.int (38 : Int32)), (.int c_)])) (fun _ kt => XT.bipushV X0.here hx rfl (38 : Int32) (hb hby d2_67) (by decide)  kt) ?_
            by_cases hc69_425 : c_ = (38 : Int32)
            · refine Go.by (S' := s₁.setTop (mkF m 132 #[.val (.int c_)] [])) (fun _ kt => XS.icmpYes X0.here hx rfl (pc0 := 69) (pc' := 132) rfl (hb hby d2_69) rfl (XT.ii_eq_t hc69_425) (by decide) (by decide)  kt) ?_
              refine Go.by (S' := s₁.setTop (mkF m 133 #[.val (.int c_)] [(.int (1 : Int32))])) (fun _ kt => XT.iconstV X0.here hx rfl (1 : Int32) (hb hby d2_132) (by decide)  kt) ?_
              refine Go.by (S' := s₁.setTop (mkF m 137 #[.val (.int c_)] [(.int (1 : Int32))])) (fun _ kt => XS.goto X0.here hx rfl (pc0 := 133) (pc' := 137) rfl (hb hby d2_133) (by decide) (by decide)  kt) ?_
              refine goRet X0 (v := some (.int (nar .boolean (1 : Int32)))) (fun h => by rw [Bd.returns] at h; cases h) Bd.notSynchronized (fun fs hr => retN X0 hx (t := .boolean) Bd.returns (by simp) (hb hby d2_137) hr) (by decide) (by decide) ?_
              exact ⟨by rw [hE]; simp [e42, own_n1, own_n0, hc45_421, hc51_422, hc57_423, hc63_424, hc69_425], N0, e0⟩
            · refine Go.by (S' := s₁.setTop (mkF m 72 #[.val (.int c_)] [])) (fun _ kt => XS.icmpNo X0.here hx rfl (hb hby d2_69) rfl (XT.ii_eq_f hc69_425)  kt) ?_
              refine Go.by (S' := s₁.setTop (mkF m 73 #[.val (.int c_)] [(.int c_)])) (fun _ kt => XS.iloadN X0.here hx rfl (hb hby d2_72) rfl  kt) ?_
              refine Go.by (S' := s₁.setTop (mkF m 75 #[.val (.int c_)] [(.int (39 : Int32)), (.int c_)])) (fun _ kt => XT.bipushV X0.here hx rfl (39 : Int32) (hb hby d2_73) (by decide)  kt) ?_
              by_cases hc75_426 : c_ = (39 : Int32)
              · refine Go.by (S' := s₁.setTop (mkF m 132 #[.val (.int c_)] [])) (fun _ kt => XS.icmpYes X0.here hx rfl (pc0 := 75) (pc' := 132) rfl (hb hby d2_75) rfl (XT.ii_eq_t hc75_426) (by decide) (by decide)  kt) ?_
                refine Go.by (S' := s₁.setTop (mkF m 133 #[.val (.int c_)] [(.int (1 : Int32))])) (fun _ kt => XT.iconstV X0.here hx rfl (1 : Int32) (hb hby d2_132) (by decide)  kt) ?_
                refine Go.by (S' := s₁.setTop (mkF m 137 #[.val (.int c_)] [(.int (1 : Int32))])) (fun _ kt => XS.goto X0.here hx rfl (pc0 := 133) (pc' := 137) rfl (hb hby d2_133) (by decide) (by decide)  kt) ?_
                refine goRet X0 (v := some (.int (nar .boolean (1 : Int32)))) (fun h => by rw [Bd.returns] at h; cases h) Bd.notSynchronized (fun fs hr => retN X0 hx (t := .boolean) Bd.returns (by simp) (hb hby d2_137) hr) (by decide) (by decide) ?_
                exact ⟨by rw [hE]; simp [e42, own_n1, own_n0, hc45_421, hc51_422, hc57_423, hc63_424, hc69_425, hc75_426], N0, e0⟩
              · refine Go.by (S' := s₁.setTop (mkF m 78 #[.val (.int c_)] [])) (fun _ kt => XS.icmpNo X0.here hx rfl (hb hby d2_75) rfl (XT.ii_eq_f hc75_426)  kt) ?_
                refine Go.by (S' := s₁.setTop (mkF m 79 #[.val (.int c_)] [(.int c_)])) (fun _ kt => XS.iloadN X0.here hx rfl (hb hby d2_78) rfl  kt) ?_
                refine Go.by (S' := s₁.setTop (mkF m 81 #[.val (.int c_)] [(.int (42 : Int32)), (.int c_)])) (fun _ kt => XT.bipushV X0.here hx rfl (42 : Int32) (hb hby d2_79) (by decide)  kt) ?_
                by_cases hc81_427 : c_ = (42 : Int32)
                · refine Go.by (S' := s₁.setTop (mkF m 132 #[.val (.int c_)] [])) (fun _ kt => XS.icmpYes X0.here hx rfl (pc0 := 81) (pc' := 132) rfl (hb hby d2_81) rfl (XT.ii_eq_t hc81_427) (by decide) (by decide)  kt) ?_
                  refine Go.by (S' := s₁.setTop (mkF m 133 #[.val (.int c_)] [(.int (1 : Int32))])) (fun _ kt => XT.iconstV X0.here hx rfl (1 : Int32) (hb hby d2_132) (by decide)  kt) ?_
                  refine Go.by (S' := s₁.setTop (mkF m 137 #[.val (.int c_)] [(.int (1 : Int32))])) (fun _ kt => XS.goto X0.here hx rfl (pc0 := 133) (pc' := 137) rfl (hb hby d2_133) (by decide) (by decide)  kt) ?_
                  refine goRet X0 (v := some (.int (nar .boolean (1 : Int32)))) (fun h => by rw [Bd.returns] at h; cases h) Bd.notSynchronized (fun fs hr => retN X0 hx (t := .boolean) Bd.returns (by simp) (hb hby d2_137) hr) (by decide) (by decide) ?_
                  exact ⟨by rw [hE]; simp [e42, own_n1, own_n0, hc45_421, hc51_422, hc57_423, hc63_424, hc69_425, hc75_426, hc81_427], N0, e0⟩
                · refine Go.by (S' := s₁.setTop (mkF m 84 #[.val (.int c_)] [])) (fun _ kt => XS.icmpNo X0.here hx rfl (hb hby d2_81) rfl (XT.ii_eq_f hc81_427)  kt) ?_
                  refine Go.by (S' := s₁.setTop (mkF m 85 #[.val (.int c_)] [(.int c_)])) (fun _ kt => XS.iloadN X0.here hx rfl (hb hby d2_84) rfl  kt) ?_
                  refine Go.by (S' := s₁.setTop (mkF m 87 #[.val (.int c_)] [(.int (43 : Int32)), (.int c_)])) (fun _ kt => XT.bipushV X0.here hx rfl (43 : Int32) (hb hby d2_85) (by decide)  kt) ?_
                  by_cases hc87_428 : c_ = (43 : Int32)
                  · refine Go.by (S' := s₁.setTop (mkF m 132 #[.val (.int c_)] [])) (fun _ kt => XS.icmpYes X0.here hx rfl (pc0 := 87) (pc' := 132) rfl (hb hby d2_87) rfl (XT.ii_eq_t hc87_428) (by decide) (by decide)  kt) ?_
                    refine Go.by (S' := s₁.setTop (mkF m 133 #[.val (.int c_)] [(.int (1 : Int32))])) (fun _ kt => XT.iconstV X0.here hx rfl (1 : Int32) (hb hby d2_132) (by decide)  kt) ?_
                    refine Go.by (S' := s₁.setTop (mkF m 137 #[.val (.int c_)] [(.int (1 : Int32))])) (fun _ kt => XS.goto X0.here hx rfl (pc0 := 133) (pc' := 137) rfl (hb hby d2_133) (by decide) (by decide)  kt) ?_
                    refine goRet X0 (v := some (.int (nar .boolean (1 : Int32)))) (fun h => by rw [Bd.returns] at h; cases h) Bd.notSynchronized (fun fs hr => retN X0 hx (t := .boolean) Bd.returns (by simp) (hb hby d2_137) hr) (by decide) (by decide) ?_
                    exact ⟨by rw [hE]; simp [e42, own_n1, own_n0, hc45_421, hc51_422, hc57_423, hc63_424, hc69_425, hc75_426, hc81_427, hc87_428], N0, e0⟩
                  · refine Go.by (S' := s₁.setTop (mkF m 90 #[.val (.int c_)] [])) (fun _ kt => XS.icmpNo X0.here hx rfl (hb hby d2_87) rfl (XT.ii_eq_f hc87_428)  kt) ?_
                    refine Go.by (S' := s₁.setTop (mkF m 91 #[.val (.int c_)] [(.int c_)])) (fun _ kt => XS.iloadN X0.here hx rfl (hb hby d2_90) rfl  kt) ?_
                    refine Go.by (S' := s₁.setTop (mkF m 93 #[.val (.int c_)] [(.int (45 : Int32)), (.int c_)])) (fun _ kt => XT.bipushV X0.here hx rfl (45 : Int32) (hb hby d2_91) (by decide)  kt) ?_
                    by_cases hc93_429 : c_ = (45 : Int32)
                    · refine Go.by (S' := s₁.setTop (mkF m 132 #[.val (.int c_)] [])) (fun _ kt => XS.icmpYes X0.here hx rfl (pc0 := 93) (pc' := 132) rfl (hb hby d2_93) rfl (XT.ii_eq_t hc93_429) (by decide) (by decide)  kt) ?_
                      refine Go.by (S' := s₁.setTop (mkF m 133 #[.val (.int c_)] [(.int (1 : Int32))])) (fun _ kt => XT.iconstV X0.here hx rfl (1 : Int32) (hb hby d2_132) (by decide)  kt) ?_
                      refine Go.by (S' := s₁.setTop (mkF m 137 #[.val (.int c_)] [(.int (1 : Int32))])) (fun _ kt => XS.goto X0.here hx rfl (pc0 := 133) (pc' := 137) rfl (hb hby d2_133) (by decide) (by decide)  kt) ?_
                      refine goRet X0 (v := some (.int (nar .boolean (1 : Int32)))) (fun h => by rw [Bd.returns] at h; cases h) Bd.notSynchronized (fun fs hr => retN X0 hx (t := .boolean) Bd.returns (by simp) (hb hby d2_137) hr) (by decide) (by decide) ?_
                      exact ⟨by rw [hE]; simp [e42, own_n1, own_n0, hc45_421, hc51_422, hc57_423, hc63_424, hc69_425, hc75_426, hc81_427, hc87_428, hc93_429], N0, e0⟩
                    · refine Go.by (S' := s₁.setTop (mkF m 96 #[.val (.int c_)] [])) (fun _ kt => XS.icmpNo X0.here hx rfl (hb hby d2_93) rfl (XT.ii_eq_f hc93_429)  kt) ?_
                      refine Go.by (S' := s₁.setTop (mkF m 97 #[.val (.int c_)] [(.int c_)])) (fun _ kt => XS.iloadN X0.here hx rfl (hb hby d2_96) rfl  kt) ?_
                      refine Go.by (S' := s₁.setTop (mkF m 99 #[.val (.int c_)] [(.int (46 : Int32)), (.int c_)])) (fun _ kt => XT.bipushV X0.here hx rfl (46 : Int32) (hb hby d2_97) (by decide)  kt) ?_
                      by_cases hc99_430 : c_ = (46 : Int32)
                      · refine Go.by (S' := s₁.setTop (mkF m 132 #[.val (.int c_)] [])) (fun _ kt => XS.icmpYes X0.here hx rfl (pc0 := 99) (pc' := 132) rfl (hb hby d2_99) rfl (XT.ii_eq_t hc99_430) (by decide) (by decide)  kt) ?_
                        refine Go.by (S' := s₁.setTop (mkF m 133 #[.val (.int c_)] [(.int (1 : Int32))])) (fun _ kt => XT.iconstV X0.here hx rfl (1 : Int32) (hb hby d2_132) (by decide)  kt) ?_
                        refine Go.by (S' := s₁.setTop (mkF m 137 #[.val (.int c_)] [(.int (1 : Int32))])) (fun _ kt => XS.goto X0.here hx rfl (pc0 := 133) (pc' := 137) rfl (hb hby d2_133) (by decide) (by decide)  kt) ?_
                        refine goRet X0 (v := some (.int (nar .boolean (1 : Int32)))) (fun h => by rw [Bd.returns] at h; cases h) Bd.notSynchronized (fun fs hr => retN X0 hx (t := .boolean) Bd.returns (by simp) (hb hby d2_137) hr) (by decide) (by decide) ?_
                        exact ⟨by rw [hE]; simp [e42, own_n1, own_n0, hc45_421, hc51_422, hc57_423, hc63_424, hc69_425, hc75_426, hc81_427, hc87_428, hc93_429, hc99_430], N0, e0⟩
                      · refine Go.by (S' := s₁.setTop (mkF m 102 #[.val (.int c_)] [])) (fun _ kt => XS.icmpNo X0.here hx rfl (hb hby d2_99) rfl (XT.ii_eq_f hc99_430)  kt) ?_
                        refine Go.by (S' := s₁.setTop (mkF m 103 #[.val (.int c_)] [(.int c_)])) (fun _ kt => XS.iloadN X0.here hx rfl (hb hby d2_102) rfl  kt) ?_
                        refine Go.by (S' := s₁.setTop (mkF m 105 #[.val (.int c_)] [(.int (94 : Int32)), (.int c_)])) (fun _ kt => XT.bipushV X0.here hx rfl (94 : Int32) (hb hby d2_103) (by decide)  kt) ?_
                        by_cases hc105_431 : c_ = (94 : Int32)
                        · refine Go.by (S' := s₁.setTop (mkF m 132 #[.val (.int c_)] [])) (fun _ kt => XS.icmpYes X0.here hx rfl (pc0 := 105) (pc' := 132) rfl (hb hby d2_105) rfl (XT.ii_eq_t hc105_431) (by decide) (by decide)  kt) ?_
                          refine Go.by (S' := s₁.setTop (mkF m 133 #[.val (.int c_)] [(.int (1 : Int32))])) (fun _ kt => XT.iconstV X0.here hx rfl (1 : Int32) (hb hby d2_132) (by decide)  kt) ?_
                          refine Go.by (S' := s₁.setTop (mkF m 137 #[.val (.int c_)] [(.int (1 : Int32))])) (fun _ kt => XS.goto X0.here hx rfl (pc0 := 133) (pc' := 137) rfl (hb hby d2_133) (by decide) (by decide)  kt) ?_
                          refine goRet X0 (v := some (.int (nar .boolean (1 : Int32)))) (fun h => by rw [Bd.returns] at h; cases h) Bd.notSynchronized (fun fs hr => retN X0 hx (t := .boolean) Bd.returns (by simp) (hb hby d2_137) hr) (by decide) (by decide) ?_
                          exact ⟨by rw [hE]; simp [e42, own_n1, own_n0, hc45_421, hc51_422, hc57_423, hc63_424, hc69_425, hc75_426, hc81_427, hc87_428, hc93_429, hc99_430, hc105_431], N0, e0⟩
                        · refine Go.by (S' := s₁.setTop (mkF m 108 #[.val (.int c_)] [])) (fun _ kt => XS.icmpNo X0.here hx rfl (hb hby d2_105) rfl (XT.ii_eq_f hc105_431)  kt) ?_
                          refine Go.by (S' := s₁.setTop (mkF m 109 #[.val (.int c_)] [(.int c_)])) (fun _ kt => XS.iloadN X0.here hx rfl (hb hby d2_108) rfl  kt) ?_
                          refine Go.by (S' := s₁.setTop (mkF m 111 #[.val (.int c_)] [(.int (95 : Int32)), (.int c_)])) (fun _ kt => XT.bipushV X0.here hx rfl (95 : Int32) (hb hby d2_109) (by decide)  kt) ?_
                          by_cases hc111_432 : c_ = (95 : Int32)
                          · refine Go.by (S' := s₁.setTop (mkF m 132 #[.val (.int c_)] [])) (fun _ kt => XS.icmpYes X0.here hx rfl (pc0 := 111) (pc' := 132) rfl (hb hby d2_111) rfl (XT.ii_eq_t hc111_432) (by decide) (by decide)  kt) ?_
                            refine Go.by (S' := s₁.setTop (mkF m 133 #[.val (.int c_)] [(.int (1 : Int32))])) (fun _ kt => XT.iconstV X0.here hx rfl (1 : Int32) (hb hby d2_132) (by decide)  kt) ?_
                            refine Go.by (S' := s₁.setTop (mkF m 137 #[.val (.int c_)] [(.int (1 : Int32))])) (fun _ kt => XS.goto X0.here hx rfl (pc0 := 133) (pc' := 137) rfl (hb hby d2_133) (by decide) (by decide)  kt) ?_
                            refine goRet X0 (v := some (.int (nar .boolean (1 : Int32)))) (fun h => by rw [Bd.returns] at h; cases h) Bd.notSynchronized (fun fs hr => retN X0 hx (t := .boolean) Bd.returns (by simp) (hb hby d2_137) hr) (by decide) (by decide) ?_
                            exact ⟨by rw [hE]; simp [e42, own_n1, own_n0, hc45_421, hc51_422, hc57_423, hc63_424, hc69_425, hc75_426, hc81_427, hc87_428, hc93_429, hc99_430, hc105_431, hc111_432], N0, e0⟩
                          · refine Go.by (S' := s₁.setTop (mkF m 114 #[.val (.int c_)] [])) (fun _ kt => XS.icmpNo X0.here hx rfl (hb hby d2_111) rfl (XT.ii_eq_f hc111_432)  kt) ?_
                            refine Go.by (S' := s₁.setTop (mkF m 115 #[.val (.int c_)] [(.int c_)])) (fun _ kt => XS.iloadN X0.here hx rfl (hb hby d2_114) rfl  kt) ?_
                            refine Go.by (S' := s₁.setTop (mkF m 117 #[.val (.int c_)] [(.int (96 : Int32)), (.int c_)])) (fun _ kt => XT.bipushV X0.here hx rfl (96 : Int32) (hb hby d2_115) (by decide)  kt) ?_
                            by_cases hc117_433 : c_ = (96 : Int32)
                            · refine Go.by (S' := s₁.setTop (mkF m 132 #[.val (.int c_)] [])) (fun _ kt => XS.icmpYes X0.here hx rfl (pc0 := 117) (pc' := 132) rfl (hb hby d2_117) rfl (XT.ii_eq_t hc117_433) (by decide) (by decide)  kt) ?_
                              refine Go.by (S' := s₁.setTop (mkF m 133 #[.val (.int c_)] [(.int (1 : Int32))])) (fun _ kt => XT.iconstV X0.here hx rfl (1 : Int32) (hb hby d2_132) (by decide)  kt) ?_
                              refine Go.by (S' := s₁.setTop (mkF m 137 #[.val (.int c_)] [(.int (1 : Int32))])) (fun _ kt => XS.goto X0.here hx rfl (pc0 := 133) (pc' := 137) rfl (hb hby d2_133) (by decide) (by decide)  kt) ?_
                              refine goRet X0 (v := some (.int (nar .boolean (1 : Int32)))) (fun h => by rw [Bd.returns] at h; cases h) Bd.notSynchronized (fun fs hr => retN X0 hx (t := .boolean) Bd.returns (by simp) (hb hby d2_137) hr) (by decide) (by decide) ?_
                              exact ⟨by rw [hE]; simp [e42, own_n1, own_n0, hc45_421, hc51_422, hc57_423, hc63_424, hc69_425, hc75_426, hc81_427, hc87_428, hc93_429, hc99_430, hc105_431, hc111_432, hc117_433], N0, e0⟩
                            · refine Go.by (S' := s₁.setTop (mkF m 120 #[.val (.int c_)] [])) (fun _ kt => XS.icmpNo X0.here hx rfl (hb hby d2_117) rfl (XT.ii_eq_f hc117_433)  kt) ?_
                              refine Go.by (S' := s₁.setTop (mkF m 121 #[.val (.int c_)] [(.int c_)])) (fun _ kt => XS.iloadN X0.here hx rfl (hb hby d2_120) rfl  kt) ?_
                              refine Go.by (S' := s₁.setTop (mkF m 123 #[.val (.int c_)] [(.int (124 : Int32)), (.int c_)])) (fun _ kt => XT.bipushV X0.here hx rfl (124 : Int32) (hb hby d2_121) (by decide)  kt) ?_
                              by_cases hc123_434 : c_ = (124 : Int32)
                              · refine Go.by (S' := s₁.setTop (mkF m 132 #[.val (.int c_)] [])) (fun _ kt => XS.icmpYes X0.here hx rfl (pc0 := 123) (pc' := 132) rfl (hb hby d2_123) rfl (XT.ii_eq_t hc123_434) (by decide) (by decide)  kt) ?_
                                refine Go.by (S' := s₁.setTop (mkF m 133 #[.val (.int c_)] [(.int (1 : Int32))])) (fun _ kt => XT.iconstV X0.here hx rfl (1 : Int32) (hb hby d2_132) (by decide)  kt) ?_
                                refine Go.by (S' := s₁.setTop (mkF m 137 #[.val (.int c_)] [(.int (1 : Int32))])) (fun _ kt => XS.goto X0.here hx rfl (pc0 := 133) (pc' := 137) rfl (hb hby d2_133) (by decide) (by decide)  kt) ?_
                                refine goRet X0 (v := some (.int (nar .boolean (1 : Int32)))) (fun h => by rw [Bd.returns] at h; cases h) Bd.notSynchronized (fun fs hr => retN X0 hx (t := .boolean) Bd.returns (by simp) (hb hby d2_137) hr) (by decide) (by decide) ?_
                                exact ⟨by rw [hE]; simp [e42, own_n1, own_n0, hc45_421, hc51_422, hc57_423, hc63_424, hc69_425, hc75_426, hc81_427, hc87_428, hc93_429, hc99_430, hc105_431, hc111_432, hc117_433, hc123_434], N0, e0⟩
                              · refine Go.by (S' := s₁.setTop (mkF m 126 #[.val (.int c_)] [])) (fun _ kt => XS.icmpNo X0.here hx rfl (hb hby d2_123) rfl (XT.ii_eq_f hc123_434)  kt) ?_
                                refine Go.by (S' := s₁.setTop (mkF m 127 #[.val (.int c_)] [(.int c_)])) (fun _ kt => XS.iloadN X0.here hx rfl (hb hby d2_126) rfl  kt) ?_
                                refine Go.by (S' := s₁.setTop (mkF m 129 #[.val (.int c_)] [(.int (126 : Int32)), (.int c_)])) (fun _ kt => XT.bipushV X0.here hx rfl (126 : Int32) (hb hby d2_127) (by decide)  kt) ?_
                                by_cases hc129_435 : c_ = (126 : Int32)
                                · refine Go.by (S' := s₁.setTop (mkF m 132 #[.val (.int c_)] [])) (fun _ kt => XS.icmpNo X0.here hx rfl (hb hby d2_129) rfl (XT.ii_ne_f hc129_435)  kt) ?_
                                  refine Go.by (S' := s₁.setTop (mkF m 133 #[.val (.int c_)] [(.int (1 : Int32))])) (fun _ kt => XT.iconstV X0.here hx rfl (1 : Int32) (hb hby d2_132) (by decide)  kt) ?_
                                  refine Go.by (S' := s₁.setTop (mkF m 137 #[.val (.int c_)] [(.int (1 : Int32))])) (fun _ kt => XS.goto X0.here hx rfl (pc0 := 133) (pc' := 137) rfl (hb hby d2_133) (by decide) (by decide)  kt) ?_
                                  refine goRet X0 (v := some (.int (nar .boolean (1 : Int32)))) (fun h => by rw [Bd.returns] at h; cases h) Bd.notSynchronized (fun fs hr => retN X0 hx (t := .boolean) Bd.returns (by simp) (hb hby d2_137) hr) (by decide) (by decide) ?_
                                  exact ⟨by rw [hE]; simp [e42, own_n1, own_n0, hc45_421, hc51_422, hc57_423, hc63_424, hc69_425, hc75_426, hc81_427, hc87_428, hc93_429, hc99_430, hc105_431, hc111_432, hc117_433, hc123_434, hc129_435], N0, e0⟩
                                · refine Go.by (S' := s₁.setTop (mkF m 136 #[.val (.int c_)] [])) (fun _ kt => XS.icmpYes X0.here hx rfl (pc0 := 129) (pc' := 136) rfl (hb hby d2_129) rfl (XT.ii_ne_t hc129_435) (by decide) (by decide)  kt) ?_
                                  refine Go.by (S' := s₁.setTop (mkF m 137 #[.val (.int c_)] [(.int (0 : Int32))])) (fun _ kt => XT.iconstV X0.here hx rfl (0 : Int32) (hb hby d2_136) (by decide)  kt) ?_
                                  refine goRet X0 (v := some (.int (nar .boolean (0 : Int32)))) (fun h => by rw [Bd.returns] at h; cases h) Bd.notSynchronized (fun fs hr => retN X0 hx (t := .boolean) Bd.returns (by simp) (hb hby d2_137) hr) (by decide) (by decide) ?_
                                  exact ⟨by rw [hE]; simp [e42, own_n1, own_n0, hc45_421, hc51_422, hc57_423, hc63_424, hc69_425, hc75_426, hc81_427, hc87_428, hc93_429, hc99_430, hc105_431, hc111_432, hc117_433, hc123_434, hc129_435], N0, e0⟩
  have t28 : expF c_ = e28 c_ → Go p e below (s₁.setTop (mkF m 28 #[.val (.int c_)] [])) (fun o U => ∃ v L, o = Outcome.returned v ∧ PureQ (some (.int (expF c_))) h0 n0 v U.heap L ∧ FrameEnd s o U L ({ frames := 0, cells := 0, slots := 0, locals := 0 } : Room).cells ({ frames := 0, cells := 0, slots := 0, locals := 0 } : Room).slots) := by
    intro hE
    refine Go.by (S' := s₁.setTop (mkF m 29 #[.val (.int c_)] [(.int c_)])) (fun _ kt => XS.iloadN X0.here hx rfl (hb hby d2_28) rfl  kt) ?_
    refine Go.by (S' := s₁.setTop (mkF m 31 #[.val (.int c_)] [(.int (48 : Int32)), (.int c_)])) (fun _ kt => XT.bipushV X0.here hx rfl (48 : Int32) (hb hby d2_29) (by decide)  kt) ?_
    by_cases hc31_281 : c_ < (48 : Int32)
    · refine Go.by (S' := s₁.setTop (mkF m 42 #[.val (.int c_)] [])) (fun _ kt => XS.icmpYes X0.here hx rfl (pc0 := 31) (pc' := 42) rfl (hb hby d2_31) rfl (XT.ii_lt_t hc31_281) (by decide) (by decide)  kt) ?_
      exact t42 (by rw [hE]; simp [e28, hc31_281])
    · refine Go.by (S' := s₁.setTop (mkF m 34 #[.val (.int c_)] [])) (fun _ kt => XS.icmpNo X0.here hx rfl (hb hby d2_31) rfl (XT.ii_lt_f hc31_281)  kt) ?_
      refine Go.by (S' := s₁.setTop (mkF m 35 #[.val (.int c_)] [(.int c_)])) (fun _ kt => XS.iloadN X0.here hx rfl (hb hby d2_34) rfl  kt) ?_
      refine Go.by (S' := s₁.setTop (mkF m 37 #[.val (.int c_)] [(.int (57 : Int32)), (.int c_)])) (fun _ kt => XT.bipushV X0.here hx rfl (57 : Int32) (hb hby d2_35) (by decide)  kt) ?_
      by_cases hc37_282 : (57 : Int32) < c_
      · refine Go.by (S' := s₁.setTop (mkF m 42 #[.val (.int c_)] [])) (fun _ kt => XS.icmpYes X0.here hx rfl (pc0 := 37) (pc' := 42) rfl (hb hby d2_37) rfl (XT.ii_gt_t hc37_282) (by decide) (by decide)  kt) ?_
        exact t42 (by rw [hE]; simp [e28, hc31_281, hc37_282])
      · refine Go.by (S' := s₁.setTop (mkF m 40 #[.val (.int c_)] [])) (fun _ kt => XS.icmpNo X0.here hx rfl (hb hby d2_37) rfl (XT.ii_gt_f hc37_282)  kt) ?_
        refine Go.by (S' := s₁.setTop (mkF m 41 #[.val (.int c_)] [(.int (1 : Int32))])) (fun _ kt => XT.iconstV X0.here hx rfl (1 : Int32) (hb hby d2_40) (by decide)  kt) ?_
        refine goRet X0 (v := some (.int (nar .boolean (1 : Int32)))) (fun h => by rw [Bd.returns] at h; cases h) Bd.notSynchronized (fun fs hr => retN X0 hx (t := .boolean) Bd.returns (by simp) (hb hby d2_41) hr) (by decide) (by decide) ?_
        exact ⟨by rw [hE]; simp [e28, own_n1, own_n0, hc31_281, hc37_282], N0, e0⟩
  have t14 : expF c_ = e14 c_ → Go p e below (s₁.setTop (mkF m 14 #[.val (.int c_)] [])) (fun o U => ∃ v L, o = Outcome.returned v ∧ PureQ (some (.int (expF c_))) h0 n0 v U.heap L ∧ FrameEnd s o U L ({ frames := 0, cells := 0, slots := 0, locals := 0 } : Room).cells ({ frames := 0, cells := 0, slots := 0, locals := 0 } : Room).slots) := by
    intro hE
    refine Go.by (S' := s₁.setTop (mkF m 15 #[.val (.int c_)] [(.int c_)])) (fun _ kt => XS.iloadN X0.here hx rfl (hb hby d2_14) rfl  kt) ?_
    refine Go.by (S' := s₁.setTop (mkF m 17 #[.val (.int c_)] [(.int (65 : Int32)), (.int c_)])) (fun _ kt => XT.bipushV X0.here hx rfl (65 : Int32) (hb hby d2_15) (by decide)  kt) ?_
    by_cases hc17_141 : c_ < (65 : Int32)
    · refine Go.by (S' := s₁.setTop (mkF m 28 #[.val (.int c_)] [])) (fun _ kt => XS.icmpYes X0.here hx rfl (pc0 := 17) (pc' := 28) rfl (hb hby d2_17) rfl (XT.ii_lt_t hc17_141) (by decide) (by decide)  kt) ?_
      exact t28 (by rw [hE]; simp [e14, hc17_141])
    · refine Go.by (S' := s₁.setTop (mkF m 20 #[.val (.int c_)] [])) (fun _ kt => XS.icmpNo X0.here hx rfl (hb hby d2_17) rfl (XT.ii_lt_f hc17_141)  kt) ?_
      refine Go.by (S' := s₁.setTop (mkF m 21 #[.val (.int c_)] [(.int c_)])) (fun _ kt => XS.iloadN X0.here hx rfl (hb hby d2_20) rfl  kt) ?_
      refine Go.by (S' := s₁.setTop (mkF m 23 #[.val (.int c_)] [(.int (90 : Int32)), (.int c_)])) (fun _ kt => XT.bipushV X0.here hx rfl (90 : Int32) (hb hby d2_21) (by decide)  kt) ?_
      by_cases hc23_142 : (90 : Int32) < c_
      · refine Go.by (S' := s₁.setTop (mkF m 28 #[.val (.int c_)] [])) (fun _ kt => XS.icmpYes X0.here hx rfl (pc0 := 23) (pc' := 28) rfl (hb hby d2_23) rfl (XT.ii_gt_t hc23_142) (by decide) (by decide)  kt) ?_
        exact t28 (by rw [hE]; simp [e14, hc17_141, hc23_142])
      · refine Go.by (S' := s₁.setTop (mkF m 26 #[.val (.int c_)] [])) (fun _ kt => XS.icmpNo X0.here hx rfl (hb hby d2_23) rfl (XT.ii_gt_f hc23_142)  kt) ?_
        refine Go.by (S' := s₁.setTop (mkF m 27 #[.val (.int c_)] [(.int (1 : Int32))])) (fun _ kt => XT.iconstV X0.here hx rfl (1 : Int32) (hb hby d2_26) (by decide)  kt) ?_
        refine goRet X0 (v := some (.int (nar .boolean (1 : Int32)))) (fun h => by rw [Bd.returns] at h; cases h) Bd.notSynchronized (fun fs hr => retN X0 hx (t := .boolean) Bd.returns (by simp) (hb hby d2_27) hr) (by decide) (by decide) ?_
        exact ⟨by rw [hE]; simp [e14, own_n1, own_n0, hc17_141, hc23_142], N0, e0⟩
  refine goIn (ef_rm2 m c_) ?_
  refine Go.by (S' := s₁.setTop (mkF m 1 #[.val (.int c_)] [(.int c_)])) (fun _ kt => XS.iloadN X0.here hx rfl (hb hby d2_0) rfl  kt) ?_
  refine Go.by (S' := s₁.setTop (mkF m 3 #[.val (.int c_)] [(.int (97 : Int32)), (.int c_)])) (fun _ kt => XT.bipushV X0.here hx rfl (97 : Int32) (hb hby d2_1) (by decide)  kt) ?_
  by_cases hc3_1 : c_ < (97 : Int32)
  · refine Go.by (S' := s₁.setTop (mkF m 14 #[.val (.int c_)] [])) (fun _ kt => XS.icmpYes X0.here hx rfl (pc0 := 3) (pc' := 14) rfl (hb hby d2_3) rfl (XT.ii_lt_t hc3_1) (by decide) (by decide)  kt) ?_
    exact t14 (by simp [expF_eq, hc3_1])
  · refine Go.by (S' := s₁.setTop (mkF m 6 #[.val (.int c_)] [])) (fun _ kt => XS.icmpNo X0.here hx rfl (hb hby d2_3) rfl (XT.ii_lt_f hc3_1)  kt) ?_
    refine Go.by (S' := s₁.setTop (mkF m 7 #[.val (.int c_)] [(.int c_)])) (fun _ kt => XS.iloadN X0.here hx rfl (hb hby d2_6) rfl  kt) ?_
    refine Go.by (S' := s₁.setTop (mkF m 9 #[.val (.int c_)] [(.int (122 : Int32)), (.int c_)])) (fun _ kt => XT.bipushV X0.here hx rfl (122 : Int32) (hb hby d2_7) (by decide)  kt) ?_
    by_cases hc9_2 : (122 : Int32) < c_
    · refine Go.by (S' := s₁.setTop (mkF m 14 #[.val (.int c_)] [])) (fun _ kt => XS.icmpYes X0.here hx rfl (pc0 := 9) (pc' := 14) rfl (hb hby d2_9) rfl (XT.ii_gt_t hc9_2) (by decide) (by decide)  kt) ?_
      exact t14 (by simp [expF_eq, hc3_1, hc9_2])
    · refine Go.by (S' := s₁.setTop (mkF m 12 #[.val (.int c_)] [])) (fun _ kt => XS.icmpNo X0.here hx rfl (hb hby d2_9) rfl (XT.ii_gt_f hc9_2)  kt) ?_
      refine Go.by (S' := s₁.setTop (mkF m 13 #[.val (.int c_)] [(.int (1 : Int32))])) (fun _ kt => XT.iconstV X0.here hx rfl (1 : Int32) (hb hby d2_12) (by decide)  kt) ?_
      refine goRet X0 (v := some (.int (nar .boolean (1 : Int32)))) (fun h => by rw [Bd.returns] at h; cases h) Bd.notSynchronized (fun fs hr => retN X0 hx (t := .boolean) Bd.returns (by simp) (hb hby d2_13) hr) (by decide) (by decide) ?_
      exact ⟨by simp [expF_eq, own_n1, own_n0, hc3_1, hc9_2], N0, e0⟩
def LawQ (n0 : Nat) (v : Option Value) (h : Heap) (L : List Loc) : Prop := v = some (.int 1) ∧ Fr n0 L
theorem ef_rm0 (m : MethodId) (x0 : Int32) (x1 : Int32) : entryFrame m #[(.int x0), (.int x1)] maxLocals = mkF m 0 #[.val (.int x0), .val (.int x1), .unset] [] := by first | (simp [entryFrame, mkF, argsToLocals, Value.category, maxLocals]; done) | rfl
theorem pn_rm0 : plainName "com/example/upright_balancer/uprightbalancer/traffic/MessageHeadIsTokenCharacterPinLaw" = true := by first | (simp [plainName, overriddenIn]; done) | decide +kernel
set_option maxRecDepth 65536 in
set_option maxHeartbeats 40000000 in
theorem rm0 (l : Launch) (Z : State) (a0 : Array Value) (hw : ∀ d ∈ tables_1, d.before a0 Z = true) (ws : List Jvm.Cond) (x0 : Int32) (x1 : Int32) (t : Addr) (cl : Cell) (h0 : Heap) (n0 : Nat) (S : Sta Z h0 "com/example/upright_balancer/uprightbalancer/traffic/MessageHead" "TOKEN_CHARACTERS" "[Z" (.ref t)) (A : Arr Z h0 t cl .boolean) (sz : cl.slots.size = 128) (H : ∀ j : Int32, ¬ j < 0 → j < 128 → cl.slots[j.toNatClampNeg]? = some (.int (expF j))) :
    MetFree l x (head1 (Jvm.Cond.code x code maxLocals ret :: ws) room_1) (fun aa U => aa = #[(.int x0), (.int x1)] ∧ Z.Warmed39 U.vm ∧ U.heap = h0) (fun _ _ _ _ _ => True) (fun _ U o U' => ∃ v L, o = .returned v ∧ LawQ n0 v U'.heap L ∧ FrameEnd U o U' L room_1.cells room_1.slots) := by
  refine MetFree.of_bodySF (plainFor_of_name pn_rm0) hisR ?_
  intro p e s m args below meth c s₁ Bd hml0 hP hK
  obtain ⟨rfl, hZ, hh⟩ := hP
  have hx := Bd.exec
  have hby := Bd.bytes
  have hml : c.maxLocals = 3 := hml0
  have hown : s.vm.findClass "com/example/upright_balancer/uprightbalancer/traffic/MessageHeadIsTokenCharacterPinLaw" = some m.cls := findClass_of_methodNamed Bd.named
  have hnm := (name_of_methodNamed Bd.named Bd.method).1
  have X0 : Stand p l e room_1 s m #[(.int x0), (.int x1)] below meth c s₁ [] 0 0 := Stand.of_body Bd
  have e0 : s₁.heap = h0 := by rw [← hh, Bd.state]; rfl
  have N0 := Fr.nil n0
  refine goIn (ef_rm0 m x0 x1) ?_
  refine Go.by (S' := s₁.setTop (mkF m 1 #[.val (.int x0), .val (.int x1), .unset] [(.int x1)])) (fun _ kt => XS.iloadN X0.here hx rfl (hb hby at_0) rfl  kt) ?_
  refine Go.by (S' := s₁.setTop (mkF m 2 #[.val (.int x0), .val (.int x1), .unset] [(.int (1 : Int32)), (.int x1)])) (fun _ kt => XT.iconstV X0.here hx rfl (1 : Int32) (hb hby at_1) (by decide)  kt) ?_
  refine Go.by (S' := s₁.setTop (mkF m 3 #[.val (.int x0), .val (.int x1), .unset] [(.int (x1 &&& (1 : Int32)))])) (fun _ kt => XS.iand X0.here hx rfl (hb hby at_2) rfl  kt) ?_
  by_cases hc3_1 : (x1 &&& (1 : Int32)) = (0 : Int32)
  · refine Go.by (S' := s₁.setTop (mkF m 15 #[.val (.int x0), .val (.int x1), .unset] [])) (fun _ kt => XS.ifYes X0.here hx rfl (pc0 := 3) (pc' := 15) rfl (hb hby at_3) rfl (XT.i0_eq_t hc3_1) (by decide) (by decide)  kt) ?_
    refine Go.by (S' := s₁.setTop (mkF m 16 #[.val (.int x0), .val (.int x1), .unset] [(.int x0)])) (fun _ kt => XS.iloadN X0.here hx rfl (hb hby at_15) rfl  kt) ?_
    refine Go.by (S' := s₁.setTop (mkF m 18 #[.val (.int x0), .val (.int x1), .unset] [(.int (2147483647 : Int32)), (.int x0)])) (X0.ldcInt hx hown (mvT hZ (hw _ (List.mem_of_getElem? (i := 10) rfl))) (g := (mkF m 16 #[.val (.int x0), .val (.int x1), .unset] [(.int x0)])) rfl (hb hby at_16)) ?_
    refine Go.by (S' := s₁.setTop (mkF m 19 #[.val (.int x0), .val (.int x1), .unset] [(.int (x0 &&& (2147483647 : Int32)))])) (fun _ kt => XS.iand X0.here hx rfl (hb hby at_18) rfl  kt) ?_
    have hc0 := (c_and x0 2147483647 (by decide)).1
    generalize hcc : (x0 &&& (2147483647 : Int32)) = c_ at hc0 ⊢
    have hc1 : ¬ c_ < 0 := by rw [Int32.lt_iff_toInt_lt]; show ¬ c_.toInt < 0; omega
    refine Go.by (S' := s₁.setTop (mkF m 20 #[.val (.int x0), .val (.int x1), .val (.int c_)] [])) (fun _ kt => XS.istoreN X0.here hx rfl (hb hby at_19) rfl (l' := #[.val (.int x0), .val (.int x1), .val (.int c_)]) rfl  kt) ?_
    refine Go.by (S' := s₁.setTop (mkF m 21 #[.val (.int x0), .val (.int x1), .val (.int c_)] [(.int c_)])) (fun _ kt => XS.iloadN X0.here hx rfl (hb hby at_20) rfl  kt) ?_
    obtain ⟨_, _, ⟨T2, L2, k2, n2⟩, -, X2, ⟨Lc2, hQ2, l2, y2, z2⟩, st2⟩ := Jvm.LawKit.callS X0 hx (y := (⟨"com/example/upright_balancer/uprightbalancer/traffic/MessageHead", "isTokenCharacter", "(I)Z"⟩ : MethodName)) hown (mvT hZ (hw _ (List.mem_of_getElem? (i := 0) rfl))) (mvT hZ (hw _ (List.mem_of_getElem? (i := 1) rfl))) (mvT hZ (hw _ (List.mem_of_getElem? (i := 2) rfl))) (mvT hZ (hw _ (List.mem_of_getElem? (i := 3) rfl))) (by decide) (backOf (W := 0) (rm1 l Z a0 hw [] c_ t cl h0 n0 S A sz H hc1) hZ (hw _ (List.mem_of_getElem? (i := 3) rfl)) (hw _ (List.mem_of_getElem? (i := 2) rfl)) (by decide) (by decide)) (g := (mkF m 21 #[.val (.int x0), .val (.int x1), .val (.int c_)] [(.int c_)])) rfl (by rw [hml]; rfl) (argsL := [(.int c_)]) (rest := []) (lenOf pd_0 rfl) rfl (by show 2 * 0 + _ ≤ _; exact Nat.le_of_eq rfl) (hb hby at_21) (fun _ _ => ⟨rfl, e0, (by decide : 0 + 0 ≤ _), (by decide : 0 + 0 ≤ _)⟩)
    dsimp only [Pt.U, Pt.locs, Pt.cells, Pt.slots] at X2 l2 y2 z2 st2 hQ2
    subst l2 y2 z2
    obtain ⟨rfl, N2q, e2⟩ := hQ2
    have N2 := Fr.app N0 N2q
    refine Go.by (S' := T2.setTop (mkF m 24 #[.val (.int x0), .val (.int x1), .val (.int c_)] [(.int (if c_ < 128 then expF c_ else 0))])) st2 ?_
    refine Go.by (S' := T2.setTop (mkF m 25 #[.val (.int x0), .val (.int x1), .val (.int c_)] [(.int c_), (.int (if c_ < 128 then expF c_ else 0))])) (fun _ kt => XS.iloadN X2.here hx rfl (hb hby at_24) rfl  kt) ?_
    obtain ⟨_, _, ⟨T3, L3, k3, n3⟩, -, X3, ⟨Lc3, hQ3, l3, y3, z3⟩, st3⟩ := Jvm.LawKit.callS X2 hx (y := (⟨"com/example/upright_balancer/uprightbalancer/traffic/MessageHeadIsTokenCharacterPinLaw", "expected", "(I)Z"⟩ : MethodName)) hown (mvT hZ (hw _ (List.mem_of_getElem? (i := 6) rfl))) (mvT hZ (hw _ (List.mem_of_getElem? (i := 7) rfl))) (mvT hZ (hw _ (List.mem_of_getElem? (i := 8) rfl))) (mvT hZ (hw _ (List.mem_of_getElem? (i := 9) rfl))) (by decide) (backOf (W := 1) (rm2 l Z a0 hw [] c_ h0 n0) hZ (hw _ (List.mem_of_getElem? (i := 9) rfl)) (hw _ (List.mem_of_getElem? (i := 8) rfl)) (by decide) (by decide)) (g := (mkF m 25 #[.val (.int x0), .val (.int x1), .val (.int c_)] [(.int c_), (.int (if c_ < 128 then expF c_ else 0))])) rfl (by rw [hml]; rfl) (argsL := [(.int c_)]) (rest := [(.int (if c_ < 128 then expF c_ else 0))]) (lenOf pd_0 rfl) rfl (by show 2 * 0 + _ ≤ _; exact Nat.le_of_eq rfl) (hb hby at_25) (fun _ _ => ⟨rfl, e2, (by decide : 0 + 0 ≤ _), (by decide : 0 + 0 ≤ _)⟩)
    dsimp only [Pt.U, Pt.locs, Pt.cells, Pt.slots] at X3 l3 y3 z3 st3 hQ3
    subst l3 y3 z3
    obtain ⟨rfl, N3q, e3⟩ := hQ3
    have N3 := Fr.app N2 N3q
    refine Go.by (S' := T3.setTop (mkF m 28 #[.val (.int x0), .val (.int x1), .val (.int c_)] [(.int (expF c_)), (.int (if c_ < 128 then expF c_ else 0))])) st3 ?_
    refine Go.by (S' := T3.setTop (mkF m 31 #[.val (.int x0), .val (.int x1), .val (.int c_)] [])) (fun _ kt => XS.icmpNo X3.here hx rfl (hb hby at_28) rfl (XT.ii_ne_f (own_same c_))  kt) ?_
    refine Go.by (S' := T3.setTop (mkF m 32 #[.val (.int x0), .val (.int x1), .val (.int c_)] [(.int (1 : Int32))])) (fun _ kt => XT.iconstV X3.here hx rfl (1 : Int32) (hb hby at_31) (by decide)  kt) ?_
    refine Go.by (S' := T3.setTop (mkF m 36 #[.val (.int x0), .val (.int x1), .val (.int c_)] [(.int (1 : Int32))])) (fun _ kt => XS.goto X3.here hx rfl (pc0 := 32) (pc' := 36) rfl (hb hby at_32) (by decide) (by decide)  kt) ?_
    refine goRet X3 (v := some (.int (nar .boolean (1 : Int32)))) (fun h => by rw [Bd.returns] at h; cases h) Bd.notSynchronized (fun fs hr => retN X3 hx (t := .boolean) Bd.returns (by simp) (hb hby at_36) hr) (by decide) (by decide) ?_
    exact ⟨by simp [own_n1], N3⟩
  · refine Go.by (S' := s₁.setTop (mkF m 6 #[.val (.int x0), .val (.int x1), .unset] [])) (fun _ kt => XS.ifNo X0.here hx rfl (hb hby at_3) rfl (XT.i0_eq_f hc3_1)  kt) ?_
    refine Go.by (S' := s₁.setTop (mkF m 7 #[.val (.int x0), .val (.int x1), .unset] [(.int x0)])) (fun _ kt => XS.iloadN X0.here hx rfl (hb hby at_6) rfl  kt) ?_
    refine Go.by (S' := s₁.setTop (mkF m 10 #[.val (.int x0), .val (.int x1), .unset] [(.int (255 : Int32)), (.int x0)])) (fun _ kt => XT.sipushV X0.here hx rfl (255 : Int32) (hb hby at_7) (by decide)  kt) ?_
    refine Go.by (S' := s₁.setTop (mkF m 11 #[.val (.int x0), .val (.int x1), .unset] [(.int (x0 &&& (255 : Int32)))])) (fun _ kt => XS.iand X0.here hx rfl (hb hby at_10) rfl  kt) ?_
    have hc0 := (c_and x0 255 (by decide)).1
    generalize hcc : (x0 &&& (255 : Int32)) = c_ at hc0 ⊢
    have hc1 : ¬ c_ < 0 := by rw [Int32.lt_iff_toInt_lt]; show ¬ c_.toInt < 0; omega
    refine Go.by (S' := s₁.setTop (mkF m 12 #[.val (.int x0), .val (.int x1), .val (.int c_)] [])) (fun _ kt => XS.istoreN X0.here hx rfl (hb hby at_11) rfl (l' := #[.val (.int x0), .val (.int x1), .val (.int c_)]) rfl  kt) ?_
    refine Go.by (S' := s₁.setTop (mkF m 20 #[.val (.int x0), .val (.int x1), .val (.int c_)] [])) (fun _ kt => XS.goto X0.here hx rfl (pc0 := 12) (pc' := 20) rfl (hb hby at_12) (by decide) (by decide)  kt) ?_
    refine Go.by (S' := s₁.setTop (mkF m 21 #[.val (.int x0), .val (.int x1), .val (.int c_)] [(.int c_)])) (fun _ kt => XS.iloadN X0.here hx rfl (hb hby at_20) rfl  kt) ?_
    obtain ⟨_, _, ⟨T4, L4, k4, n4⟩, -, X4, ⟨Lc4, hQ4, l4, y4, z4⟩, st4⟩ := Jvm.LawKit.callS X0 hx (y := (⟨"com/example/upright_balancer/uprightbalancer/traffic/MessageHead", "isTokenCharacter", "(I)Z"⟩ : MethodName)) hown (mvT hZ (hw _ (List.mem_of_getElem? (i := 0) rfl))) (mvT hZ (hw _ (List.mem_of_getElem? (i := 1) rfl))) (mvT hZ (hw _ (List.mem_of_getElem? (i := 2) rfl))) (mvT hZ (hw _ (List.mem_of_getElem? (i := 3) rfl))) (by decide) (backOf (W := 0) (rm1 l Z a0 hw [] c_ t cl h0 n0 S A sz H hc1) hZ (hw _ (List.mem_of_getElem? (i := 3) rfl)) (hw _ (List.mem_of_getElem? (i := 2) rfl)) (by decide) (by decide)) (g := (mkF m 21 #[.val (.int x0), .val (.int x1), .val (.int c_)] [(.int c_)])) rfl (by rw [hml]; rfl) (argsL := [(.int c_)]) (rest := []) (lenOf pd_0 rfl) rfl (by show 2 * 0 + _ ≤ _; exact Nat.le_of_eq rfl) (hb hby at_21) (fun _ _ => ⟨rfl, e0, (by decide : 0 + 0 ≤ _), (by decide : 0 + 0 ≤ _)⟩)
    dsimp only [Pt.U, Pt.locs, Pt.cells, Pt.slots] at X4 l4 y4 z4 st4 hQ4
    subst l4 y4 z4
    obtain ⟨rfl, N4q, e4⟩ := hQ4
    have N4 := Fr.app N0 N4q
    refine Go.by (S' := T4.setTop (mkF m 24 #[.val (.int x0), .val (.int x1), .val (.int c_)] [(.int (if c_ < 128 then expF c_ else 0))])) st4 ?_
    refine Go.by (S' := T4.setTop (mkF m 25 #[.val (.int x0), .val (.int x1), .val (.int c_)] [(.int c_), (.int (if c_ < 128 then expF c_ else 0))])) (fun _ kt => XS.iloadN X4.here hx rfl (hb hby at_24) rfl  kt) ?_
    obtain ⟨_, _, ⟨T5, L5, k5, n5⟩, -, X5, ⟨Lc5, hQ5, l5, y5, z5⟩, st5⟩ := Jvm.LawKit.callS X4 hx (y := (⟨"com/example/upright_balancer/uprightbalancer/traffic/MessageHeadIsTokenCharacterPinLaw", "expected", "(I)Z"⟩ : MethodName)) hown (mvT hZ (hw _ (List.mem_of_getElem? (i := 6) rfl))) (mvT hZ (hw _ (List.mem_of_getElem? (i := 7) rfl))) (mvT hZ (hw _ (List.mem_of_getElem? (i := 8) rfl))) (mvT hZ (hw _ (List.mem_of_getElem? (i := 9) rfl))) (by decide) (backOf (W := 1) (rm2 l Z a0 hw [] c_ h0 n0) hZ (hw _ (List.mem_of_getElem? (i := 9) rfl)) (hw _ (List.mem_of_getElem? (i := 8) rfl)) (by decide) (by decide)) (g := (mkF m 25 #[.val (.int x0), .val (.int x1), .val (.int c_)] [(.int c_), (.int (if c_ < 128 then expF c_ else 0))])) rfl (by rw [hml]; rfl) (argsL := [(.int c_)]) (rest := [(.int (if c_ < 128 then expF c_ else 0))]) (lenOf pd_0 rfl) rfl (by show 2 * 0 + _ ≤ _; exact Nat.le_of_eq rfl) (hb hby at_25) (fun _ _ => ⟨rfl, e4, (by decide : 0 + 0 ≤ _), (by decide : 0 + 0 ≤ _)⟩)
    dsimp only [Pt.U, Pt.locs, Pt.cells, Pt.slots] at X5 l5 y5 z5 st5 hQ5
    subst l5 y5 z5
    obtain ⟨rfl, N5q, e5⟩ := hQ5
    have N5 := Fr.app N4 N5q
    refine Go.by (S' := T5.setTop (mkF m 28 #[.val (.int x0), .val (.int x1), .val (.int c_)] [(.int (expF c_)), (.int (if c_ < 128 then expF c_ else 0))])) st5 ?_
    refine Go.by (S' := T5.setTop (mkF m 31 #[.val (.int x0), .val (.int x1), .val (.int c_)] [])) (fun _ kt => XS.icmpNo X5.here hx rfl (hb hby at_28) rfl (XT.ii_ne_f (own_same c_))  kt) ?_
    refine Go.by (S' := T5.setTop (mkF m 32 #[.val (.int x0), .val (.int x1), .val (.int c_)] [(.int (1 : Int32))])) (fun _ kt => XT.iconstV X5.here hx rfl (1 : Int32) (hb hby at_31) (by decide)  kt) ?_
    refine Go.by (S' := T5.setTop (mkF m 36 #[.val (.int x0), .val (.int x1), .val (.int c_)] [(.int (1 : Int32))])) (fun _ kt => XS.goto X5.here hx rfl (pc0 := 32) (pc' := 36) rfl (hb hby at_32) (by decide) (by decide)  kt) ?_
    refine goRet X5 (v := some (.int (nar .boolean (1 : Int32)))) (fun h => by rw [Bd.returns] at h; cases h) Bd.notSynchronized (fun fs hr => retN X5 hx (t := .boolean) Bd.returns (by simp) (hb hby at_36) hr) (by decide) (by decide) ?_
    exact ⟨by simp [own_n1], N5⟩
theorem own_at {s : State} {args : Array Value} {t : Term} {a : Addr} {cl : Cell} {j v : Int32} (et : ∀ idx, t.eval args s none idx s = some (.ref a)) (A : Arr s s.heap a cl .boolean)
    (h : (Jvm.Cond.eq (.elem t (.int j)) (.int v)).value args s none s [] = some true) : cl.slots[j.toNatClampNeg]? = some (.int v) :=
  (elem_in (eqv_i (F := Jvm.Term.int v) rfl h) (et _) rfl A.1).2
theorem own_all {s : State} {args : Array Value} {t : Term} {a : Addr} {cl : Cell} {lo hi v : Int32} (et : ∀ idx, t.eval args s none idx s = some (.ref a)) (A : Arr s s.heap a cl .boolean)
    (h : (Jvm.Cond.all t (.or (.lt (.index 0) (.int lo)) (.or (.le (.int hi) (.index 0)) (.eq (.elem t (.index 0)) (.int v))))).value args s none s [] = some true)
    (j : Int32) (hj : ¬ (j < 0 ∨ cl.slots.size ≤ j.toNatClampNeg)) (h1 : ¬ j < lo) (h2 : ¬ hi ≤ j) : cl.slots[j.toNatClampNeg]? = some (.int v) := by
  have nn : ¬ j < 0 := fun x => hj (Or.inl x)
  have u := Cond.all_elim (et []) (A.fin (Vm.Alike.refl _)) h j.toNatClampNeg (Nat.lt_of_not_le fun x => hj (Or.inr x))
  rw [Cond.or_of_right ((Cond.lt_ints (idx_at nn) rfl).trans (by simp [h1])), Cond.or_of_right ((Cond.le_ints rfl (idx_at nn)).trans (by simp [h2]))] at u
  exact (elem_in (eqv_i (F := Jvm.Term.int v) rfl u) (et _) (idx_at nn) A.1).2
theorem own_all0 {s : State} {args : Array Value} {t : Term} {a : Addr} {cl : Cell} {hi v : Int32} (et : ∀ idx, t.eval args s none idx s = some (.ref a)) (A : Arr s s.heap a cl .boolean)
    (h : (Jvm.Cond.all t (.or (.le (.int hi) (.index 0)) (.eq (.elem t (.index 0)) (.int v)))).value args s none s [] = some true)
    (j : Int32) (hj : ¬ (j < 0 ∨ cl.slots.size ≤ j.toNatClampNeg)) (h2 : ¬ hi ≤ j) : cl.slots[j.toNatClampNeg]? = some (.int v) := by
  have nn : ¬ j < 0 := fun x => hj (Or.inl x)
  have u := Cond.all_elim (et []) (A.fin (Vm.Alike.refl _)) h j.toNatClampNeg (Nat.lt_of_not_le fun x => hj (Or.inr x))
  rw [Cond.or_of_right ((Cond.le_ints rfl (idx_at nn)).trans (by simp [h2]))] at u
  exact (elem_in (eqv_i (F := Jvm.Term.int v) rfl u) (et _) (idx_at nn) A.1).2
theorem own_range {lo hi : Nat} {v : Int32} (h : ∀ n, n < 128 → lo ≤ n → n < hi → expF (Int32.ofNat n) = v) {j : Int32} (nn : ¬ j < 0) (l128 : j < 128) (h1 : (lo : Int) ≤ j.toInt) (h2 : j.toInt < hi) : v = expF j := by
  have e := nat_of nn
  have := h j.toNatClampNeg (by rw [Int32.lt_iff_toInt_lt] at l128; have e2 : (128 : Int32).toInt = 128 := by decide
                                rw [e2] at l128; omega) (by omega) (by omega)
  rw [← this]
  congr 1
  exact (back32 nn).1
theorem own_lt {j k : Int32} {n : Int} (e : k.toInt = n) : j < k ↔ j.toInt < n := by rw [Int32.lt_iff_toInt_lt, e]
theorem own_le {j k : Int32} {n : Int} (e : k.toInt = n) : k ≤ j ↔ n ≤ j.toInt := by rw [Int32.le_iff_toInt_le, e]
theorem own_len {s : State} {args : Array Value} {t : Term} {a : Addr} {cl : Cell} (et : ∀ idx, t.eval args s none idx s = some (.ref a)) (A : Arr s s.heap a cl .boolean)
    (h : (Jvm.Cond.eq (.length t) (.int 128)).value args s none s [] = some true) : cl.slots.size = 128 := by
  have e := eqv_i (F := Jvm.Term.int 128) rfl h
  have hat : s.arrayAt? a = some cl := A.fin (Vm.Alike.refl _)
  by_cases q : cl.slots.size < 2 ^ 31
  · have e' : cl.slots.size.toInt32 = 128 := by simpa [Term.eval, et, hat, q] using e
    have := congrArg Int32.toInt e'
    rw [len_toInt q] at this
    have e2 : (128 : Int32).toInt = 128 := by decide
    rw [e2] at this; omega
  · simp [Term.eval, et, hat, q] at e
set_option maxRecDepth 65536 in
set_option maxHeartbeats 40000000 in
theorem comes_1 {Post : Tables → Env → Array Value → State → Outcome → State → Prop} (hpost : ∀ tb e args s v u, (limb_1_1.after args s (.returned v) u = true ∧ limb_1_2.after args s (.returned v) u = true ∧ True) → FrameEnd s (.returned v) u (Jvm.fieldLocs frame_1_writes args s ++ Jvm.arrayLocs frame_1_arrays args s ++ Jvm.staticLocs frame_1_statics s) 0 0 → Post tb e args s (.returned v) u) :
    ArmFor flags0 classFile x code maxLocals ret World_1 tables_1 room_1 Calls_1 rest_1 Pre_1 Post := by
  intro l hfl _ _ p e ha hc hk s m args below hf hA hF happ hP
  obtain ⟨hcalls, hrest, hpre⟩ := hP
  obtain ⟨-, -, -, hnamed, -, -, -, hat⟩ := (Spec.applies_iff hf).mp happ
  obtain ⟨hg, hn⟩ := and_e (Cond.before_iff.mp (show (Jvm.Cond.and given_1 narrow_1).before args s = true from hpre))
  obtain ⟨gc, gr0⟩ := and_e hg
  obtain ⟨gi0, gr1⟩ := and_e gr0
  have gi1 := gr1
  obtain ⟨w0, w1, rfl⟩ : ∃ w0 w1 : Value, args = #[w0, w1] := by
    have hs : args.size = 2 := by simpa [Cond.value, given_1] using gc
    obtain ⟨L⟩ := args
    match L, hs with
    | [w0, w1], _ => exact ⟨w0, w1, rfl⟩
  have hw := fun d (hd : d ∈ tables_1) => atoms_spec (ws := Jvm.Cond.code x code maxLocals ret :: tables_1) hat d (List.mem_cons_of_mem _ hd)
  have hfit : Fit s := fun {y c} hc i hi => by
    obtain ⟨ha, rfl⟩ := Array.getElem?_eq_some_iff.mp hc
    have q := List.all_eq_true.mp ((Array.all_eq_true_iff_forall_mem.mp hF) _ (Array.getElem_mem ha)) i (List.mem_range.mpr hi)
    simpa [Array.getElem?_eq_getElem hi] using q
  obtain ⟨i0, ei0⟩ := is_v gi0
  obtain rfl : w0 = (.int i0) := Option.some.inj ei0
  obtain ⟨i1, ei1⟩ := is_v gi1
  obtain rfl : w1 = (.int i1) := Option.some.inj ei1
  obtain ⟨nw0, nr0⟩ := and_e hn
  obtain ⟨nw1, nr1⟩ := and_e nr0
  obtain ⟨nw2, nr2⟩ := and_e nr1
  obtain ⟨nw3, nr3⟩ := and_e nr2
  obtain ⟨nw4, nr4⟩ := and_e nr3
  obtain ⟨nw5, nr5⟩ := and_e nr4
  obtain ⟨nw6, nr6⟩ := and_e nr5
  obtain ⟨nw7, nr7⟩ := and_e nr6
  obtain ⟨nw8, nr8⟩ := and_e nr7
  obtain ⟨nw9, nr9⟩ := and_e nr8
  obtain ⟨nw10, nr10⟩ := and_e nr9
  obtain ⟨nw11, nr11⟩ := and_e nr10
  obtain ⟨nw12, nr12⟩ := and_e nr11
  obtain ⟨nw13, nr13⟩ := and_e nr12
  obtain ⟨nw14, nr14⟩ := and_e nr13
  obtain ⟨nw15, nr15⟩ := and_e nr14
  obtain ⟨nw16, nr16⟩ := and_e nr15
  obtain ⟨nw17, nr17⟩ := and_e nr16
  obtain ⟨nw18, nr18⟩ := and_e nr17
  obtain ⟨nw19, nr19⟩ := and_e nr18
  obtain ⟨nw20, nr20⟩ := and_e nr19
  obtain ⟨nw21, nr21⟩ := and_e nr20
  obtain ⟨nw22, nr22⟩ := and_e nr21
  obtain ⟨nw23, nr23⟩ := and_e nr22
  obtain ⟨nw24, nr24⟩ := and_e nr23
  have nw25 := nr24
  obtain ⟨t, et0⟩ := arr_v nw0
  have et : ∀ idx, (Jvm.Term.static "com/example/upright_balancer/uprightbalancer/traffic/MessageHead" "TOKEN_CHARACTERS" "[Z").eval #[.int i0, .int i1] s none idx s = some (.ref t) := fun _ => et0
  obtain ⟨cl, A⟩ := Arr.start et0 nw0
  have S := Sta.start et0 (Or.inr ⟨(hw _ (List.mem_of_getElem? (i := 2) rfl)), (hw _ (List.mem_of_getElem? (i := 5) rfl))⟩)
  have sz : cl.slots.size = 128 := own_len et A nw1
  have H : ∀ j : Int32, ¬ j < 0 → j < 128 → cl.slots[j.toNatClampNeg]? = some (.int (expF j)) := by
    intro j nn l128
    have hin := own_in sz nn l128
    have nn' := nat_of nn
    have l' := (own_lt (n := 128) (by decide)).mp l128
    by_cases q33 : j.toInt < 33
    · have ev : (0 : Int32) = expF j := own_range (lo := 0) (hi := 33) (by decide +kernel) nn l128 (by omega) (by omega)
      rw [← ev]
      exact own_all0 et A nw2 j hin (fun q => by rw [own_le (n := 33) (by decide)] at q; omega)
    by_cases q34 : j.toInt < 34
    · obtain rfl : j = 33 := Int32.toInt_inj.mp (by rw [show (33 : Int32).toInt = 33 from by decide]; omega)
      exact (own_at et A nw3).trans (by decide)
    by_cases q35 : j.toInt < 35
    · obtain rfl : j = 34 := Int32.toInt_inj.mp (by rw [show (34 : Int32).toInt = 34 from by decide]; omega)
      exact (own_at et A nw4).trans (by decide)
    by_cases q40 : j.toInt < 40
    · have ev : (1 : Int32) = expF j := own_range (lo := 35) (hi := 40) (by decide +kernel) nn l128 (by omega) (by omega)
      rw [← ev]
      exact own_all et A nw5 j hin (fun q => by rw [own_lt (n := 35) (by decide)] at q; omega) (fun q => by rw [own_le (n := 40) (by decide)] at q; omega)
    by_cases q41 : j.toInt < 41
    · obtain rfl : j = 40 := Int32.toInt_inj.mp (by rw [show (40 : Int32).toInt = 40 from by decide]; omega)
      exact (own_at et A nw6).trans (by decide)
    by_cases q42 : j.toInt < 42
    · obtain rfl : j = 41 := Int32.toInt_inj.mp (by rw [show (41 : Int32).toInt = 41 from by decide]; omega)
      exact (own_at et A nw7).trans (by decide)
    by_cases q43 : j.toInt < 43
    · obtain rfl : j = 42 := Int32.toInt_inj.mp (by rw [show (42 : Int32).toInt = 42 from by decide]; omega)
      exact (own_at et A nw8).trans (by decide)
    by_cases q44 : j.toInt < 44
    · obtain rfl : j = 43 := Int32.toInt_inj.mp (by rw [show (43 : Int32).toInt = 43 from by decide]; omega)
      exact (own_at et A nw9).trans (by decide)
    by_cases q45 : j.toInt < 45
    · obtain rfl : j = 44 := Int32.toInt_inj.mp (by rw [show (44 : Int32).toInt = 44 from by decide]; omega)
      exact (own_at et A nw10).trans (by decide)
    by_cases q46 : j.toInt < 46
    · obtain rfl : j = 45 := Int32.toInt_inj.mp (by rw [show (45 : Int32).toInt = 45 from by decide]; omega)
      exact (own_at et A nw11).trans (by decide)
    by_cases q47 : j.toInt < 47
    · obtain rfl : j = 46 := Int32.toInt_inj.mp (by rw [show (46 : Int32).toInt = 46 from by decide]; omega)
      exact (own_at et A nw12).trans (by decide)
    by_cases q48 : j.toInt < 48
    · obtain rfl : j = 47 := Int32.toInt_inj.mp (by rw [show (47 : Int32).toInt = 47 from by decide]; omega)
      exact (own_at et A nw13).trans (by decide)
    by_cases q58 : j.toInt < 58
    · have ev : (1 : Int32) = expF j := own_range (lo := 48) (hi := 58) (by decide +kernel) nn l128 (by omega) (by omega)
      rw [← ev]
      exact own_all et A nw14 j hin (fun q => by rw [own_lt (n := 48) (by decide)] at q; omega) (fun q => by rw [own_le (n := 58) (by decide)] at q; omega)
    by_cases q65 : j.toInt < 65
    · have ev : (0 : Int32) = expF j := own_range (lo := 58) (hi := 65) (by decide +kernel) nn l128 (by omega) (by omega)
      rw [← ev]
      exact own_all et A nw15 j hin (fun q => by rw [own_lt (n := 58) (by decide)] at q; omega) (fun q => by rw [own_le (n := 65) (by decide)] at q; omega)
    by_cases q91 : j.toInt < 91
    · have ev : (1 : Int32) = expF j := own_range (lo := 65) (hi := 91) (by decide +kernel) nn l128 (by omega) (by omega)
      rw [← ev]
      exact own_all et A nw16 j hin (fun q => by rw [own_lt (n := 65) (by decide)] at q; omega) (fun q => by rw [own_le (n := 91) (by decide)] at q; omega)
    by_cases q92 : j.toInt < 92
    · obtain rfl : j = 91 := Int32.toInt_inj.mp (by rw [show (91 : Int32).toInt = 91 from by decide]; omega)
      exact (own_at et A nw17).trans (by decide)
    by_cases q93 : j.toInt < 93
    · obtain rfl : j = 92 := Int32.toInt_inj.mp (by rw [show (92 : Int32).toInt = 92 from by decide]; omega)
      exact (own_at et A nw18).trans (by decide)
    by_cases q94 : j.toInt < 94
    · obtain rfl : j = 93 := Int32.toInt_inj.mp (by rw [show (93 : Int32).toInt = 93 from by decide]; omega)
      exact (own_at et A nw19).trans (by decide)
    by_cases q123 : j.toInt < 123
    · have ev : (1 : Int32) = expF j := own_range (lo := 94) (hi := 123) (by decide +kernel) nn l128 (by omega) (by omega)
      rw [← ev]
      exact own_all et A nw20 j hin (fun q => by rw [own_lt (n := 94) (by decide)] at q; omega) (fun q => by rw [own_le (n := 123) (by decide)] at q; omega)
    by_cases q124 : j.toInt < 124
    · obtain rfl : j = 123 := Int32.toInt_inj.mp (by rw [show (123 : Int32).toInt = 123 from by decide]; omega)
      exact (own_at et A nw21).trans (by decide)
    by_cases q125 : j.toInt < 125
    · obtain rfl : j = 124 := Int32.toInt_inj.mp (by rw [show (124 : Int32).toInt = 124 from by decide]; omega)
      exact (own_at et A nw22).trans (by decide)
    by_cases q126 : j.toInt < 126
    · obtain rfl : j = 125 := Int32.toInt_inj.mp (by rw [show (125 : Int32).toInt = 125 from by decide]; omega)
      exact (own_at et A nw23).trans (by decide)
    by_cases q127 : j.toInt < 127
    · obtain rfl : j = 126 := Int32.toInt_inj.mp (by rw [show (126 : Int32).toInt = 126 from by decide]; omega)
      exact (own_at et A nw24).trans (by decide)
    obtain rfl : j = 127 := Int32.toInt_inj.mp (by rw [show (127 : Int32).toInt = 127 from by decide]; omega)
    exact (own_at et A nw25).trans (by decide)
  obtain ⟨n, o, h1, h2, h3, _, L, rfl, ⟨rfl, N⟩, hq⟩ := rm0 l s _ hw tables_1 i0 i1 t cl s.heap s.heap.size S A sz H p e ha hc hk s m _ below hf ((Spec.applies_iff_loose hf).mp happ).1 ⟨rfl, State.Warmed39.refl s, rfl⟩ trivial
  refine ⟨n, _, h1, h2, h3, hpost _ _ _ _ _ _ ⟨Cond.after_iff.mpr rfl, Cond.after_iff.mpr (eq_i res_at (Term.int_eval (1)) rfl), trivial⟩ ⟨hq.1, hq.2.1, (hq.2.2.sift fun y hy => Or.inr (N y hy)).mono (by decide) (by decide)⟩⟩
theorem main_1_1 : Claimed_1_1 := comes_1 fun _ _ _ _ _ _ h hF => ⟨h.1, hF⟩
theorem main_1_2 : Claimed_1_2 := comes_1 fun _ _ _ _ _ _ h hF => ⟨h.2.1, hF⟩
end Jvm.Pilot.@@N@@
namespace Jvm.Pilot.@@N@@
open Jvm Jvm.ClassFile Sem Op Lib Jvm.Free Jvm.Stand Jvm.Pilot.@@N@@.Jvm.D
/-! MADE BY PROGRAM (witnessworld.py) out of the Statement's table words and the real class files: 11 classes; the members and pool entries that the words name. The judged class is class 1, her method 2. -/
namespace start1
open Jvm.ClassFile
def u (s : String) : CpInfo := .utf8 (stringToUtf16 s)
/-- a pool by its gaps: so many unusable entries, then the entry; so many at the end -/
def gap : Nat → List CpInfo → List CpInfo
  | 0, r => r
  | n + 1, r => .unusable :: gap n r
def poolList (es : List (Nat × CpInfo)) (last : Nat) : List CpInfo := es.foldr (fun e r => gap e.1 (e.2 :: r)) (gap last [])
def pool (es : List (Nat × CpInfo)) (last : Nat) : Array CpInfo := ⟨poolList es last⟩
def fileOf (pool : Array CpInfo) (this : Nat) (attrs : Array Attribute := #[]) (ms : Array MethodInfo := #[]) (fl : Nat := 33) (sup : Nat := 0) (ifs : Array Nat := #[]) (fds : Array FieldInfo := #[]) : ClassFile where
  minorVersion := 0
  majorVersion := 65
  constantPool := pool
  accessFlags := fl
  thisClass := this
  superClass := sup
  interfaces := ifs
  fields := fds
  methods := ms
  attributes := attrs
def plain (name : String) (sup : Option ClassId) : Class where
  name := name
  kind := .ordinary
  loader := none
  accessFlags := 33
  super := sup
  interfaces := #[]
  cf := none
  fields := #[]
  methods := #[]
  instanceTypes := #[]
  staticTypes := #[]
  resolved := #[]
  callSites := []
  init := .initialized
  statics := none
  mirror := none

def pool0 : Array CpInfo := pool [(5, u "<init>"), (0, u "()V"), (1, .class_ 10), (1, u "java/lang/Object")] 113

def k0m0 : Method := { name := "<init>", desc := "()V", sig := { parameters := [], returnType := none }, accessFlags := 1, code := none }
/-- java/lang/Object -/
def k0 : Class := { plain "java/lang/Object" none with
  accessFlags := 33
  interfaces := #[]
  cf := some (fileOf pool0 8 #[] #[{ accessFlags := 1, nameIndex := 5, descriptorIndex := 6, attributes := #[] }] 33 0 #[] #[])
  fields := #[]
  methods := #[k0m0]
  instanceTypes := #[]
  staticTypes := #[]
  resolved := Array.replicate 124 none
  statics := none }

def pool1 : Array CpInfo := pool [(2, .class_ 4), (1, u "java/lang/Object"), (0, u "<init>"), (0, u "()V"), (0, .integer 2147483647), (0, .methodref 9 10), (0, .class_ 11), (0, .nameAndType 12 13), (0, u "com/example/upright_balancer/uprightbalancer/traffic/MessageHead"), (0, u "isTokenCharacter"), (0, u "(I)Z"), (0, .methodref 15 16), (0, .class_ 17), (0, .nameAndType 18 13), (0, u "com/example/upright_balancer/uprightbalancer/traffic/MessageHeadIsTokenCharacterPinLaw"), (0, u "expected"), (3, u "law"), (0, u "(II)Z")] 2

def k1m0 : Method := { name := "<init>", desc := "()V", sig := { parameters := [], returnType := none }, accessFlags := 2, code := none }
def k1c1 : Code := { maxStack := 2, maxLocals := 1, code := method_2_code, exceptionTable := #[], attributes := #[] }
def k1m1 : Method := { name := "expected", desc := "(I)Z", sig := { parameters := [.int], returnType := some .boolean }, accessFlags := 10, code := some k1c1 }
def k1c2 : Code := { maxStack := 2, maxLocals := 3, code := code, exceptionTable := #[], attributes := #[] }
def k1m2 : Method := { name := "law", desc := "(II)Z", sig := { parameters := [.int, .int], returnType := some .boolean }, accessFlags := 9, code := some k1c2 }
/-- com/example/upright_balancer/uprightbalancer/traffic/MessageHeadIsTokenCharacterPinLaw -/
def k1 : Class := { plain "com/example/upright_balancer/uprightbalancer/traffic/MessageHeadIsTokenCharacterPinLaw" (some 0) with
  accessFlags := 49
  interfaces := #[]
  cf := some (fileOf pool1 15 #[] #[{ accessFlags := 2, nameIndex := 5, descriptorIndex := 6, attributes := #[] }, { accessFlags := 10, nameIndex := 18, descriptorIndex := 13, attributes := #[] }, { accessFlags := 9, nameIndex := 22, descriptorIndex := 23, attributes := #[] }] 49 2 #[] #[])
  fields := #[]
  methods := #[k1m0, k1m1, k1m2]
  instanceTypes := #[]
  staticTypes := #[]
  resolved := Array.replicate 26 none
  statics := none }

def pool2 : Array CpInfo := pool [(2, .class_ 4), (1, u "java/lang/Object"), (0, u "<init>"), (0, u "()V"), (0, .class_ 8), (0, u "com/example/upright_balancer/uprightbalancer/traffic/MessageHead"), (2, u "fields"), (0, u "[I"), (8, u "bytes"), (0, u "[B"), (2, u "fieldCount"), (0, u "I"), (16, u "size"), (2, u "lineFrom"), (2, u "lineTo"), (144, .fieldref 7 195), (0, .nameAndType 196 197), (0, u "TOKEN_CHARACTERS"), (0, u "[Z"), (39, u "HOP_BY_HOP"), (0, u "Ljava/util/List;"), (7, u "(I)Z"), (2, u "ALWAYS_FORWARDED"), (11, u "isTokenCharacter"), (30, u "MAX_FIELDS"), (2, u "CACHE_CONTROL"), (0, u "Ljava/lang/String;"), (0, u "CONNECTION"), (0, u "CONTENT_LENGTH"), (0, u "COOKIE"), (0, u "HOST"), (0, u "SET_COOKIE"), (0, u "TRANSFER_ENCODING"), (0, u "KEEP_ALIVE_FIELD"), (4, u "MAX_LENGTH_DIGITS"), (1, u "CRLF"), (0, u "COMMA"), (0, u "B"), (1, u "SEMICOLON")] 45

def k2m0 : Method := { name := "<init>", desc := "()V", sig := { parameters := [], returnType := none }, accessFlags := 0, code := none }
def k2c1 : Code := { maxStack := 2, maxLocals := 1, code := prog_80_method_20_code, exceptionTable := #[], attributes := #[] }
def k2m1 : Method := { name := "isTokenCharacter", desc := "(I)Z", sig := { parameters := [.int], returnType := some .boolean }, accessFlags := 8, code := some k2c1 }
/-- com/example/upright_balancer/uprightbalancer/traffic/MessageHead -/
def k2 : Class := { plain "com/example/upright_balancer/uprightbalancer/traffic/MessageHead" (some 0) with
  accessFlags := 48
  interfaces := #[]
  cf := some (fileOf pool2 7 #[] #[{ accessFlags := 0, nameIndex := 5, descriptorIndex := 6, attributes := #[] }, { accessFlags := 8, nameIndex := 261, descriptorIndex := 246, attributes := #[] }] 48 2 #[] #[{ accessFlags := 24, nameIndex := 292, descriptorIndex := 26, attributes := #[] }, { accessFlags := 24, nameIndex := 295, descriptorIndex := 296, attributes := #[] }, { accessFlags := 24, nameIndex := 297, descriptorIndex := 296, attributes := #[] }, { accessFlags := 24, nameIndex := 298, descriptorIndex := 296, attributes := #[] }, { accessFlags := 24, nameIndex := 299, descriptorIndex := 296, attributes := #[] }, { accessFlags := 24, nameIndex := 300, descriptorIndex := 296, attributes := #[] }, { accessFlags := 24, nameIndex := 301, descriptorIndex := 296, attributes := #[] }, { accessFlags := 24, nameIndex := 302, descriptorIndex := 296, attributes := #[] }, { accessFlags := 24, nameIndex := 303, descriptorIndex := 296, attributes := #[] }, { accessFlags := 26, nameIndex := 237, descriptorIndex := 238, attributes := #[] }, { accessFlags := 26, nameIndex := 249, descriptorIndex := 238, attributes := #[] }, { accessFlags := 26, nameIndex := 308, descriptorIndex := 26, attributes := #[] }, { accessFlags := 26, nameIndex := 310, descriptorIndex := 296, attributes := #[] }, { accessFlags := 26, nameIndex := 311, descriptorIndex := 312, attributes := #[] }, { accessFlags := 26, nameIndex := 314, descriptorIndex := 312, attributes := #[] }, { accessFlags := 26, nameIndex := 196, descriptorIndex := 197, attributes := #[] }, { accessFlags := 2, nameIndex := 21, descriptorIndex := 22, attributes := #[] }, { accessFlags := 2, nameIndex := 43, descriptorIndex := 26, attributes := #[] }, { accessFlags := 2, nameIndex := 46, descriptorIndex := 26, attributes := #[] }, { accessFlags := 2, nameIndex := 49, descriptorIndex := 26, attributes := #[] }, { accessFlags := 18, nameIndex := 11, descriptorIndex := 12, attributes := #[] }, { accessFlags := 2, nameIndex := 25, descriptorIndex := 26, attributes := #[] }])
  fields := #[{ name := "MAX_FIELDS", type := .int, accessFlags := 24, slot := 0, constantValue := 0 }, { name := "CACHE_CONTROL", type := (.object "java/lang/String"), accessFlags := 24, slot := 1, constantValue := 0 }, { name := "CONNECTION", type := (.object "java/lang/String"), accessFlags := 24, slot := 2, constantValue := 0 }, { name := "CONTENT_LENGTH", type := (.object "java/lang/String"), accessFlags := 24, slot := 3, constantValue := 0 }, { name := "COOKIE", type := (.object "java/lang/String"), accessFlags := 24, slot := 4, constantValue := 0 }, { name := "HOST", type := (.object "java/lang/String"), accessFlags := 24, slot := 5, constantValue := 0 }, { name := "SET_COOKIE", type := (.object "java/lang/String"), accessFlags := 24, slot := 6, constantValue := 0 }, { name := "TRANSFER_ENCODING", type := (.object "java/lang/String"), accessFlags := 24, slot := 7, constantValue := 0 }, { name := "KEEP_ALIVE_FIELD", type := (.object "java/lang/String"), accessFlags := 24, slot := 8, constantValue := 0 }, { name := "HOP_BY_HOP", type := (.object "java/util/List"), accessFlags := 26, slot := 9, constantValue := 0 }, { name := "ALWAYS_FORWARDED", type := (.object "java/util/List"), accessFlags := 26, slot := 10, constantValue := 0 }, { name := "MAX_LENGTH_DIGITS", type := .int, accessFlags := 26, slot := 11, constantValue := 0 }, { name := "CRLF", type := (.object "java/lang/String"), accessFlags := 26, slot := 12, constantValue := 0 }, { name := "COMMA", type := .byte, accessFlags := 26, slot := 13, constantValue := 0 }, { name := "SEMICOLON", type := .byte, accessFlags := 26, slot := 14, constantValue := 0 }, { name := "TOKEN_CHARACTERS", type := (.array .boolean), accessFlags := 26, slot := 15, constantValue := 0 }, { name := "bytes", type := (.array .byte), accessFlags := 2, slot := 0, constantValue := 0 }, { name := "size", type := .int, accessFlags := 2, slot := 1, constantValue := 0 }, { name := "lineFrom", type := .int, accessFlags := 2, slot := 2, constantValue := 0 }, { name := "lineTo", type := .int, accessFlags := 2, slot := 3, constantValue := 0 }, { name := "fields", type := (.array .int), accessFlags := 18, slot := 4, constantValue := 0 }, { name := "fieldCount", type := .int, accessFlags := 2, slot := 5, constantValue := 0 }]
  methods := #[k2m0, k2m1]
  instanceTypes := #[(.array .byte), .int, .int, .int, (.array .int), .int]
  staticTypes := #[.int, (.object "java/lang/String"), (.object "java/lang/String"), (.object "java/lang/String"), (.object "java/lang/String"), (.object "java/lang/String"), (.object "java/lang/String"), (.object "java/lang/String"), (.object "java/lang/String"), (.object "java/util/List"), (.object "java/util/List"), .int, (.object "java/lang/String"), .byte, .byte, (.array .boolean)]
  resolved := Array.replicate 360 none
  statics := some 0 }

def pool3 : Array CpInfo := pool [(1, u "java/lang/Cloneable"), (0, .class_ 1), (0, u "java/lang/Object"), (0, .class_ 3)] 3

/-- java/lang/Cloneable -/
def k3 : Class := { plain "java/lang/Cloneable" (some 0) with
  accessFlags := 1537
  interfaces := #[]
  cf := some (fileOf pool3 2 #[] #[] 1537 4 #[] #[])
  fields := #[]
  methods := #[]
  instanceTypes := #[]
  staticTypes := #[]
  resolved := Array.replicate 8 none
  statics := none }

def pool4 : Array CpInfo := pool [(1, u "java/io/Serializable"), (0, .class_ 1), (0, u "java/lang/Object"), (0, .class_ 3)] 3

/-- java/io/Serializable -/
def k4 : Class := { plain "java/io/Serializable" (some 0) with
  accessFlags := 1537
  interfaces := #[]
  cf := some (fileOf pool4 2 #[] #[] 1537 4 #[] #[])
  fields := #[]
  methods := #[]
  instanceTypes := #[]
  staticTypes := #[]
  resolved := Array.replicate 8 none
  statics := none }

/-- the primitive boolean -/
def k5 : Class := { plain "boolean" none with kind := .primitive 'Z', accessFlags := 0x411 }
/-- [Z -/
def k6 : Class := { plain "[Z" (some 0) with kind := .array 5 .boolean, interfaces := #[3, 4], accessFlags := 1041 }

/-- the primitive byte -/
def k7 : Class := { plain "byte" none with kind := .primitive 'B', accessFlags := 0x411 }
/-- [B -/
def k8 : Class := { plain "[B" (some 0) with kind := .array 7 .byte, interfaces := #[3, 4], accessFlags := 1041 }

/-- the primitive int -/
def k9 : Class := { plain "int" none with kind := .primitive 'I', accessFlags := 0x411 }
/-- [I -/
def k10 : Class := { plain "[I" (some 0) with kind := .array 9 .int, interfaces := #[3, 4], accessFlags := 1041 }

def heap : Heap := #[{ cls := 2, slots := #[.int 0, .null, .null, .null, .null, .null, .null, .null, .null, .null, .null, .int 0, .null, .int 0, .int 0, .ref 1], vm := .statics 2 },
  { cls := 6, slots := #[.int 0, .int 0, .int 0, .int 0, .int 0, .int 0, .int 0, .int 0, .int 0, .int 0, .int 0, .int 0, .int 0, .int 0, .int 0, .int 0, .int 0, .int 0, .int 0, .int 0, .int 0, .int 0, .int 0, .int 0, .int 0, .int 0, .int 0, .int 0, .int 0, .int 0, .int 0, .int 0, .int 0, .int 1, .int 0, .int 1, .int 1, .int 1, .int 1, .int 1, .int 0, .int 0, .int 1, .int 1, .int 0, .int 1, .int 1, .int 0, .int 1, .int 1, .int 1, .int 1, .int 1, .int 1, .int 1, .int 1, .int 1, .int 1, .int 0, .int 0, .int 0, .int 0, .int 0, .int 0, .int 0, .int 1, .int 1, .int 1, .int 1, .int 1, .int 1, .int 1, .int 1, .int 1, .int 1, .int 1, .int 1, .int 1, .int 1, .int 1, .int 1, .int 1, .int 1, .int 1, .int 1, .int 1, .int 1, .int 1, .int 1, .int 1, .int 1, .int 0, .int 0, .int 0, .int 1, .int 1, .int 1, .int 1, .int 1, .int 1, .int 1, .int 1, .int 1, .int 1, .int 1, .int 1, .int 1, .int 1, .int 1, .int 1, .int 1, .int 1, .int 1, .int 1, .int 1, .int 1, .int 1, .int 1, .int 1, .int 1, .int 1, .int 1, .int 1, .int 0, .int 1, .int 0, .int 1, .int 0], vm := .none }]
def classes : Array Class := #[k0, k1, k2, k3, k4, k5, k6, k7, k8, k9, k10]
def interned : List (Array UInt16 × Addr) := []
def slotsUsed : Nat := 144
def theMethod : MethodId := ⟨1, 2⟩
def args0 : Array Value := #[.int 65, .int 1]
def aboutOver (below : List Frame) : State where
  vm := { classes := classes, interned := interned.toArray }
  heap := heap
  slotsUsed := slotsUsed
  threads := #[{ frames := .invoking theMethod args0 :: below }]
def below0 : List Frame := [.native { method := ⟨0, 0⟩, args := #[] }]
def about1 : State := aboutOver below0
def p0 : Program := .bare "" "" ""
def e0 : Env := launch0.env 0 0 0
theorem w_frames : about1.frames = Frame.invoking theMethod args0 :: below0 := rfl
set_option maxRecDepth 65536 in
theorem w_args : argsFit about1.vm theMethod args0 = true := by decide +kernel
set_option maxRecDepth 65536 in
theorem w_heap : heapFits about1 = true := by decide +kernel
set_option maxRecDepth 65536 in
theorem w_runnable : about1.curStatus? = some .runnable := by decide +kernel
set_option maxRecDepth 65536 in
theorem w_alone : about1.alone = true := by decide +kernel
set_option maxRecDepth 65536 in
theorem w_named : about1.methodNamed? x = some theMethod := by decide +kernel
set_option maxRecDepth 65536 in
theorem w_hears : about1.hears theMethod below0 = true := by decide +kernel
set_option maxRecDepth 65536 in
theorem w_ripe : about1.ripe theMethod args0 below0 = true := by decide +kernel
theorem w_running : about1.status = .running := rfl
set_option maxRecDepth 65536 in
theorem w_room : about1.hasRoom e0.platform room_1 = true :=
  launch0.hasRoom_least _ room_1 (by decide +kernel) (by decide +kernel) (by decide +kernel) (by decide +kernel) (by decide +kernel) (by decide +kernel)
theorem allAtoms_all (ts : List Jvm.Cond) (a : Array Jvm.Value) (st : Jvm.State) : (allAtoms ts).before a st = ts.all (fun c => c.before a st) := by
  induction ts with
  | nil => rfl
  | cons c t ih =>
    show (Jvm.Cond.and c (allAtoms t)).before a st = _
    rw [Jvm.Cond.before_and, ih, List.all_cons]
def words1 : List Jvm.Cond := Jvm.Cond.code x code maxLocals ret :: tables_1
/-- a 'code' word, met by the world's own term for the bytes: nothing is compared byte by byte -/
theorem code_word {y : MethodName} {bytes : ByteArray} {mx : Nat} {rt : Option FieldType} {a : Array Value} {s : State} {m : MethodId} {meth : Method} {c : Code} (h1 : s.methodNamed? y = some m) (h2 : s.vm.method? m = some meth) (h3 : meth.code = some c) (h4 : c.code = bytes)
    (h5 : (c.maxLocals == mx && c.exceptionTable.isEmpty && decide (c.maxStack ≤ mostOperands) && decide (meth.sig.returnType = rt) && !meth.locks && decide (parseMethodDescriptor y.desc = some meth.sig)) = true) : (Jvm.Cond.code y bytes mx rt).before a s = true := by
  simp only [Bool.and_eq_true, beq_iff_eq, Bool.not_eq_true', decide_eq_true_eq] at h5
  obtain ⟨⟨⟨⟨⟨g1, g2⟩, g3⟩, g4⟩, g5⟩, g6⟩ := h5
  simp [Cond.before, Cond.holds, Cond.value, h1, h2, h3, h4, g1, g2, g3, g4, g5, g6]
def isCode : Jvm.Cond → Bool
  | .code _ _ _ _ => true
  | _ => false
theorem all_split {L : List Jvm.Cond} {P : Jvm.Cond → Bool} (h1 : L.all (fun c => isCode c || P c) = true) (h2 : ∀ c ∈ L.filter isCode, P c = true) : L.all P = true := by
  refine List.all_eq_true.mpr fun c hc => ?_
  have h := List.all_eq_true.mp h1 c hc
  rcases Bool.eq_false_or_eq_true (isCode c) with hi | hi
  · exact h2 c (List.mem_filter.mpr ⟨hc, hi⟩)
  · simpa [hi] using h
set_option maxRecDepth 65536 in
theorem w_c0 : (Jvm.Cond.code x code maxLocals ret).before args0 about1 = true := code_word (m := ⟨1, 2⟩) (meth := k1m2) (c := k1c2) (by decide +kernel) rfl rfl rfl (by decide +kernel)
set_option maxRecDepth 65536 in
theorem w_c1 : (Jvm.Cond.code ({ cls := "com/example/upright_balancer/uprightbalancer/traffic/MessageHead", name := "isTokenCharacter", desc := "(I)Z" } : Jvm.MethodName) prog_80_method_20_code (1 : Nat) (Option.some Jvm.ClassFile.FieldType.boolean)).before args0 about1 = true := code_word (m := ⟨2, 1⟩) (meth := k2m1) (c := k2c1) (by decide +kernel) rfl rfl rfl (by decide +kernel)
set_option maxRecDepth 65536 in
theorem w_c2 : (Jvm.Cond.code ({ cls := "com/example/upright_balancer/uprightbalancer/traffic/MessageHeadIsTokenCharacterPinLaw", name := "expected", desc := "(I)Z" } : Jvm.MethodName) method_2_code (1 : Nat) (Option.some Jvm.ClassFile.FieldType.boolean)).before args0 about1 = true := code_word (m := ⟨1, 1⟩) (meth := k1m1) (c := k1c1) (by decide +kernel) rfl rfl rfl (by decide +kernel)
def codes1 : List Jvm.Cond := [Jvm.Cond.code x code maxLocals ret, Jvm.Cond.code ({ cls := "com/example/upright_balancer/uprightbalancer/traffic/MessageHead", name := "isTokenCharacter", desc := "(I)Z" } : Jvm.MethodName) prog_80_method_20_code (1 : Nat) (Option.some Jvm.ClassFile.FieldType.boolean), Jvm.Cond.code ({ cls := "com/example/upright_balancer/uprightbalancer/traffic/MessageHeadIsTokenCharacterPinLaw", name := "expected", desc := "(I)Z" } : Jvm.MethodName) method_2_code (1 : Nat) (Option.some Jvm.ClassFile.FieldType.boolean)]
set_option maxRecDepth 65536 in
theorem codes_eq : words1.filter isCode = codes1 := rfl
theorem w_codes : ∀ c ∈ words1.filter isCode, c.before args0 about1 = true := by
  rw [codes_eq]
  intro c hc
  simp only [codes1, List.mem_cons, List.not_mem_nil, or_false] at hc
  rcases hc with rfl | rfl | rfl
  · exact w_c0
  · exact w_c1
  · exact w_c2
set_option maxRecDepth 65536 in
theorem w_t1 : words1.all (fun c => isCode c || c.before args0 about1) = true := by decide +kernel
theorem w_tables : (allAtoms (Jvm.Cond.code x code maxLocals ret :: tables_1)).before args0 about1 = true := by
  rw [allAtoms_all]
  show words1.all (fun c => c.before args0 about1) = true
  refine all_split ?_ w_codes
  rw [w_t1]
set_option maxRecDepth 65536 in
theorem w_case : (Jvm.Cond.and given_1 narrow_1).before args0 about1 = true := by decide +kernel
theorem w_applies : (headSpec (Jvm.Cond.code x code maxLocals ret :: tables_1) room_1).applies x e0.platform about1 = true :=
  (Spec.applies_iff w_frames).mpr ⟨w_running, w_runnable, w_alone, w_named, w_hears, w_ripe, w_room, w_tables⟩
theorem atStart : AtStart classFile x code maxLocals ret World_1 tables_1 room_1 Calls_1 rest_1 Pre_1 launch0 p0 e0 about1 theMethod args0 below0 :=
  ⟨lists_1, trivial, launch0.admits_env _ _ _, launch0.least_env, fairChoices_fair.cas, fairChoices_fair.clock, w_frames, w_args, w_heap, w_applies, trivial, trivial, w_case⟩
end start1
theorem witness_1 : WitnessClaimed_1 := ⟨start1.p0, start1.e0, start1.about1, start1.theMethod, start1.args0, start1.below0, start1.atStart⟩
end Jvm.Pilot.@@N@@
