import JvmDerived
import JvmDerived.Pilot.@@N@@Statement
import JvmDerived.Pilot.@@N@@Code
set_option linter.unusedVariables false
set_option linter.unusedSimpArgs false
namespace Jvm.Pilot.@@N@@
open Jvm Jvm.ClassFile Sem Op Lib Jvm.Free Jvm.Stand Jvm.LawKit Jvm.RoadKit Bundle Jvm.Pilot.@@N@@.Jvm.D
section OwnKit
variable {p : Program} {l : Launch} {e : Env} {R : Room} {s : State} {m : MethodId} {args : Array Value} {below : List Frame} {meth : Method} {c : Code} {T S S' : State} {locs : List Loc} {cells slots : Nat} {F : Outcome → State → Prop}
def Go (p : Program) (e : Env) (below : List Frame) (S : State) (F : Outcome → State → Prop) : Prop := ∃ (U : State) (o : Outcome), Steps p.tables e below S U ∧ U.status = .running ∧ Ended U below o ∧ F o U
theorem goIn {g g' : JFrame} (q : g = g') (k : Go p e below (T.setTop g') F) : ∃ (U : State) (o : Outcome), Steps p.tables e below (T.setTop g) U ∧ U.status = .running ∧ Ended U below o ∧ F o U := q ▸ k
theorem Go.by (st : ∀ t, Steps p.tables e below S' t → Steps p.tables e below S t) (k : Go p e below S' F) : Go p e below S F := by
  obtain ⟨U, o, h1, h2⟩ := k
  exact ⟨U, o, st _ h1, h2⟩
theorem Go.at (st : Steps p.tables e below S S') (k : Go p e below S' F) : Go p e below S F := by
  obtain ⟨U, o, h1, h2⟩ := k
  exact ⟨U, o, st.trans h1, h2⟩
theorem goRet {W : Option Value → Heap → List Loc → Prop} {C N : Nat} {v : Option Value} {g : JFrame} (X : Stand p l e R s m args below meth c T locs cells slots) (hv : meth.sig.returnType = none → v = none) (hlk : meth.locks = false)
    (hst : ∀ fs, (∀ (f : JFrame) (acts : List Action), f.method = m → f.locked = none → f.entered = [] → (doReturn e (T.setTop f) acts v).1 = T.setFrames fs) → Steps p.tables e below (T.setTop g) (T.setFrames fs))
    (hc : cells ≤ C) (hs : slots ≤ N) (hq : W v T.heap locs) : Go p e below (T.setTop g) (fun o U => ∃ v L, o = .returned v ∧ W v U.heap L ∧ FrameEnd s o U L C N) := by
  obtain ⟨fs, hr, hrun, hended, hW, hsame⟩ := X.leave (v := v) hv hlk
  exact ⟨_, _, hst fs hr, hrun, hended, _, _, rfl, hq, ⟨_, rfl⟩, hW, hsame.mono hc hs⟩
theorem goRetW {W : Option Value → Heap → List Loc → Prop} {C N n : Nat} {v : Option Value} {g : JFrame} {vm₁ : Vm} (X : Stand p l e R (s.setVm vm₁) m args below meth c T locs cells slots) (hS : s.Since vm₁ n) (hn : n ≤ T.heap.size) (hv : meth.sig.returnType = none → v = none) (hlk : meth.locks = false)
    (hst : ∀ fs, (∀ (f : JFrame) (acts : List Action), f.method = m → f.locked = none → f.entered = [] → (doReturn e (T.setTop f) acts v).1 = T.setFrames fs) → Steps p.tables e below (T.setTop g) (T.setFrames fs))
    (hc : cells ≤ C) (hs : slots ≤ N) (hq : W v T.heap locs) : Go p e below (T.setTop g) (fun o U => ∃ v L, o = .returned v ∧ W v U.heap L ∧ ReturnedEndW s o U L C N) := by
  obtain ⟨fs, hr, hrun, hended, h1, h2, h3, h4⟩ := X.leaveW hS hn (v := v) hv hlk
  exact ⟨_, _, hst fs hr, hrun, hended, _, _, rfl, hq, h1, h2, h3, h4.mono hc hs⟩
/-- it returns w; nothing old is written; the heap is h0 -/
def PureQ (w : Option Value) (h0 : Heap) (n0 : Nat) (v : Option Value) (h : Heap) (L : List Loc) : Prop := v = w ∧ Fr n0 L ∧ h = h0
end OwnKit
theorem pd_0 : parseMethodDescriptor "()V" = some ⟨[], none⟩ := by decide +kernel
theorem pd_1 : parseMethodDescriptor "(J)Ljava/lang/Long;" = some ⟨[.long], some (.object "java/lang/Long")⟩ := by decide +kernel
theorem pd_2 : parseMethodDescriptor "(Ljava/lang/Object;)Z" = some ⟨[(.object "java/lang/Object")], some .boolean⟩ := by decide +kernel
theorem pd_3 : parseMethodDescriptor "(Ljava/lang/Object;[Ljava/lang/Object;I)V" = some ⟨[(.object "java/lang/Object"), (.array (.object "java/lang/Object")), .int], none⟩ := by decide +kernel
theorem pd_4 : parseMethodDescriptor "()[Ljava/lang/Object;" = some ⟨[], some (.array (.object "java/lang/Object"))⟩ := by decide +kernel
theorem pd_5 : parseMethodDescriptor "(I)[Ljava/lang/Object;" = some ⟨[.int], some (.array (.object "java/lang/Object"))⟩ := by decide +kernel
theorem pd_6 : parseMethodDescriptor "(II)I" = some ⟨[.int, .int], some .int⟩ := by decide +kernel
theorem pd_7 : parseMethodDescriptor "(J)V" = some ⟨[.long], none⟩ := by decide +kernel
theorem pd_8 : parseMethodDescriptor "(Ljava/lang/Object;)Lcom/example/keys_to_patterns/keystopatterns/limit/Decision;" = some ⟨[(.object "java/lang/Object")], some (.object "com/example/keys_to_patterns/keystopatterns/limit/Decision")⟩ := by decide +kernel
theorem pd_9 : parseMethodDescriptor "(I)Ljava/lang/Object;" = some ⟨[.int], some (.object "java/lang/Object")⟩ := by decide +kernel
theorem pd_10 : parseMethodDescriptor "(IILjava/util/function/BiFunction;)I" = some ⟨[.int, .int, (.object "java/util/function/BiFunction")], some .int⟩ := by decide +kernel
theorem pd_11 : parseMethodDescriptor "()J" = some ⟨[], some .long⟩ := by decide +kernel
theorem pd_12 : parseMethodDescriptor "(J)I" = some ⟨[.long], some .int⟩ := by decide +kernel
theorem pd_13 : parseMethodDescriptor "(J)Ljava/time/Duration;" = some ⟨[.long], some (.object "java/time/Duration")⟩ := by decide +kernel
theorem pd_14 : parseMethodDescriptor "(JI)Ljava/time/Duration;" = some ⟨[.long, .int], some (.object "java/time/Duration")⟩ := by decide +kernel
theorem pd_15 : parseMethodDescriptor "(JI)V" = some ⟨[.long, .int], none⟩ := by decide +kernel
theorem pd_16 : parseMethodDescriptor "(ZILjava/time/Duration;)V" = some ⟨[.boolean, .int, (.object "java/time/Duration")], none⟩ := by decide +kernel
theorem pd_17 : parseMethodDescriptor "(Ljava/lang/Object;Ljava/lang/String;)Ljava/lang/Object;" = some ⟨[(.object "java/lang/Object"), (.object "java/lang/String")], some (.object "java/lang/Object")⟩ := by decide +kernel
theorem pd_18 : parseMethodDescriptor "()Z" = some ⟨[], some .boolean⟩ := by decide +kernel
theorem pd_19 : parseMethodDescriptor "()I" = some ⟨[], some .int⟩ := by decide +kernel
theorem pd_20 : parseMethodDescriptor "()Ljava/time/Duration;" = some ⟨[], some (.object "java/time/Duration")⟩ := by decide +kernel
theorem own_n1 : nar .boolean (1 : Int32) = 1 := by decide
theorem own_n0 : nar .boolean (0 : Int32) = 0 := by decide
theorem own_ext_wr {h0 h h' : Heap} {a : Addr} {sl : Nat} {v : Value} (E : Ext h0 h) (W : Wr h h' a sl v) (q : h0.size ≤ a) : Ext h0 h' := by
  refine ⟨by rw [W.size]; exact E.1, fun b c hb => ?_⟩
  obtain ⟨c', e1, -, -, -, e5, -⟩ := wr_at W (E.2 b c hb)
  have ne : b ≠ a := Nat.ne_of_lt (Nat.lt_of_lt_of_le (Array.getElem?_eq_some_iff.mp hb).1 q)
  rw [← e5 ne]; exact e1
theorem own_ext_trans {h0 h h' : Heap} (E : Ext h0 h) (E' : Ext h h') : Ext h0 h' := ⟨Nat.le_trans E.1 E'.1, fun b c hb => E'.2 b c (E.2 b c hb)⟩
theorem own_ext_refl (h : Heap) : Ext h h := ⟨Nat.le_refl _, fun _ _ q => q⟩
theorem own_ext_keep {h0 h h' : Heap} {ws : List Addr} (E : Ext h0 h) (K : Keep h h' ws) (q : ∀ x ∈ ws, h0.size ≤ x) : Ext h0 h' := by
  refine ⟨Nat.le_trans E.1 K.1, fun b c hb => K.2.1 b c (E.2 b c hb) fun z => ?_⟩
  exact absurd (Array.getElem?_eq_some_iff.mp hb).1 (Nat.not_lt.mpr (q b z))
theorem own_ns_root {Z : State} {a0 : Array Value} {O K : String} {n : Nat} (w : (Jvm.Cond.noSuperclass O).before a0 Z = true) (wk : (Jvm.Cond.instantiable K n).before a0 Z = true) (hn : O ≠ K) : NS Z O K := by
  obtain ⟨c, k, h1, h2, h3, -, -⟩ := Cond.noSuperclass_spec w
  obtain ⟨t, -, g1, -⟩ := Cond.instantiable_spec wk
  have ne := ids_ne h1 g1 hn
  refine ⟨c, t, h1, g1, fun fuel => ?_⟩
  cases fuel with
  | zero => rfl
  | succ f => simp [Vm.isSubclassAux, ne, h2, h3]
theorem own_ns_no {Z : State} {a0 : Array Value} {C S K : String} {n : Nat} (w : (Jvm.Cond.superclass C S).before a0 Z = true) (wk : (Jvm.Cond.instantiable K n).before a0 Z = true) (ns : NS Z C K) (hn : C ≠ K) : ∃ c t, Z.vm.findClass C = some c ∧ Z.vm.findClass K = some t ∧ Z.vm.assignable c t = false := by
  obtain ⟨c, t, h0, g0, n3⟩ := ns
  obtain ⟨p, k, kp, h1, h2, h3, h4, h5, -, h7⟩ := Cond.superclass_spec h0 w
  obtain ⟨t', k', g1, g2, g5, g7, -⟩ := Cond.instantiable_spec wk
  cases g0.symm.trans g1
  have ne := ids_ne h0 g0 hn
  have g8 : k'.isInterface = false := by
    cases hi : k'.isInterface with
    | false => rfl
    | true => rw [hi] at g7; simp at g7
  refine ⟨c, t, h0, g0, ?_⟩
  show Z.vm.assignableAux (255 + 1) c t = false
  simp [Vm.assignableAux, ne, h2, g2, h5, g5, g8, Vm.isSubclass, n3]
def LInitQ (Z : State) (a : Addr) (q : Int64) (h0 : Heap) (n0 : Nat) (v : Option Value) (h : Heap) (L : List Loc) : Prop := v = none ∧ Fr n0 L ∧ Keep h0 h [a] ∧ Exa Z h a "java/lang/Long" ∧ Fld Z h a "java/lang/Long" "value" "J" (.long q)
def BoxQ (Z : State) (q : Int64) (h0 : Heap) (n0 : Nat) (v : Option Value) (h : Heap) (L : List Loc) : Prop := ∃ r, v = some (.ref r) ∧ Fr n0 L ∧ Ext h0 h ∧ Exa Z h r "java/lang/Long" ∧ Fld Z h r "java/lang/Long" "value" "J" (.long q)
def ALQ (Z : State) (a : Addr) (mc sz : Int32) (ed : Value) (h0 : Heap) (n0 : Nat) (v : Option Value) (h : Heap) (L : List Loc) : Prop := v = none ∧ Fr n0 L ∧ Keep h0 h [a] ∧ Exa Z h a "java/util/ArrayList" ∧ Fld Z h a "java/util/AbstractList" "modCount" "I" (.int mc) ∧ Fld Z h a "java/util/ArrayList" "size" "I" (.int sz) ∧ Fld Z h a "java/util/ArrayList" "elementData" "[Ljava/lang/Object;" ed
def GrowQ (Z : State) (a : Addr) (mc : Int32) (h0 : Heap) (n0 : Nat) (v : Option Value) (h : Heap) (L : List Loc) : Prop := ∃ r k, v = some (.ref r) ∧ Fr n0 L ∧ Keep h0 h [a] ∧ h0.size ≤ r ∧ Exa Z h a "java/util/ArrayList" ∧ Fld Z h a "java/util/AbstractList" "modCount" "I" (.int mc) ∧ Fld Z h a "java/util/ArrayList" "size" "I" (.int 0) ∧ Fld Z h a "java/util/ArrayList" "elementData" "[Ljava/lang/Object;" (.ref r) ∧ Arv Z h r k (.object "java/lang/Object") 10 [.null, .null, .null, .null, .null, .null, .null, .null, .null, .null] .null ∧ Ovr Z k "java/lang/Object"
def AddQ (Z : State) (a : Addr) (mc sz : Int32) (vs : List Value) (w : Option Value) (h0 : Heap) (n0 : Nat) (v : Option Value) (h : Heap) (L : List Loc) : Prop := ∃ r k, v = w ∧ Fr n0 L ∧ n0 ≤ r ∧ Keep h0 h [a, r] ∧ Exa Z h a "java/util/ArrayList" ∧ Fld Z h a "java/util/AbstractList" "modCount" "I" (.int mc) ∧ Fld Z h a "java/util/ArrayList" "size" "I" (.int sz) ∧ Fld Z h a "java/util/ArrayList" "elementData" "[Ljava/lang/Object;" (.ref r) ∧ Arv Z h r k (.object "java/lang/Object") 10 vs .null ∧ Ovr Z k "java/lang/Object"
def DurQ (Z : State) (sc : Int64) (nn : Int32) (h0 : Heap) (n0 : Nat) (v : Option Value) (h : Heap) (L : List Loc) : Prop := ∃ r, v = some (.ref r) ∧ Fr n0 L ∧ Ext h0 h ∧ Exa Z h r "java/time/Duration" ∧ Fld Z h r "java/time/Duration" "seconds" "J" (.long sc) ∧ Fld Z h r "java/time/Duration" "nanos" "I" (.int nn)
def DIniQ (Z : State) (a : Addr) (sc : Int64) (nn : Int32) (h0 : Heap) (n0 : Nat) (v : Option Value) (h : Heap) (L : List Loc) : Prop := v = none ∧ Fr n0 L ∧ Keep h0 h [a] ∧ Exa Z h a "java/time/Duration" ∧ Fld Z h a "java/time/Duration" "seconds" "J" (.long sc) ∧ Fld Z h a "java/time/Duration" "nanos" "I" (.int nn)
def DecQ (Z : State) (a : Addr) (z p : Int32) (d : Addr) (h0 : Heap) (n0 : Nat) (v : Option Value) (h : Heap) (L : List Loc) : Prop := v = none ∧ Fr n0 L ∧ Keep h0 h [a] ∧ Exa Z h a "com/example/keys_to_patterns/keystopatterns/limit/Decision" ∧ Fld Z h a "com/example/keys_to_patterns/keystopatterns/limit/Decision" "allowed" "Z" (.int (nar .boolean z)) ∧ Fld Z h a "com/example/keys_to_patterns/keystopatterns/limit/Decision" "remaining" "I" (.int p) ∧ Fld Z h a "com/example/keys_to_patterns/keystopatterns/limit/Decision" "retryAfter" "Ljava/time/Duration;" (.ref d)
def RepQ (Z : State) (z p : Int32) (sc : Int64) (nn : Int32) (h0 : Heap) (n0 : Nat) (v : Option Value) (h : Heap) (L : List Loc) : Prop := ∃ r d, v = some (.ref r) ∧ Fr n0 L ∧ Ext h0 h ∧ Exa Z h r "com/example/keys_to_patterns/keystopatterns/limit/Decision" ∧ Fld Z h r "com/example/keys_to_patterns/keystopatterns/limit/Decision" "allowed" "Z" (.int (nar .boolean z)) ∧ Fld Z h r "com/example/keys_to_patterns/keystopatterns/limit/Decision" "remaining" "I" (.int p) ∧ Fld Z h r "com/example/keys_to_patterns/keystopatterns/limit/Decision" "retryAfter" "Ljava/time/Duration;" (.ref d) ∧ Exa Z h d "java/time/Duration" ∧ Fld Z h d "java/time/Duration" "seconds" "J" (.long sc) ∧ Fld Z h d "java/time/Duration" "nanos" "I" (.int nn)
def LawQ (n0 : Nat) (v : Option Value) (h : Heap) (L : List Loc) : Prop := v = some (.int 1) ∧ Fr n0 L
theorem own_sta_keep {Z : State} {h h' : Heap} {a : Addr} {C n d K : String} {v : Value} (S : Sta Z h C n d v) (Kp : Keep h h' [a]) (E : Exa Z h a K) : Sta Z h' C n d v := by
  obtain ⟨cf, i, k, f, st, cell, h1, h2, h3, h4, h5, h6, h7⟩ := S
  obtain ⟨c2, k2, e1, -, -, e4, -⟩ := E
  refine ⟨cf, i, k, f, st, cell, h1, h2, h3, h4, Kp.2.1 st cell h5 (fun q => ?_), h6, h7⟩
  cases List.mem_singleton.mp q
  cases h5.symm.trans e1
  rw [e4] at h6; cases h6
def secF (q : Int64) : Int64 := q / 1000
def nanF (q : Int64) : Int32 := (q - (q / 1000) * 1000).toInt32 * 1000000

theorem ef_rm3 (m : MethodId) (x0 : Addr) : entryFrame m #[(.ref x0)] 1 = mkF m 0 #[.val (.ref x0)] [] := by first | (simp [entryFrame, mkF, argsToLocals, Value.category]; done) | rfl
theorem pn_rm3 : plainName "java/util/AbstractCollection" = true := by first | (simp [plainName, overriddenIn]; done) | decide +kernel
theorem d3_0 : decode jdk_22_method_1_code 0 = .ok (.aload_n 0, 1) := by decide +kernel
theorem d3_1 : decode jdk_22_method_1_code 1 = .ok (.invokespecial 1, 3) := by decide +kernel
theorem d3_4 : decode jdk_22_method_1_code 4 = .ok (.return_, 1) := by decide +kernel
set_option maxRecDepth 65536 in
set_option maxHeartbeats 40000000 in
theorem rm3 (l : Launch) (Z : State) (a0 : Array Value) (hw : ∀ d ∈ tables_1, d.before a0 Z = true) (ws : List Jvm.Cond) (a : Addr)  (h0 : Heap) (n0 : Nat) :
    MetFree l (⟨"java/util/AbstractCollection", "<init>", "()V"⟩ : MethodName) (head1 (Jvm.Cond.code (⟨"java/util/AbstractCollection", "<init>", "()V"⟩ : MethodName) jdk_22_method_1_code 1 none :: ws) ({ frames := 1, cells := 0, slots := 0, locals := 12 } : Room)) (fun aa U => aa = #[(.ref a)] ∧ Z.Warmed39 U.vm ∧ U.heap = h0) (fun _ _ _ _ _ => True) (fun _ U o U' => ∃ v L, o = .returned v ∧ PureQ none h0 n0 v U'.heap L ∧ FrameEnd U o U' L ({ frames := 1, cells := 0, slots := 0, locals := 12 } : Room).cells ({ frames := 1, cells := 0, slots := 0, locals := 12 } : Room).slots) := by
  refine MetFree.of_bodySF (plainFor_of_name pn_rm3) hisR ?_
  intro p e s m args below meth c s₁ Bd hml0 hP hK
  obtain ⟨rfl, hZ, hh⟩ := hP
  have hx := Bd.exec
  have hby := Bd.bytes
  have hml : c.maxLocals = 1 := hml0
  have hown : s.vm.findClass "java/util/AbstractCollection" = some m.cls := findClass_of_methodNamed Bd.named
  have hnm := (name_of_methodNamed Bd.named Bd.method).1
  have X0 : Stand p l e ({ frames := 1, cells := 0, slots := 0, locals := 12 } : Room) s m #[(.ref a)] below meth c s₁ [] 0 0 := Stand.of_body Bd
  have e0 : s₁.heap = h0 := by rw [← hh, Bd.state]; rfl
  have N0 := Fr.nil n0
  refine goIn (ef_rm3 m a) ?_
  refine Go.by (S' := s₁.setTop (mkF m 1 #[.val (.ref a)] [(.ref a)])) (fun _ kt => XS.aloadN X0.here hx rfl (hb hby d3_0) rfl rfl  kt) ?_
  obtain ⟨T1, X1, e1, st1⟩ := initO X0 hx hZ hown (hw _ (List.mem_of_getElem? (i := 20) rfl)) (hw _ (List.mem_of_getElem? (i := 21) rfl)) (hw _ (List.mem_of_getElem? (i := 22) rfl)) e0 (g := (mkF m 1 #[.val (.ref a)] [(.ref a)])) rfl (by rw [hml]; rfl) rfl (hb hby d3_1) (by decide) (W := 0) (by show 2 * 0 + _ ≤ _; exact Nat.le_of_eq rfl) (by decide)
  refine Go.by (S' := T1.setTop (mkF m 4 #[.val (.ref a)] [])) st1 ?_
  refine goRet X1 (v := none) (fun _ => rfl) Bd.notSynchronized (fun fs hr => X1.returnOut hx Bd.returns (hb hby d3_4) hr) (by decide) (by decide) ?_
  exact ⟨rfl, N0, e1⟩
theorem ef_rm12 (m : MethodId) (x0 : Addr) : entryFrame m #[(.ref x0)] 1 = mkF m 0 #[.val (.ref x0)] [] := by first | (simp [entryFrame, mkF, argsToLocals, Value.category]; done) | rfl
theorem pn_rm12 : plainName "java/lang/Number" = true := by first | (simp [plainName, overriddenIn]; done) | decide +kernel
theorem d12_0 : decode jdk_18_method_1_code 0 = .ok (.aload_n 0, 1) := by decide +kernel
theorem d12_1 : decode jdk_18_method_1_code 1 = .ok (.invokespecial 1, 3) := by decide +kernel
theorem d12_4 : decode jdk_18_method_1_code 4 = .ok (.return_, 1) := by decide +kernel
set_option maxRecDepth 65536 in
set_option maxHeartbeats 40000000 in
theorem rm12 (l : Launch) (Z : State) (a0 : Array Value) (hw : ∀ d ∈ tables_1, d.before a0 Z = true) (ws : List Jvm.Cond) (a : Addr)  (h0 : Heap) (n0 : Nat) :
    MetFree l (⟨"java/lang/Number", "<init>", "()V"⟩ : MethodName) (head1 (Jvm.Cond.code (⟨"java/lang/Number", "<init>", "()V"⟩ : MethodName) jdk_18_method_1_code 1 none :: ws) ({ frames := 1, cells := 0, slots := 0, locals := 12 } : Room)) (fun aa U => aa = #[(.ref a)] ∧ Z.Warmed39 U.vm ∧ U.heap = h0) (fun _ _ _ _ _ => True) (fun _ U o U' => ∃ v L, o = .returned v ∧ PureQ none h0 n0 v U'.heap L ∧ FrameEnd U o U' L ({ frames := 1, cells := 0, slots := 0, locals := 12 } : Room).cells ({ frames := 1, cells := 0, slots := 0, locals := 12 } : Room).slots) := by
  refine MetFree.of_bodySF (plainFor_of_name pn_rm12) hisR ?_
  intro p e s m args below meth c s₁ Bd hml0 hP hK
  obtain ⟨rfl, hZ, hh⟩ := hP
  have hx := Bd.exec
  have hby := Bd.bytes
  have hml : c.maxLocals = 1 := hml0
  have hown : s.vm.findClass "java/lang/Number" = some m.cls := findClass_of_methodNamed Bd.named
  have hnm := (name_of_methodNamed Bd.named Bd.method).1
  have X0 : Stand p l e ({ frames := 1, cells := 0, slots := 0, locals := 12 } : Room) s m #[(.ref a)] below meth c s₁ [] 0 0 := Stand.of_body Bd
  have e0 : s₁.heap = h0 := by rw [← hh, Bd.state]; rfl
  have N0 := Fr.nil n0
  refine goIn (ef_rm12 m a) ?_
  refine Go.by (S' := s₁.setTop (mkF m 1 #[.val (.ref a)] [(.ref a)])) (fun _ kt => XS.aloadN X0.here hx rfl (hb hby d12_0) rfl rfl  kt) ?_
  obtain ⟨T1, X1, e1, st1⟩ := initO X0 hx hZ hown (hw _ (List.mem_of_getElem? (i := 79) rfl)) (hw _ (List.mem_of_getElem? (i := 21) rfl)) (hw _ (List.mem_of_getElem? (i := 22) rfl)) e0 (g := (mkF m 1 #[.val (.ref a)] [(.ref a)])) rfl (by rw [hml]; rfl) rfl (hb hby d12_1) (by decide) (W := 0) (by show 2 * 0 + _ ≤ _; exact Nat.le_of_eq rfl) (by decide)
  refine Go.by (S' := T1.setTop (mkF m 4 #[.val (.ref a)] [])) st1 ?_
  refine goRet X1 (v := none) (fun _ => rfl) Bd.notSynchronized (fun fs hr => X1.returnOut hx Bd.returns (hb hby d12_4) hr) (by decide) (by decide) ?_
  exact ⟨rfl, N0, e1⟩
theorem ef_rm25 (m : MethodId) (x0 : Addr) : entryFrame m #[(.ref x0)] 1 = mkF m 0 #[.val (.ref x0)] [] := by first | (simp [entryFrame, mkF, argsToLocals, Value.category]; done) | rfl
theorem pn_rm25 : plainName "java/lang/Record" = true := by first | (simp [plainName, overriddenIn]; done) | decide +kernel
theorem d25_0 : decode jdk_30_method_1_code 0 = .ok (.aload_n 0, 1) := by decide +kernel
theorem d25_1 : decode jdk_30_method_1_code 1 = .ok (.invokespecial 1, 3) := by decide +kernel
theorem d25_4 : decode jdk_30_method_1_code 4 = .ok (.return_, 1) := by decide +kernel
set_option maxRecDepth 65536 in
set_option maxHeartbeats 40000000 in
theorem rm25 (l : Launch) (Z : State) (a0 : Array Value) (hw : ∀ d ∈ tables_1, d.before a0 Z = true) (ws : List Jvm.Cond) (a : Addr)  (h0 : Heap) (n0 : Nat) :
    MetFree l (⟨"java/lang/Record", "<init>", "()V"⟩ : MethodName) (head1 (Jvm.Cond.code (⟨"java/lang/Record", "<init>", "()V"⟩ : MethodName) jdk_30_method_1_code 1 none :: ws) ({ frames := 1, cells := 0, slots := 0, locals := 12 } : Room)) (fun aa U => aa = #[(.ref a)] ∧ Z.Warmed39 U.vm ∧ U.heap = h0) (fun _ _ _ _ _ => True) (fun _ U o U' => ∃ v L, o = .returned v ∧ PureQ none h0 n0 v U'.heap L ∧ FrameEnd U o U' L ({ frames := 1, cells := 0, slots := 0, locals := 12 } : Room).cells ({ frames := 1, cells := 0, slots := 0, locals := 12 } : Room).slots) := by
  refine MetFree.of_bodySF (plainFor_of_name pn_rm25) hisR ?_
  intro p e s m args below meth c s₁ Bd hml0 hP hK
  obtain ⟨rfl, hZ, hh⟩ := hP
  have hx := Bd.exec
  have hby := Bd.bytes
  have hml : c.maxLocals = 1 := hml0
  have hown : s.vm.findClass "java/lang/Record" = some m.cls := findClass_of_methodNamed Bd.named
  have hnm := (name_of_methodNamed Bd.named Bd.method).1
  have X0 : Stand p l e ({ frames := 1, cells := 0, slots := 0, locals := 12 } : Room) s m #[(.ref a)] below meth c s₁ [] 0 0 := Stand.of_body Bd
  have e0 : s₁.heap = h0 := by rw [← hh, Bd.state]; rfl
  have N0 := Fr.nil n0
  refine goIn (ef_rm25 m a) ?_
  refine Go.by (S' := s₁.setTop (mkF m 1 #[.val (.ref a)] [(.ref a)])) (fun _ kt => XS.aloadN X0.here hx rfl (hb hby d25_0) rfl rfl  kt) ?_
  obtain ⟨T1, X1, e1, st1⟩ := initO X0 hx hZ hown (hw _ (List.mem_of_getElem? (i := 155) rfl)) (hw _ (List.mem_of_getElem? (i := 21) rfl)) (hw _ (List.mem_of_getElem? (i := 22) rfl)) e0 (g := (mkF m 1 #[.val (.ref a)] [(.ref a)])) rfl (by rw [hml]; rfl) rfl (hb hby d25_1) (by decide) (W := 0) (by show 2 * 0 + _ ≤ _; exact Nat.le_of_eq rfl) (by decide)
  refine Go.by (S' := T1.setTop (mkF m 4 #[.val (.ref a)] [])) st1 ?_
  refine goRet X1 (v := none) (fun _ => rfl) Bd.notSynchronized (fun fs hr => X1.returnOut hx Bd.returns (hb hby d25_4) hr) (by decide) (by decide) ?_
  exact ⟨rfl, N0, e1⟩
theorem ef_rm2 (m : MethodId) (x0 : Addr) : entryFrame m #[(.ref x0)] 1 = mkF m 0 #[.val (.ref x0)] [] := by first | (simp [entryFrame, mkF, argsToLocals, Value.category]; done) | rfl
theorem pn_rm2 : plainName "java/util/AbstractList" = true := by first | (simp [plainName, overriddenIn]; done) | decide +kernel
theorem d2_0 : decode jdk_39_method_1_code 0 = .ok (.aload_n 0, 1) := by decide +kernel
theorem d2_1 : decode jdk_39_method_1_code 1 = .ok (.invokespecial 1, 3) := by decide +kernel
theorem d2_4 : decode jdk_39_method_1_code 4 = .ok (.aload_n 0, 1) := by decide +kernel
theorem d2_5 : decode jdk_39_method_1_code 5 = .ok (.iconst 0, 1) := by decide +kernel
theorem d2_6 : decode jdk_39_method_1_code 6 = .ok (.putfield 7, 3) := by decide +kernel
theorem d2_9 : decode jdk_39_method_1_code 9 = .ok (.return_, 1) := by decide +kernel
set_option maxRecDepth 65536 in
set_option maxHeartbeats 40000000 in
theorem rm2 (l : Launch) (Z : State) (a0 : Array Value) (hw : ∀ d ∈ tables_1, d.before a0 Z = true) (ws : List Jvm.Cond) (a : Addr)  (h0 : Heap) (n0 : Nat) (F_a_modCount : Fld Z h0 a "java/util/AbstractList" "modCount" "I" (.int 0)) (F_a_size : Fld Z h0 a "java/util/ArrayList" "size" "I" (.int 0)) (F_a_elementData : Fld Z h0 a "java/util/ArrayList" "elementData" "[Ljava/lang/Object;" .null) (E_a : Exa Z h0 a "java/util/ArrayList") (g_a : n0 ≤ a) :
    MetFree l (⟨"java/util/AbstractList", "<init>", "()V"⟩ : MethodName) (head1 (Jvm.Cond.code (⟨"java/util/AbstractList", "<init>", "()V"⟩ : MethodName) jdk_39_method_1_code 1 none :: ws) ({ frames := 2, cells := 0, slots := 0, locals := 24 } : Room)) (fun aa U => aa = #[(.ref a)] ∧ Z.Warmed39 U.vm ∧ U.heap = h0) (fun _ _ _ _ _ => True) (fun _ U o U' => ∃ v L, o = .returned v ∧ ALQ Z a 0 0 .null h0 n0 v U'.heap L ∧ FrameEnd U o U' L ({ frames := 2, cells := 0, slots := 0, locals := 24 } : Room).cells ({ frames := 2, cells := 0, slots := 0, locals := 24 } : Room).slots) := by
  refine MetFree.of_bodySF (plainFor_of_name pn_rm2) hisR ?_
  intro p e s m args below meth c s₁ Bd hml0 hP hK
  obtain ⟨rfl, hZ, hh⟩ := hP
  have hx := Bd.exec
  have hby := Bd.bytes
  have hml : c.maxLocals = 1 := hml0
  have hown : s.vm.findClass "java/util/AbstractList" = some m.cls := findClass_of_methodNamed Bd.named
  have hnm := (name_of_methodNamed Bd.named Bd.method).1
  have X0 : Stand p l e ({ frames := 2, cells := 0, slots := 0, locals := 24 } : Room) s m #[(.ref a)] below meth c s₁ [] 0 0 := Stand.of_body Bd
  have e0 : s₁.heap = h0 := by rw [← hh, Bd.state]; rfl
  have N0 := Fr.nil n0
  have KP := Keep.refl h0 [a]
  refine goIn (ef_rm2 m a) ?_
  refine Go.by (S' := s₁.setTop (mkF m 1 #[.val (.ref a)] [(.ref a)])) (fun _ kt => XS.aloadN X0.here hx rfl (hb hby d2_0) rfl rfl  kt) ?_
  obtain ⟨_, _, ⟨T1, L1, k1, n1⟩, -, X1, ⟨Lc1, hQ1, l1, y1, z1⟩, st1⟩ := X0.specialBack hx (y := (⟨"java/util/AbstractCollection", "<init>", "()V"⟩ : MethodName)) rfl hown (mvT hZ (hw _ (List.mem_of_getElem? (i := 14) rfl))) (mvT hZ (hw _ (List.mem_of_getElem? (i := 15) rfl))) (mvT hZ (hw _ (List.mem_of_getElem? (i := 19) rfl))) (by decide) (backOf (W := 0) (rm3 l Z a0 hw [] a h0 n0) hZ (hw _ (List.mem_of_getElem? (i := 19) rfl)) (hw _ (List.mem_of_getElem? (i := 18) rfl)) (by decide) (by decide)) (g := (mkF m 1 #[.val (.ref a)] [(.ref a)])) rfl (by rw [hml]; rfl) (Steps.refl _) (a := a) (argsL := []) (rest := []) (lenOf pd_0 rfl) rfl (by show 2 * 0 + _ ≤ _; exact Nat.le_of_eq rfl) (hb hby d2_1) (fun _ _ => ⟨rfl, e0, (by decide : 0 + 0 ≤ _), (by decide : 0 + 0 ≤ _)⟩)
  dsimp only [Pt.U, Pt.locs, Pt.cells, Pt.slots] at X1 l1 y1 z1 st1 hQ1
  subst l1 y1 z1
  obtain ⟨rfl, N1q, e1⟩ := hQ1
  have N1 := Fr.app N0 N1q
  refine Go.at (S' := T1.setTop (mkF m 4 #[.val (.ref a)] [])) st1 ?_
  refine Go.by (S' := T1.setTop (mkF m 5 #[.val (.ref a)] [(.ref a)])) (fun _ kt => XS.aloadN X1.here hx rfl (hb hby d2_4) rfl rfl  kt) ?_
  refine Go.by (S' := T1.setTop (mkF m 6 #[.val (.ref a)] [(.int (0 : Int32)), (.ref a)])) (fun _ kt => XT.iconstV X1.here hx rfl (0 : Int32) (hb hby d2_5) (by decide)  kt) ?_
  obtain ⟨T2, h2, X2, e2, W2, st2⟩ := putF X1 hx hZ hown (host := "") (Or.inl (hw _ (List.mem_of_getElem? (i := 23) rfl))) Via.refl e1 F_a_modCount E_a (Or.inl (hw _ (List.mem_of_getElem? (i := 24) rfl))) (hw _ (List.mem_of_getElem? (i := 3) rfl)) (ty := .int) (by decide) rfl rfl (g := (mkF m 6 #[.val (.ref a)] [(.int (0 : Int32)), (.ref a)])) rfl rfl (hb hby d2_6)
  have F_a_modCount := F_a_modCount.same W2
  have E_a := E_a.wr W2
  have F_a_size := F_a_size.other W2 (Or.inr (slot_ne (Or.inl (hw _ (List.mem_of_getElem? (i := 44) rfl))) (Or.inl (hw _ (List.mem_of_getElem? (i := 24) rfl))) (by decide) (t := .int) (t' := .int) (by decide) (by decide)))
  have F_a_elementData := F_a_elementData.other W2 (Or.inr (slot_ne (Or.inl (hw _ (List.mem_of_getElem? (i := 27) rfl))) (Or.inl (hw _ (List.mem_of_getElem? (i := 24) rfl))) (by decide) (t := (.array (.object "java/lang/Object"))) (t' := .int) (by decide) (by decide)))
  have KP := KP.wr W2 (Or.inl (List.mem_of_getElem? (i := 0) rfl))
  have N2 := Fr.snoc X2 N1 g_a
  refine Go.by (S' := T2.setTop (mkF m 9 #[.val (.ref a)] [])) st2 ?_
  refine goRet X2 (v := none) (fun _ => rfl) Bd.notSynchronized (fun fs hr => X2.returnOut hx Bd.returns (hb hby d2_9) hr) (by decide) (by decide) ?_
  rw [e2]
  exact ⟨rfl, N2, KP, E_a, F_a_modCount, F_a_size, F_a_elementData⟩
theorem ef_rm1 (m : MethodId) (x0 : Addr) : entryFrame m #[(.ref x0)] 1 = mkF m 0 #[.val (.ref x0)] [] := by first | (simp [entryFrame, mkF, argsToLocals, Value.category]; done) | rfl
theorem pn_rm1 : plainName "java/util/ArrayList" = true := by first | (simp [plainName, overriddenIn]; done) | decide +kernel
theorem d1_0 : decode jdk_38_method_2_code 0 = .ok (.aload_n 0, 1) := by decide +kernel
theorem d1_1 : decode jdk_38_method_2_code 1 = .ok (.invokespecial 1, 3) := by decide +kernel
theorem d1_4 : decode jdk_38_method_2_code 4 = .ok (.aload_n 0, 1) := by decide +kernel
theorem d1_5 : decode jdk_38_method_2_code 5 = .ok (.getstatic 39, 3) := by decide +kernel
theorem d1_8 : decode jdk_38_method_2_code 8 = .ok (.putfield 9, 3) := by decide +kernel
theorem d1_11 : decode jdk_38_method_2_code 11 = .ok (.return_, 1) := by decide +kernel
set_option maxRecDepth 65536 in
set_option maxHeartbeats 40000000 in
theorem rm1 (l : Launch) (Z : State) (a0 : Array Value) (hw : ∀ d ∈ tables_1, d.before a0 Z = true) (ws : List Jvm.Cond) (a : Addr) (te : Addr) (h0 : Heap) (n0 : Nat) (F_a_modCount : Fld Z h0 a "java/util/AbstractList" "modCount" "I" (.int 0)) (F_a_size : Fld Z h0 a "java/util/ArrayList" "size" "I" (.int 0)) (F_a_elementData : Fld Z h0 a "java/util/ArrayList" "elementData" "[Ljava/lang/Object;" .null) (E_a : Exa Z h0 a "java/util/ArrayList") (g_a : n0 ≤ a) (SD : Sta Z h0 "java/util/ArrayList" "DEFAULTCAPACITY_EMPTY_ELEMENTDATA" "[Ljava/lang/Object;" (.ref te)) :
    MetFree l (⟨"java/util/ArrayList", "<init>", "()V"⟩ : MethodName) (head1 (Jvm.Cond.code (⟨"java/util/ArrayList", "<init>", "()V"⟩ : MethodName) jdk_38_method_2_code 1 none :: ws) ({ frames := 3, cells := 0, slots := 0, locals := 36 } : Room)) (fun aa U => aa = #[(.ref a)] ∧ Z.Warmed39 U.vm ∧ U.heap = h0) (fun _ _ _ _ _ => True) (fun _ U o U' => ∃ v L, o = .returned v ∧ ALQ Z a 0 0 (.ref te) h0 n0 v U'.heap L ∧ FrameEnd U o U' L ({ frames := 3, cells := 0, slots := 0, locals := 36 } : Room).cells ({ frames := 3, cells := 0, slots := 0, locals := 36 } : Room).slots) := by
  refine MetFree.of_bodySF (plainFor_of_name pn_rm1) hisR ?_
  intro p e s m args below meth c s₁ Bd hml0 hP hK
  obtain ⟨rfl, hZ, hh⟩ := hP
  have hx := Bd.exec
  have hby := Bd.bytes
  have hml : c.maxLocals = 1 := hml0
  have hown : s.vm.findClass "java/util/ArrayList" = some m.cls := findClass_of_methodNamed Bd.named
  have hnm := (name_of_methodNamed Bd.named Bd.method).1
  have X0 : Stand p l e ({ frames := 3, cells := 0, slots := 0, locals := 36 } : Room) s m #[(.ref a)] below meth c s₁ [] 0 0 := Stand.of_body Bd
  have e0 : s₁.heap = h0 := by rw [← hh, Bd.state]; rfl
  have N0 := Fr.nil n0
  refine goIn (ef_rm1 m a) ?_
  refine Go.by (S' := s₁.setTop (mkF m 1 #[.val (.ref a)] [(.ref a)])) (fun _ kt => XS.aloadN X0.here hx rfl (hb hby d1_0) rfl rfl  kt) ?_
  obtain ⟨_, _, ⟨T1, L1, k1, n1⟩, -, X1, ⟨Lc1, hQ1, l1, y1, z1⟩, st1⟩ := X0.specialBack hx (y := (⟨"java/util/AbstractList", "<init>", "()V"⟩ : MethodName)) rfl hown (mvT hZ (hw _ (List.mem_of_getElem? (i := 8) rfl))) (mvT hZ (hw _ (List.mem_of_getElem? (i := 9) rfl))) (mvT hZ (hw _ (List.mem_of_getElem? (i := 13) rfl))) (by decide) (backOf (W := 0) (rm2 l Z a0 hw [] a h0 n0 F_a_modCount F_a_size F_a_elementData E_a g_a) hZ (hw _ (List.mem_of_getElem? (i := 13) rfl)) (hw _ (List.mem_of_getElem? (i := 12) rfl)) (by decide) (by decide)) (g := (mkF m 1 #[.val (.ref a)] [(.ref a)])) rfl (by rw [hml]; rfl) (Steps.refl _) (a := a) (argsL := []) (rest := []) (lenOf pd_0 rfl) rfl (by show 2 * 0 + _ ≤ _; exact Nat.le_of_eq rfl) (hb hby d1_1) (fun _ _ => ⟨rfl, e0, (by decide : 0 + 0 ≤ _), (by decide : 0 + 0 ≤ _)⟩)
  dsimp only [Pt.U, Pt.locs, Pt.cells, Pt.slots] at X1 l1 y1 z1 st1 hQ1
  subst l1 y1 z1
  obtain ⟨rfl, N1q, KP, E_a', F_a_modCount, F_a_size, F_a_elementData⟩ := hQ1
  have N1 := Fr.app N0 N1q
  have SD := own_sta_keep SD KP E_a
  have E_a := E_a'
  refine Go.at (S' := T1.setTop (mkF m 4 #[.val (.ref a)] [])) st1 ?_
  refine Go.by (S' := T1.setTop (mkF m 5 #[.val (.ref a)] [(.ref a)])) (fun _ kt => XS.aloadN X1.here hx rfl (hb hby d1_4) rfl rfl  kt) ?_
  obtain ⟨T2, X2, e2, st2⟩ := getS2 X1 hx hZ hown (host := "") (Or.inl (hw _ (List.mem_of_getElem? (i := 25) rfl))) Via.refl rfl SD (g := (mkF m 5 #[.val (.ref a)] [(.ref a)])) rfl (hb hby d1_5)
  refine Go.by (S' := T2.setTop (mkF m 8 #[.val (.ref a)] [(.ref te), (.ref a)])) st2 ?_
  obtain ⟨T3, h3, X3, e3, W3, st3⟩ := putF X2 hx hZ hown (host := "") (Or.inl (hw _ (List.mem_of_getElem? (i := 26) rfl))) Via.refl e2 F_a_elementData E_a (Or.inl (hw _ (List.mem_of_getElem? (i := 27) rfl))) (hw _ (List.mem_of_getElem? (i := 3) rfl)) (ty := (.array (.object "java/lang/Object"))) (by decide) rfl rfl (g := (mkF m 8 #[.val (.ref a)] [(.ref te), (.ref a)])) rfl rfl (hb hby d1_8)
  have F_a_elementData := F_a_elementData.same W3
  have E_a := E_a.wr W3
  have F_a_modCount := F_a_modCount.other W3 (Or.inr (slot_ne (Or.inl (hw _ (List.mem_of_getElem? (i := 24) rfl))) (Or.inl (hw _ (List.mem_of_getElem? (i := 27) rfl))) (by decide) (t := .int) (t' := (.array (.object "java/lang/Object"))) (by decide) (by decide)))
  have F_a_size := F_a_size.other W3 (Or.inr (slot_ne (Or.inl (hw _ (List.mem_of_getElem? (i := 44) rfl))) (Or.inl (hw _ (List.mem_of_getElem? (i := 27) rfl))) (by decide) (t := .int) (t' := (.array (.object "java/lang/Object"))) (by decide) (by decide)))
  have KP := KP.wr W3 (Or.inl (List.mem_of_getElem? (i := 0) rfl))
  have N3 := Fr.snoc X3 N1 g_a
  refine Go.by (S' := T3.setTop (mkF m 11 #[.val (.ref a)] [])) st3 ?_
  refine goRet X3 (v := none) (fun _ => rfl) Bd.notSynchronized (fun fs hr => X3.returnOut hx Bd.returns (hb hby d1_11) hr) (by decide) (by decide) ?_
  rw [e3]
  exact ⟨rfl, N3, KP, E_a, F_a_modCount, F_a_size, F_a_elementData⟩
theorem ef_rm11 (m : MethodId) (x0 : Addr) (x1 : Int64) : entryFrame m #[(.ref x0), (.long x1)] 3 = mkF m 0 #[.val (.ref x0), .val (.long x1), .second] [] := by first | (simp [entryFrame, mkF, argsToLocals, Value.category]; done) | rfl
theorem pn_rm11 : plainName "java/lang/Long" = true := by first | (simp [plainName, overriddenIn]; done) | decide +kernel
theorem d11_0 : decode jdk_35_method_26_code 0 = .ok (.aload_n 0, 1) := by decide +kernel
theorem d11_1 : decode jdk_35_method_26_code 1 = .ok (.invokespecial 270, 3) := by decide +kernel
theorem d11_4 : decode jdk_35_method_26_code 4 = .ok (.aload_n 0, 1) := by decide +kernel
theorem d11_5 : decode jdk_35_method_26_code 5 = .ok (.lload_n 1, 1) := by decide +kernel
theorem d11_6 : decode jdk_35_method_26_code 6 = .ok (.putfield 273, 3) := by decide +kernel
theorem d11_9 : decode jdk_35_method_26_code 9 = .ok (.return_, 1) := by decide +kernel
set_option maxRecDepth 65536 in
set_option maxHeartbeats 40000000 in
theorem rm11 (l : Launch) (Z : State) (a0 : Array Value) (hw : ∀ d ∈ tables_1, d.before a0 Z = true) (ws : List Jvm.Cond) (a : Addr) (q : Int64)  (h0 : Heap) (n0 : Nat) (F_a_value : Fld Z h0 a "java/lang/Long" "value" "J" (.long 0)) (E_a : Exa Z h0 a "java/lang/Long") (g_a : n0 ≤ a) :
    MetFree l (⟨"java/lang/Long", "<init>", "(J)V"⟩ : MethodName) (head1 (Jvm.Cond.code (⟨"java/lang/Long", "<init>", "(J)V"⟩ : MethodName) jdk_35_method_26_code 3 none :: ws) ({ frames := 2, cells := 0, slots := 0, locals := 24 } : Room)) (fun aa U => aa = #[(.ref a), (.long q)] ∧ Z.Warmed39 U.vm ∧ U.heap = h0) (fun _ _ _ _ _ => True) (fun _ U o U' => ∃ v L, o = .returned v ∧ LInitQ Z a q h0 n0 v U'.heap L ∧ FrameEnd U o U' L ({ frames := 2, cells := 0, slots := 0, locals := 24 } : Room).cells ({ frames := 2, cells := 0, slots := 0, locals := 24 } : Room).slots) := by
  refine MetFree.of_bodySF (plainFor_of_name pn_rm11) hisR ?_
  intro p e s m args below meth c s₁ Bd hml0 hP hK
  obtain ⟨rfl, hZ, hh⟩ := hP
  have hx := Bd.exec
  have hby := Bd.bytes
  have hml : c.maxLocals = 3 := hml0
  have hown : s.vm.findClass "java/lang/Long" = some m.cls := findClass_of_methodNamed Bd.named
  have hnm := (name_of_methodNamed Bd.named Bd.method).1
  have X0 : Stand p l e ({ frames := 2, cells := 0, slots := 0, locals := 24 } : Room) s m #[(.ref a), (.long q)] below meth c s₁ [] 0 0 := Stand.of_body Bd
  have e0 : s₁.heap = h0 := by rw [← hh, Bd.state]; rfl
  have N0 := Fr.nil n0
  have KP := Keep.refl h0 [a]
  refine goIn (ef_rm11 m a q) ?_
  refine Go.by (S' := s₁.setTop (mkF m 1 #[.val (.ref a), .val (.long q), .second] [(.ref a)])) (fun _ kt => XS.aloadN X0.here hx rfl (hb hby d11_0) rfl rfl  kt) ?_
  obtain ⟨_, _, ⟨T1, L1, k1, n1⟩, -, X1, ⟨Lc1, hQ1, l1, y1, z1⟩, st1⟩ := X0.specialBack hx (y := (⟨"java/lang/Number", "<init>", "()V"⟩ : MethodName)) rfl hown (mvT hZ (hw _ (List.mem_of_getElem? (i := 73) rfl))) (mvT hZ (hw _ (List.mem_of_getElem? (i := 74) rfl))) (mvT hZ (hw _ (List.mem_of_getElem? (i := 78) rfl))) (by decide) (backOf (W := 0) (rm12 l Z a0 hw [] a h0 n0) hZ (hw _ (List.mem_of_getElem? (i := 78) rfl)) (hw _ (List.mem_of_getElem? (i := 77) rfl)) (by decide) (by decide)) (g := (mkF m 1 #[.val (.ref a), .val (.long q), .second] [(.ref a)])) rfl (by rw [hml]; rfl) (Steps.refl _) (a := a) (argsL := []) (rest := []) (lenOf pd_0 rfl) rfl (by show 2 * 0 + _ ≤ _; exact Nat.le_of_eq rfl) (hb hby d11_1) (fun _ _ => ⟨rfl, e0, (by decide : 0 + 0 ≤ _), (by decide : 0 + 0 ≤ _)⟩)
  dsimp only [Pt.U, Pt.locs, Pt.cells, Pt.slots] at X1 l1 y1 z1 st1 hQ1
  subst l1 y1 z1
  obtain ⟨rfl, N1q, e1⟩ := hQ1
  have N1 := Fr.app N0 N1q
  refine Go.at (S' := T1.setTop (mkF m 4 #[.val (.ref a), .val (.long q), .second] [])) st1 ?_
  refine Go.by (S' := T1.setTop (mkF m 5 #[.val (.ref a), .val (.long q), .second] [(.ref a)])) (fun _ kt => XS.aloadN X1.here hx rfl (hb hby d11_4) rfl rfl  kt) ?_
  refine Go.by (S' := T1.setTop (mkF m 6 #[.val (.ref a), .val (.long q), .second] [(.long q), (.ref a)])) (fun _ kt => XS.lloadN X1.here hx rfl (hb hby d11_5) rfl  kt) ?_
  obtain ⟨T2, h2, X2, e2, W2, st2⟩ := putF X1 hx hZ hown (host := "") (Or.inl (hw _ (List.mem_of_getElem? (i := 80) rfl))) Via.refl e1 F_a_value E_a (Or.inr ⟨(hw _ (List.mem_of_getElem? (i := 81) rfl)), rfl, hnm⟩) (hw _ (List.mem_of_getElem? (i := 68) rfl)) (ty := .long) (by decide) rfl rfl (g := (mkF m 6 #[.val (.ref a), .val (.long q), .second] [(.long q), (.ref a)])) rfl rfl (hb hby d11_6)
  have F_a_value := F_a_value.same W2
  have E_a := E_a.wr W2
  have KP := KP.wr W2 (Or.inl (List.mem_of_getElem? (i := 0) rfl))
  have N2 := Fr.snoc X2 N1 g_a
  refine Go.by (S' := T2.setTop (mkF m 9 #[.val (.ref a), .val (.long q), .second] [])) st2 ?_
  refine goRet X2 (v := none) (fun _ => rfl) Bd.notSynchronized (fun fs hr => X2.returnOut hx Bd.returns (hb hby d11_9) hr) (by decide) (by decide) ?_
  rw [e2]
  exact ⟨rfl, N2, KP, E_a, F_a_value⟩
theorem own_l2i {q : Int64} (h1 : ¬ q < -128) (h2 : ¬ 127 < q) : ¬ q.toInt32 + 128 < 0 ∧ q.toInt32 + 128 < 256 ∧ (q.toInt32 + 128 - 128).toInt64 = q := by
  rw [Int64.lt_iff_toInt_lt] at h1 h2
  have e1 : (-128 : Int64).toInt = -128 := by decide
  have e2 : (127 : Int64).toInt = 127 := by decide
  rw [e1] at h1; rw [e2] at h2
  have e3 : q.toInt32.toInt = q.toInt := by rw [Int64.toInt_toInt32]; exact Int.bmod_eq_of_le (by omega) (by omega)
  have e4 : (q.toInt32 + 128).toInt = q.toInt + 128 := by
    rw [Int32.toInt_add, e3]
    have e : (128 : Int32).toInt = 128 := by decide
    rw [e]
    exact Int.bmod_eq_of_le (by omega) (by omega)
  have e5 : (0 : Int32).toInt = 0 := by decide
  have e6 : (256 : Int32).toInt = 256 := by decide
  refine ⟨?_, ?_, ?_⟩
  · rw [Int32.lt_iff_toInt_lt, e4, e5]; omega
  · rw [Int32.lt_iff_toInt_lt, e4, e6]; omega
  · have e7 : q.toInt32 + 128 - 128 = q.toInt32 := by rw [Int32.add_sub_cancel]
    rw [e7]
    apply Int64.toInt_inj.mp
    rw [Int32.toInt_toInt64, e3]
theorem ef_rm5 (m : MethodId) (x0 : Int64) : entryFrame m #[(.long x0)] 3 = mkF m 0 #[.val (.long x0), .second, .unset] [] := by first | (simp [entryFrame, mkF, argsToLocals, Value.category]; done) | rfl
theorem pn_rm5 : plainName "java/lang/Long" = true := by first | (simp [plainName, overriddenIn]; done) | decide +kernel
theorem d5_0 : decode jdk_35_method_24_code 0 = .ok (.sipush 128, 3) := by decide +kernel
theorem d5_3 : decode jdk_35_method_24_code 3 = .ok (.istore_n 2, 1) := by decide +kernel
theorem d5_4 : decode jdk_35_method_24_code 4 = .ok (.lload_n 0, 1) := by decide +kernel
theorem d5_5 : decode jdk_35_method_24_code 5 = .ok (.ldc2_w 230, 3) := by decide +kernel
theorem d5_8 : decode jdk_35_method_24_code 8 = .ok (.lcmp, 1) := by decide +kernel
theorem d5_9 : decode jdk_35_method_24_code 9 = .ok (.ifCond .lt 22, 3) := by decide +kernel
theorem d5_12 : decode jdk_35_method_24_code 12 = .ok (.lload_n 0, 1) := by decide +kernel
theorem d5_13 : decode jdk_35_method_24_code 13 = .ok (.ldc2_w 232, 3) := by decide +kernel
theorem d5_16 : decode jdk_35_method_24_code 16 = .ok (.lcmp, 1) := by decide +kernel
theorem d5_17 : decode jdk_35_method_24_code 17 = .ok (.ifCond .gt 14, 3) := by decide +kernel
theorem d5_20 : decode jdk_35_method_24_code 20 = .ok (.getstatic 234, 3) := by decide +kernel
theorem d5_23 : decode jdk_35_method_24_code 23 = .ok (.lload_n 0, 1) := by decide +kernel
theorem d5_24 : decode jdk_35_method_24_code 24 = .ok (.l2i, 1) := by decide +kernel
theorem d5_25 : decode jdk_35_method_24_code 25 = .ok (.sipush 128, 3) := by decide +kernel
theorem d5_28 : decode jdk_35_method_24_code 28 = .ok (.iadd, 1) := by decide +kernel
theorem d5_29 : decode jdk_35_method_24_code 29 = .ok (.aaload, 1) := by decide +kernel
theorem d5_30 : decode jdk_35_method_24_code 30 = .ok (.areturn, 1) := by decide +kernel
theorem d5_31 : decode jdk_35_method_24_code 31 = .ok (.new 1, 3) := by decide +kernel
theorem d5_34 : decode jdk_35_method_24_code 34 = .ok (.dup, 1) := by decide +kernel
theorem d5_35 : decode jdk_35_method_24_code 35 = .ok (.lload_n 0, 1) := by decide +kernel
theorem d5_36 : decode jdk_35_method_24_code 36 = .ok (.invokespecial 240, 3) := by decide +kernel
theorem d5_39 : decode jdk_35_method_24_code 39 = .ok (.areturn, 1) := by decide +kernel
set_option maxRecDepth 65536 in
set_option maxHeartbeats 40000000 in
theorem rm5 (l : Launch) (Z : State) (a0 : Array Value) (hw : ∀ d ∈ tables_1, d.before a0 Z = true) (ws : List Jvm.Cond) (q : Int64) (tc : Addr) (cl : Cell) (val : Int32 → Value) (h0 : Heap) (n0 : Nat) (Z0 : n0 ≤ h0.size) (SC : Sta Z h0 "java/lang/Long$LongCache" "cache" "[Ljava/lang/Long;" (.ref tc)) (BX : Bxs Z tc cl "java/lang/Long" "J" 256 val) (hval : ∀ j, val j = .long (j - 128).toInt64) (EZ : Ext Z.heap h0) :
    MetFree l (⟨"java/lang/Long", "valueOf", "(J)Ljava/lang/Long;"⟩ : MethodName) (head1 (Jvm.Cond.code (⟨"java/lang/Long", "valueOf", "(J)Ljava/lang/Long;"⟩ : MethodName) jdk_35_method_24_code 3 (some (.object "java/lang/Long")) :: ws) ({ frames := 3, cells := 1, slots := 1, locals := 39 } : Room)) (fun aa U => aa = #[(.long q)] ∧ Z.Warmed39 U.vm ∧ U.heap = h0) (fun _ _ _ _ _ => True) (fun _ U o U' => ∃ v L, o = .returned v ∧ BoxQ Z q h0 n0 v U'.heap L ∧ FrameEnd U o U' L ({ frames := 3, cells := 1, slots := 1, locals := 39 } : Room).cells ({ frames := 3, cells := 1, slots := 1, locals := 39 } : Room).slots) := by
  refine MetFree.of_bodySF (plainFor_of_name pn_rm5) hisR ?_
  intro p e s m args below meth c s₁ Bd hml0 hP hK
  obtain ⟨rfl, hZ, hh⟩ := hP
  have hx := Bd.exec
  have hby := Bd.bytes
  have hml : c.maxLocals = 3 := hml0
  have hown : s.vm.findClass "java/lang/Long" = some m.cls := findClass_of_methodNamed Bd.named
  have hnm := (name_of_methodNamed Bd.named Bd.method).1
  have X0 : Stand p l e ({ frames := 3, cells := 1, slots := 1, locals := 39 } : Room) s m #[(.long q)] below meth c s₁ [] 0 0 := Stand.of_body Bd
  have e0 : s₁.heap = h0 := by rw [← hh, Bd.state]; rfl
  have N0 := Fr.nil n0
  refine goIn (ef_rm5 m q) ?_
  refine Go.by (S' := s₁.setTop (mkF m 3 #[.val (.long q), .second, .unset] [(.int (128 : Int32))])) (fun _ kt => XT.sipushV X0.here hx rfl (128 : Int32) (hb hby d5_0) (by decide)  kt) ?_
  refine Go.by (S' := s₁.setTop (mkF m 4 #[.val (.long q), .second, .val (.int (128 : Int32))] [])) (fun _ kt => XS.istoreN X0.here hx rfl (hb hby d5_3) rfl (l' := #[.val (.long q), .second, .val (.int (128 : Int32))]) rfl  kt) ?_
  refine Go.by (S' := s₁.setTop (mkF m 5 #[.val (.long q), .second, .val (.int (128 : Int32))] [(.long q)])) (fun _ kt => XS.lloadN X0.here hx rfl (hb hby d5_4) rfl  kt) ?_
  refine Go.by (S' := s₁.setTop (mkF m 8 #[.val (.long q), .second, .val (.int (128 : Int32))] [(.long (-128 : Int64)), (.long q)])) (X0.ldc2Long hx hown (mvT hZ (hw _ (List.mem_of_getElem? (i := 32) rfl))) (g := (mkF m 5 #[.val (.long q), .second, .val (.int (128 : Int32))] [(.long q)])) rfl (hb hby d5_5)) ?_
  refine Go.by (S' := s₁.setTop (mkF m 9 #[.val (.long q), .second, .val (.int (128 : Int32))] [(.int (XT.cmpL q (-128 : Int64)))])) (fun _ kt => XT.lcmp X0.here hx rfl (hb hby d5_8) rfl  kt) ?_
  by_cases hc9_1 : q < (-128 : Int64)
  · refine Go.by (S' := s₁.setTop (mkF m 31 #[.val (.long q), .second, .val (.int (128 : Int32))] [])) (fun _ kt => XS.ifYes X0.here hx rfl (pc0 := 9) (pc' := 31) rfl (hb hby d5_9) rfl (XT.ll_lt_t hc9_1) (by decide) (by decide)  kt) ?_
    obtain ⟨T2, h2, X2, e2, Ex2, A2, D2, -, st2⟩ := newO X0 hx hZ hown (hw _ (List.mem_of_getElem? (i := 67) rfl)) (hw _ (List.mem_of_getElem? (i := 68) rfl)) (hw _ (List.mem_of_getElem? (i := 30) rfl)) e0 (g := (mkF m 31 #[.val (.long q), .second, .val (.int (128 : Int32))] [])) rfl (hb hby d5_31) (by decide) (by decide)
    obtain ⟨b, gg_b⟩ : ∃ z, z = h0.size := ⟨_, rfl⟩
    rw [← gg_b] at A2 D2 st2
    have sz_b : h0.size ≤ b := by rw [gg_b]; exact (own_ext_refl h0).1
    have g_b : n0 ≤ b := Nat.le_trans Z0 sz_b
    have EX := own_ext_trans (own_ext_refl h0) Ex2
    have E_b := A2
    have F_b_value : Fld Z h2 b "java/lang/Long" "value" "J" (.long (0 : Int64)) := D2 (Or.inr (hw _ (List.mem_of_getElem? (i := 81) rfl))) (ty := .long) (by decide)
    refine Go.by (S' := T2.setTop (mkF m 34 #[.val (.long q), .second, .val (.int (128 : Int32))] [(.ref b)])) st2 ?_
    refine Go.by (S' := T2.setTop (mkF m 35 #[.val (.long q), .second, .val (.int (128 : Int32))] [(.ref b), (.ref b)])) (fun _ kt => XS.dup X2.here hx rfl (hb hby d5_34) rfl rfl  kt) ?_
    refine Go.by (S' := T2.setTop (mkF m 36 #[.val (.long q), .second, .val (.int (128 : Int32))] [(.long q), (.ref b), (.ref b)])) (fun _ kt => XS.lloadN X2.here hx rfl (hb hby d5_35) rfl  kt) ?_
    obtain ⟨_, _, ⟨T3, L3, k3, n3⟩, -, X3, ⟨Lc3, hQ3, l3, y3, z3⟩, st3⟩ := X2.specialBack hx (y := (⟨"java/lang/Long", "<init>", "(J)V"⟩ : MethodName)) rfl hown (mvT hZ (hw _ (List.mem_of_getElem? (i := 69) rfl))) (mvT hZ (hw _ (List.mem_of_getElem? (i := 70) rfl))) (mvT hZ (hw _ (List.mem_of_getElem? (i := 72) rfl))) (by decide) (backOf (W := 1) (rm11 l Z a0 hw [] b q h2 n0 F_b_value E_b g_b) hZ (hw _ (List.mem_of_getElem? (i := 72) rfl)) (hw _ (List.mem_of_getElem? (i := 30) rfl)) (by decide) (by decide)) (g := (mkF m 36 #[.val (.long q), .second, .val (.int (128 : Int32))] [(.long q), (.ref b), (.ref b)])) rfl (by rw [hml]; rfl) (Steps.refl _) (a := b) (argsL := [(.long q)]) (rest := [(.ref b)]) (lenOf pd_7 rfl) rfl (by show 2 * 0 + _ ≤ _; exact Nat.le_of_eq rfl) (hb hby d5_36) (fun _ _ => ⟨rfl, e2, (by decide : (0 + 1) + 0 ≤ _), (by decide : (0 + 1) + 0 ≤ _)⟩)
    dsimp only [Pt.U, Pt.locs, Pt.cells, Pt.slots] at X3 l3 y3 z3 st3 hQ3
    subst l3 y3 z3
    obtain ⟨rfl, N3q, K3, E_b, F_b_value⟩ := hQ3
    have N3 := Fr.app N0 N3q
    have EX := own_ext_keep EX K3 (allS sz_b all0)
    refine Go.at (S' := T3.setTop (mkF m 39 #[.val (.long q), .second, .val (.int (128 : Int32))] [(.ref b)])) st3 ?_
    refine goRet X3 (v := some (.ref b)) (fun h => by rw [Bd.returns] at h; cases h) Bd.notSynchronized (fun fs hr => retOut X3 hx Bd.returns rfl (Or.inr (Or.inr (Or.inr (Or.inr ⟨rfl, rfl, rfl⟩)))) (hb hby d5_39) hr) (by decide) (by decide) ?_
    exact ⟨b, rfl, N3, EX, E_b, F_b_value⟩
  · refine Go.by (S' := s₁.setTop (mkF m 12 #[.val (.long q), .second, .val (.int (128 : Int32))] [])) (fun _ kt => XS.ifNo X0.here hx rfl (hb hby d5_9) rfl (XT.ll_lt_f hc9_1)  kt) ?_
    refine Go.by (S' := s₁.setTop (mkF m 13 #[.val (.long q), .second, .val (.int (128 : Int32))] [(.long q)])) (fun _ kt => XS.lloadN X0.here hx rfl (hb hby d5_12) rfl  kt) ?_
    refine Go.by (S' := s₁.setTop (mkF m 16 #[.val (.long q), .second, .val (.int (128 : Int32))] [(.long (127 : Int64)), (.long q)])) (X0.ldc2Long hx hown (mvT hZ (hw _ (List.mem_of_getElem? (i := 33) rfl))) (g := (mkF m 13 #[.val (.long q), .second, .val (.int (128 : Int32))] [(.long q)])) rfl (hb hby d5_13)) ?_
    refine Go.by (S' := s₁.setTop (mkF m 17 #[.val (.long q), .second, .val (.int (128 : Int32))] [(.int (XT.cmpL q (127 : Int64)))])) (fun _ kt => XT.lcmp X0.here hx rfl (hb hby d5_16) rfl  kt) ?_
    by_cases hc17_4 : (127 : Int64) < q
    · refine Go.by (S' := s₁.setTop (mkF m 31 #[.val (.long q), .second, .val (.int (128 : Int32))] [])) (fun _ kt => XS.ifYes X0.here hx rfl (pc0 := 17) (pc' := 31) rfl (hb hby d5_17) rfl (XT.ll_gt_t hc17_4) (by decide) (by decide)  kt) ?_
      obtain ⟨T5, h5, X5, e5, Ex5, A5, D5, -, st5⟩ := newO X0 hx hZ hown (hw _ (List.mem_of_getElem? (i := 67) rfl)) (hw _ (List.mem_of_getElem? (i := 68) rfl)) (hw _ (List.mem_of_getElem? (i := 30) rfl)) e0 (g := (mkF m 31 #[.val (.long q), .second, .val (.int (128 : Int32))] [])) rfl (hb hby d5_31) (by decide) (by decide)
      obtain ⟨b, gg_b⟩ : ∃ z, z = h0.size := ⟨_, rfl⟩
      rw [← gg_b] at A5 D5 st5
      have sz_b : h0.size ≤ b := by rw [gg_b]; exact (own_ext_refl h0).1
      have g_b : n0 ≤ b := Nat.le_trans Z0 sz_b
      have EX := own_ext_trans (own_ext_refl h0) Ex5
      have E_b := A5
      have F_b_value : Fld Z h5 b "java/lang/Long" "value" "J" (.long (0 : Int64)) := D5 (Or.inr (hw _ (List.mem_of_getElem? (i := 81) rfl))) (ty := .long) (by decide)
      refine Go.by (S' := T5.setTop (mkF m 34 #[.val (.long q), .second, .val (.int (128 : Int32))] [(.ref b)])) st5 ?_
      refine Go.by (S' := T5.setTop (mkF m 35 #[.val (.long q), .second, .val (.int (128 : Int32))] [(.ref b), (.ref b)])) (fun _ kt => XS.dup X5.here hx rfl (hb hby d5_34) rfl rfl  kt) ?_
      refine Go.by (S' := T5.setTop (mkF m 36 #[.val (.long q), .second, .val (.int (128 : Int32))] [(.long q), (.ref b), (.ref b)])) (fun _ kt => XS.lloadN X5.here hx rfl (hb hby d5_35) rfl  kt) ?_
      obtain ⟨_, _, ⟨T6, L6, k6, n6⟩, -, X6, ⟨Lc6, hQ6, l6, y6, z6⟩, st6⟩ := X5.specialBack hx (y := (⟨"java/lang/Long", "<init>", "(J)V"⟩ : MethodName)) rfl hown (mvT hZ (hw _ (List.mem_of_getElem? (i := 69) rfl))) (mvT hZ (hw _ (List.mem_of_getElem? (i := 70) rfl))) (mvT hZ (hw _ (List.mem_of_getElem? (i := 72) rfl))) (by decide) (backOf (W := 1) (rm11 l Z a0 hw [] b q h5 n0 F_b_value E_b g_b) hZ (hw _ (List.mem_of_getElem? (i := 72) rfl)) (hw _ (List.mem_of_getElem? (i := 30) rfl)) (by decide) (by decide)) (g := (mkF m 36 #[.val (.long q), .second, .val (.int (128 : Int32))] [(.long q), (.ref b), (.ref b)])) rfl (by rw [hml]; rfl) (Steps.refl _) (a := b) (argsL := [(.long q)]) (rest := [(.ref b)]) (lenOf pd_7 rfl) rfl (by show 2 * 0 + _ ≤ _; exact Nat.le_of_eq rfl) (hb hby d5_36) (fun _ _ => ⟨rfl, e5, (by decide : (0 + 1) + 0 ≤ _), (by decide : (0 + 1) + 0 ≤ _)⟩)
      dsimp only [Pt.U, Pt.locs, Pt.cells, Pt.slots] at X6 l6 y6 z6 st6 hQ6
      subst l6 y6 z6
      obtain ⟨rfl, N6q, K6, E_b, F_b_value⟩ := hQ6
      have N6 := Fr.app N0 N6q
      have EX := own_ext_keep EX K6 (allS sz_b all0)
      refine Go.at (S' := T6.setTop (mkF m 39 #[.val (.long q), .second, .val (.int (128 : Int32))] [(.ref b)])) st6 ?_
      refine goRet X6 (v := some (.ref b)) (fun h => by rw [Bd.returns] at h; cases h) Bd.notSynchronized (fun fs hr => retOut X6 hx Bd.returns rfl (Or.inr (Or.inr (Or.inr (Or.inr ⟨rfl, rfl, rfl⟩)))) (hb hby d5_39) hr) (by decide) (by decide) ?_
      exact ⟨b, rfl, N6, EX, E_b, F_b_value⟩
    · refine Go.by (S' := s₁.setTop (mkF m 20 #[.val (.long q), .second, .val (.int (128 : Int32))] [])) (fun _ kt => XS.ifNo X0.here hx rfl (hb hby d5_17) rfl (XT.ll_gt_f hc17_4)  kt) ?_
      obtain ⟨T7, X7, e7, st7⟩ := getS2 X0 hx hZ hown (host := "") (Or.inl (hw _ (List.mem_of_getElem? (i := 34) rfl))) Via.refl e0 SC (g := (mkF m 20 #[.val (.long q), .second, .val (.int (128 : Int32))] [])) rfl (hb hby d5_20)
      refine Go.by (S' := T7.setTop (mkF m 23 #[.val (.long q), .second, .val (.int (128 : Int32))] [(.ref tc)])) st7 ?_
      refine Go.by (S' := T7.setTop (mkF m 24 #[.val (.long q), .second, .val (.int (128 : Int32))] [(.long q), (.ref tc)])) (fun _ kt => XS.lloadN X7.here hx rfl (hb hby d5_23) rfl  kt) ?_
      refine Go.by (S' := T7.setTop (mkF m 25 #[.val (.long q), .second, .val (.int (128 : Int32))] [(.int (q.toInt32)), (.ref tc)])) (fun _ kt => XS.l2i X7.here hx rfl (hb hby d5_24) rfl  kt) ?_
      refine Go.by (S' := T7.setTop (mkF m 28 #[.val (.long q), .second, .val (.int (128 : Int32))] [(.int (128 : Int32)), (.int (q.toInt32)), (.ref tc)])) (fun _ kt => XT.sipushV X7.here hx rfl (128 : Int32) (hb hby d5_25) (by decide)  kt) ?_
      refine Go.by (S' := T7.setTop (mkF m 29 #[.val (.long q), .second, .val (.int (128 : Int32))] [(.int ((q.toInt32) + (128 : Int32))), (.ref tc)])) (fun _ kt => XS.iadd X7.here hx rfl (hb hby d5_28) rfl  kt) ?_
      obtain ⟨i1, i2, i3⟩ := own_l2i hc9_1 hc17_4
      have hin : ¬ ((q.toInt32 + (128 : Int32)) < 0 ∨ cl.slots.size ≤ (q.toInt32 + (128 : Int32)).toNatClampNeg) := inb_of BX.2.1 ⟨i1, i2⟩
      obtain ⟨bb, hat, Eb, Fb⟩ := BX.2.2.2 _ hin
      have Fb' : Fld Z Z.heap bb "java/lang/Long" "value" "J" (.long q) := by rw [hval, i3] at Fb; exact Fb
      refine Go.by (S' := T7.setTop (mkF m 30 #[.val (.long q), .second, .val (.int (128 : Int32))] [(.ref bb)])) (fun _ kt => X7.aaload hx (j := (q.toInt32 + (128 : Int32))) (v := .ref bb) (by rw [e7]; exact (BX.1.ext EZ).1) (State.isArrayOf_alike hZ.alike BX.1.2.1) rfl BX.1.2.2 hin hat (g := (mkF m 29 #[.val (.long q), .second, .val (.int (128 : Int32))] [(.int ((q.toInt32) + (128 : Int32))), (.ref tc)])) rfl rfl (hb hby d5_29) _ kt) ?_
      refine goRet X7 (v := some (.ref bb)) (fun h => by rw [Bd.returns] at h; cases h) Bd.notSynchronized (fun fs hr => retOut X7 hx Bd.returns rfl (Or.inr (Or.inr (Or.inr (Or.inr ⟨rfl, rfl, rfl⟩)))) (hb hby d5_30) hr) (by decide) (by decide) ?_
      rw [e7]
      exact ⟨bb, rfl, N0, own_ext_refl _, Eb.ext EZ, Fb'.ext EZ⟩
theorem ef_rm10 (m : MethodId) (x0 : Int32) (x1 : Int32) : entryFrame m #[(.int x0), (.int x1)] 2 = mkF m 0 #[.val (.int x0), .val (.int x1)] [] := by first | (simp [entryFrame, mkF, argsToLocals, Value.category]; done) | rfl
theorem d10_0 : decode jdk_29_method_65_code 0 = .ok (.iload_n 0, 1) := by decide +kernel
theorem d10_1 : decode jdk_29_method_65_code 1 = .ok (.iload_n 1, 1) := by decide +kernel
theorem d10_2 : decode jdk_29_method_65_code 2 = .ok (.if_icmp .lt 7, 3) := by decide +kernel
theorem d10_5 : decode jdk_29_method_65_code 5 = .ok (.iload_n 0, 1) := by decide +kernel
theorem d10_6 : decode jdk_29_method_65_code 6 = .ok (.goto 4, 3) := by decide +kernel
theorem d10_9 : decode jdk_29_method_65_code 9 = .ok (.iload_n 1, 1) := by decide +kernel
theorem d10_10 : decode jdk_29_method_65_code 10 = .ok (.ireturn, 1) := by decide +kernel
set_option maxRecDepth 65536 in
set_option maxHeartbeats 40000000 in
theorem rm10 (l : Launch) (Z : State) (a0 : Array Value) (hw : ∀ d ∈ tables_1, d.before a0 Z = true) (ws : List Jvm.Cond) (p0 : Int32) (p1 : Int32)  (h0 : Heap) (n0 : Nat) :
    MetFree l (⟨"java/lang/Math", "max", "(II)I"⟩ : MethodName) (head1 (Jvm.Cond.code (⟨"java/lang/Math", "max", "(II)I"⟩ : MethodName) jdk_29_method_65_code 2 (some .int) :: ws) ({ frames := 0, cells := 0, slots := 0, locals := 0 } : Room)) (fun aa U => aa = #[(.int p0), (.int p1)] ∧ Z.Warmed39 U.vm ∧ U.heap = h0) (fun _ _ _ _ _ => True) (fun _ U o U' => ∃ v L, o = .returned v ∧ PureQ (some (.int (if p0 < p1 then p1 else p0))) h0 n0 v U'.heap L ∧ FrameEnd U o U' L ({ frames := 0, cells := 0, slots := 0, locals := 0 } : Room).cells ({ frames := 0, cells := 0, slots := 0, locals := 0 } : Room).slots) := by
  refine MetFree.of_bodySF (Jvm.Free.JP.mathPlain rfl (by decide +kernel)) hisR ?_
  intro p e s m args below meth c s₁ Bd hml0 hP hK
  obtain ⟨rfl, hZ, hh⟩ := hP
  have hx := Bd.exec
  have hby := Bd.bytes
  have hml : c.maxLocals = 2 := hml0
  have hown : s.vm.findClass "java/lang/Math" = some m.cls := findClass_of_methodNamed Bd.named
  have hnm := (name_of_methodNamed Bd.named Bd.method).1
  have X0 : Stand p l e ({ frames := 0, cells := 0, slots := 0, locals := 0 } : Room) s m #[(.int p0), (.int p1)] below meth c s₁ [] 0 0 := Stand.of_body Bd
  have e0 : s₁.heap = h0 := by rw [← hh, Bd.state]; rfl
  have N0 := Fr.nil n0
  refine goIn (ef_rm10 m p0 p1) ?_
  refine Go.by (S' := s₁.setTop (mkF m 1 #[.val (.int p0), .val (.int p1)] [(.int p0)])) (fun _ kt => XS.iloadN X0.here hx rfl (hb hby d10_0) rfl  kt) ?_
  refine Go.by (S' := s₁.setTop (mkF m 2 #[.val (.int p0), .val (.int p1)] [(.int p1), (.int p0)])) (fun _ kt => XS.iloadN X0.here hx rfl (hb hby d10_1) rfl  kt) ?_
  by_cases hc2_1 : p0 < p1
  · refine Go.by (S' := s₁.setTop (mkF m 9 #[.val (.int p0), .val (.int p1)] [])) (fun _ kt => XS.icmpYes X0.here hx rfl (pc0 := 2) (pc' := 9) rfl (hb hby d10_2) rfl (XT.ii_lt_t hc2_1) (by decide) (by decide)  kt) ?_
    refine Go.by (S' := s₁.setTop (mkF m 10 #[.val (.int p0), .val (.int p1)] [(.int p1)])) (fun _ kt => XS.iloadN X0.here hx rfl (hb hby d10_9) rfl  kt) ?_
    refine goRet X0 (v := some (.int p1)) (fun h => by rw [Bd.returns] at h; cases h) Bd.notSynchronized (fun fs hr => retOut X0 hx Bd.returns rfl (Or.inl ⟨rfl, Or.inl rfl, _, rfl⟩) (hb hby d10_10) hr) (by decide) (by decide) ?_
    exact ⟨by simp [hc2_1], N0, e0⟩
  · refine Go.by (S' := s₁.setTop (mkF m 5 #[.val (.int p0), .val (.int p1)] [])) (fun _ kt => XS.icmpNo X0.here hx rfl (hb hby d10_2) rfl (XT.ii_lt_f hc2_1)  kt) ?_
    refine Go.by (S' := s₁.setTop (mkF m 6 #[.val (.int p0), .val (.int p1)] [(.int p0)])) (fun _ kt => XS.iloadN X0.here hx rfl (hb hby d10_5) rfl  kt) ?_
    refine Go.by (S' := s₁.setTop (mkF m 10 #[.val (.int p0), .val (.int p1)] [(.int p0)])) (fun _ kt => XS.goto X0.here hx rfl (pc0 := 6) (pc' := 10) rfl (hb hby d10_6) (by decide) (by decide)  kt) ?_
    refine goRet X0 (v := some (.int p0)) (fun h => by rw [Bd.returns] at h; cases h) Bd.notSynchronized (fun fs hr => retOut X0 hx Bd.returns rfl (Or.inl ⟨rfl, Or.inl rfl, _, rfl⟩) (hb hby d10_10) hr) (by decide) (by decide) ?_
    exact ⟨by simp [hc2_1], N0, e0⟩
theorem ef_rm9 (m : MethodId) (x0 : Addr) (x1 : Int32) : entryFrame m #[(.ref x0), (.int x1)] 4 = mkF m 0 #[.val (.ref x0), .val (.int x1), .unset, .unset] [] := by first | (simp [entryFrame, mkF, argsToLocals, Value.category]; done) | rfl
theorem pn_rm9 : plainName "java/util/ArrayList" = true := by first | (simp [plainName, overriddenIn]; done) | decide +kernel
theorem d9_0 : decode jdk_38_method_6_code 0 = .ok (.aload_n 0, 1) := by decide +kernel
theorem d9_1 : decode jdk_38_method_6_code 1 = .ok (.getfield 9, 3) := by decide +kernel
theorem d9_4 : decode jdk_38_method_6_code 4 = .ok (.arraylength, 1) := by decide +kernel
theorem d9_5 : decode jdk_38_method_6_code 5 = .ok (.istore_n 2, 1) := by decide +kernel
theorem d9_6 : decode jdk_38_method_6_code 6 = .ok (.iload_n 2, 1) := by decide +kernel
theorem d9_7 : decode jdk_38_method_6_code 7 = .ok (.ifCond .gt 13, 3) := by decide +kernel
theorem d9_10 : decode jdk_38_method_6_code 10 = .ok (.aload_n 0, 1) := by decide +kernel
theorem d9_11 : decode jdk_38_method_6_code 11 = .ok (.getfield 9, 3) := by decide +kernel
theorem d9_14 : decode jdk_38_method_6_code 14 = .ok (.getstatic 39, 3) := by decide +kernel
theorem d9_17 : decode jdk_38_method_6_code 17 = .ok (.if_acmp .eq 28, 3) := by decide +kernel
theorem d9_45 : decode jdk_38_method_6_code 45 = .ok (.aload_n 0, 1) := by decide +kernel
theorem d9_46 : decode jdk_38_method_6_code 46 = .ok (.bipush 10, 2) := by decide +kernel
theorem d9_48 : decode jdk_38_method_6_code 48 = .ok (.iload_n 1, 1) := by decide +kernel
theorem d9_49 : decode jdk_38_method_6_code 49 = .ok (.invokestatic 79, 3) := by decide +kernel
theorem d9_52 : decode jdk_38_method_6_code 52 = .ok (.anewarray 7, 3) := by decide +kernel
theorem d9_55 : decode jdk_38_method_6_code 55 = .ok (.dup_x1, 1) := by decide +kernel
theorem d9_56 : decode jdk_38_method_6_code 56 = .ok (.putfield 9, 3) := by decide +kernel
theorem d9_59 : decode jdk_38_method_6_code 59 = .ok (.areturn, 1) := by decide +kernel
set_option maxRecDepth 65536 in
set_option maxHeartbeats 40000000 in
theorem rm9 (l : Launch) (Z : State) (a0 : Array Value) (hw : ∀ d ∈ tables_1, d.before a0 Z = true) (ws : List Jvm.Cond) (a : Addr) (p1 : Int32) (mc : Int32) (te : Addr) (clE : Cell) (h0 : Heap) (n0 : Nat) (F_a_modCount : Fld Z h0 a "java/util/AbstractList" "modCount" "I" (.int mc)) (F_a_size : Fld Z h0 a "java/util/ArrayList" "size" "I" (.int 0)) (F_a_elementData : Fld Z h0 a "java/util/ArrayList" "elementData" "[Ljava/lang/Object;" (.ref te)) (E_a : Exa Z h0 a "java/util/ArrayList") (g_a : n0 ≤ a) (SD : Sta Z h0 "java/util/ArrayList" "DEFAULTCAPACITY_EMPTY_ELEMENTDATA" "[Ljava/lang/Object;" (.ref te)) (AE : Arr Z h0 te clE (.object "java/lang/Object")) (szE : clE.slots.size = 0) (Z0 : n0 ≤ h0.size) (hp : ¬ (10 : Int32) < p1) :
    MetFree l (⟨"java/util/ArrayList", "grow", "(I)[Ljava/lang/Object;"⟩ : MethodName) (head1 (Jvm.Cond.code (⟨"java/util/ArrayList", "grow", "(I)[Ljava/lang/Object;"⟩ : MethodName) jdk_38_method_6_code 4 (some (.array (.object "java/lang/Object"))) :: ws) ({ frames := 1, cells := 1, slots := 10, locals := 14 } : Room)) (fun aa U => aa = #[(.ref a), (.int p1)] ∧ Z.Warmed39 U.vm ∧ U.heap = h0) (fun _ _ _ _ _ => True) (fun _ U o U' => ∃ v L, o = .returned v ∧ GrowQ Z a mc h0 n0 v U'.heap L ∧ FrameEnd U o U' L ({ frames := 1, cells := 1, slots := 10, locals := 14 } : Room).cells ({ frames := 1, cells := 1, slots := 10, locals := 14 } : Room).slots) := by
  refine MetFree.of_bodySF (plainFor_of_name pn_rm9) hisR ?_
  intro p e s m args below meth c s₁ Bd hml0 hP hK
  obtain ⟨rfl, hZ, hh⟩ := hP
  have hx := Bd.exec
  have hby := Bd.bytes
  have hml : c.maxLocals = 4 := hml0
  have hown : s.vm.findClass "java/util/ArrayList" = some m.cls := findClass_of_methodNamed Bd.named
  have hnm := (name_of_methodNamed Bd.named Bd.method).1
  have X0 : Stand p l e ({ frames := 1, cells := 1, slots := 10, locals := 14 } : Room) s m #[(.ref a), (.int p1)] below meth c s₁ [] 0 0 := Stand.of_body Bd
  have e0 : s₁.heap = h0 := by rw [← hh, Bd.state]; rfl
  have N0 := Fr.nil n0
  refine goIn (ef_rm9 m a p1) ?_
  refine Go.by (S' := s₁.setTop (mkF m 1 #[.val (.ref a), .val (.int p1), .unset, .unset] [(.ref a)])) (fun _ kt => XS.aloadN X0.here hx rfl (hb hby d9_0) rfl rfl  kt) ?_
  obtain ⟨T1, X1, e1, st1⟩ := getF X0 hx hZ hown (host := "") (Or.inl (hw _ (List.mem_of_getElem? (i := 26) rfl))) Via.refl e0 F_a_elementData (g := (mkF m 1 #[.val (.ref a), .val (.int p1), .unset, .unset] [(.ref a)])) rfl rfl (hb hby d9_1)
  refine Go.by (S' := T1.setTop (mkF m 4 #[.val (.ref a), .val (.int p1), .unset, .unset] [(.ref te)])) st1 ?_
  refine Go.by (S' := T1.setTop (mkF m 5 #[.val (.ref a), .val (.int p1), .unset, .unset] [(.int clE.slots.size.toInt32)])) (fun _ kt => X1.arraylength hx (by rw [e1]; exact AE.1) (State.isArrayOf_alike hZ.alike AE.2.1) (g := (mkF m 4 #[.val (.ref a), .val (.int p1), .unset, .unset] [(.ref te)])) rfl rfl (hb hby d9_4) _ kt) ?_
  rw [show clE.slots.size.toInt32 = (0 : Int32) from by rw [szE]; rfl]
  refine Go.by (S' := T1.setTop (mkF m 6 #[.val (.ref a), .val (.int p1), .val (.int (0 : Int32)), .unset] [])) (fun _ kt => XS.istoreN X1.here hx rfl (hb hby d9_5) rfl (l' := #[.val (.ref a), .val (.int p1), .val (.int (0 : Int32)), .unset]) rfl  kt) ?_
  refine Go.by (S' := T1.setTop (mkF m 7 #[.val (.ref a), .val (.int p1), .val (.int (0 : Int32)), .unset] [(.int (0 : Int32))])) (fun _ kt => XS.iloadN X1.here hx rfl (hb hby d9_6) rfl  kt) ?_
  refine Go.by (S' := T1.setTop (mkF m 10 #[.val (.ref a), .val (.int p1), .val (.int (0 : Int32)), .unset] [])) (fun _ kt => XS.ifNo X1.here hx rfl (hb hby d9_7) rfl (XT.i0_gt_f (by decide))  kt) ?_
  refine Go.by (S' := T1.setTop (mkF m 11 #[.val (.ref a), .val (.int p1), .val (.int (0 : Int32)), .unset] [(.ref a)])) (fun _ kt => XS.aloadN X1.here hx rfl (hb hby d9_10) rfl rfl  kt) ?_
  obtain ⟨T2, X2, e2, st2⟩ := getF X1 hx hZ hown (host := "") (Or.inl (hw _ (List.mem_of_getElem? (i := 26) rfl))) Via.refl e1 F_a_elementData (g := (mkF m 11 #[.val (.ref a), .val (.int p1), .val (.int (0 : Int32)), .unset] [(.ref a)])) rfl rfl (hb hby d9_11)
  refine Go.by (S' := T2.setTop (mkF m 14 #[.val (.ref a), .val (.int p1), .val (.int (0 : Int32)), .unset] [(.ref te)])) st2 ?_
  obtain ⟨T3, X3, e3, st3⟩ := getS2 X2 hx hZ hown (host := "") (Or.inl (hw _ (List.mem_of_getElem? (i := 25) rfl))) Via.refl e2 SD (g := (mkF m 14 #[.val (.ref a), .val (.int p1), .val (.int (0 : Int32)), .unset] [(.ref te)])) rfl (hb hby d9_14)
  refine Go.by (S' := T3.setTop (mkF m 17 #[.val (.ref a), .val (.int p1), .val (.int (0 : Int32)), .unset] [(.ref te), (.ref te)])) st3 ?_
  refine Go.by (S' := T3.setTop (mkF m 45 #[.val (.ref a), .val (.int p1), .val (.int (0 : Int32)), .unset] [])) (fun _ kt => XT.acmpYes X3.here hx rfl (pc0 := 17) (pc' := 45) rfl (hb hby d9_17) rfl rfl rfl (XT.aa_eq_t (congrArg Value.ref (rfl : te = te))) (by decide) (by decide)  kt) ?_
  refine Go.by (S' := T3.setTop (mkF m 46 #[.val (.ref a), .val (.int p1), .val (.int (0 : Int32)), .unset] [(.ref a)])) (fun _ kt => XS.aloadN X3.here hx rfl (hb hby d9_45) rfl rfl  kt) ?_
  refine Go.by (S' := T3.setTop (mkF m 48 #[.val (.ref a), .val (.int p1), .val (.int (0 : Int32)), .unset] [(.int (10 : Int32)), (.ref a)])) (fun _ kt => XT.bipushV X3.here hx rfl (10 : Int32) (hb hby d9_46) (by decide)  kt) ?_
  refine Go.by (S' := T3.setTop (mkF m 49 #[.val (.ref a), .val (.int p1), .val (.int (0 : Int32)), .unset] [(.int p1), (.int (10 : Int32)), (.ref a)])) (fun _ kt => XS.iloadN X3.here hx rfl (hb hby d9_48) rfl  kt) ?_
  obtain ⟨_, _, ⟨T4, L4, k4, n4⟩, -, X4, ⟨Lc4, hQ4, l4, y4, z4⟩, st4⟩ := Jvm.LawKit.callS X3 hx (y := (⟨"java/lang/Math", "max", "(II)I"⟩ : MethodName)) hown (mvT hZ (hw _ (List.mem_of_getElem? (i := 60) rfl))) (mvT hZ (hw _ (List.mem_of_getElem? (i := 61) rfl))) (mvT hZ (hw _ (List.mem_of_getElem? (i := 62) rfl))) (mvT hZ (hw _ (List.mem_of_getElem? (i := 63) rfl))) (by decide) (backOf (W := 1) (rm10 l Z a0 hw [] (10 : Int32) p1 h0 n0) hZ (hw _ (List.mem_of_getElem? (i := 63) rfl)) (hw _ (List.mem_of_getElem? (i := 62) rfl)) (by decide) (by decide)) (g := (mkF m 49 #[.val (.ref a), .val (.int p1), .val (.int (0 : Int32)), .unset] [(.int p1), (.int (10 : Int32)), (.ref a)])) rfl (by rw [hml]; rfl) (argsL := [(.int (10 : Int32)), (.int p1)]) (rest := [(.ref a)]) (lenOf pd_6 rfl) rfl (by show 2 * 0 + _ ≤ _; exact Nat.le_of_eq rfl) (hb hby d9_49) (fun _ _ => ⟨rfl, e3, (by decide : 0 + 0 ≤ _), (by decide : 0 + 0 ≤ _)⟩)
  dsimp only [Pt.U, Pt.locs, Pt.cells, Pt.slots] at X4 l4 y4 z4 st4 hQ4
  subst l4 y4 z4
  obtain ⟨rfl, N4q, e4⟩ := hQ4
  have N4 := Fr.app N0 N4q
  rw [if_neg hp] at st4
  refine Go.by (S' := T4.setTop (mkF m 52 #[.val (.ref a), .val (.int p1), .val (.int (0 : Int32)), .unset] [(.int (10 : Int32)), (.ref a)])) st4 ?_
  obtain ⟨T5, h5, kA, X5, e5, Ex5, A5, O5, st5⟩ := newR X4 hx hZ hown (hw _ (List.mem_of_getElem? (i := 64) rfl)) (hw _ (List.mem_of_getElem? (i := 65) rfl)) e4 (g := (mkF m 52 #[.val (.ref a), .val (.int p1), .val (.int (0 : Int32)), .unset] [(.int (10 : Int32)), (.ref a)])) rfl (hb hby d9_52) rfl (by decide) (cap := 10) (by decide) (by decide) (by decide) (by decide)
  obtain ⟨r, gr⟩ : ∃ z, z = h0.size := ⟨_, rfl⟩
  rw [← gr] at A5 st5
  have hr0 : h0.size ≤ r := Nat.le_of_eq gr.symm
  have V : Arv Z h5 r kA (.object "java/lang/Object") 10 [.null, .null, .null, .null, .null, .null, .null, .null, .null, .null] .null := (Arv.new A5 (by decide)).pad (pad_rep [] .null 10)
  have ne : a ≠ r := by rw [gr]; exact Nat.ne_of_lt E_a.lt
  have KP := (Keep.refl h0 [a]).ext Ex5
  have E_a := E_a.ext Ex5
  have F_a_modCount := F_a_modCount.ext Ex5
  have F_a_size := F_a_size.ext Ex5
  have F_a_elementData := F_a_elementData.ext Ex5
  refine Go.by (S' := T5.setTop (mkF m 55 #[.val (.ref a), .val (.int p1), .val (.int (0 : Int32)), .unset] [(.ref r), (.ref a)])) st5 ?_
  refine Go.by (S' := T5.setTop (mkF m 56 #[.val (.ref a), .val (.int p1), .val (.int (0 : Int32)), .unset] [(.ref r), (.ref a), (.ref r)])) (fun _ kt => XS.dupX1 X5.here hx rfl (hb hby d9_55) rfl rfl rfl  kt) ?_
  obtain ⟨T6, h6, X6, e6, W6, st6⟩ := putF X5 hx hZ hown (host := "") (Or.inl (hw _ (List.mem_of_getElem? (i := 26) rfl))) Via.refl e5 F_a_elementData E_a (Or.inl (hw _ (List.mem_of_getElem? (i := 27) rfl))) (hw _ (List.mem_of_getElem? (i := 3) rfl)) (ty := (.array (.object "java/lang/Object"))) (by decide) rfl rfl (g := (mkF m 56 #[.val (.ref a), .val (.int p1), .val (.int (0 : Int32)), .unset] [(.ref r), (.ref a), (.ref r)])) rfl rfl (hb hby d9_56)
  have F_a_elementData := F_a_elementData.same W6
  have E_a := E_a.wr W6
  have F_a_modCount := F_a_modCount.other W6 (Or.inr (slot_ne (Or.inl (hw _ (List.mem_of_getElem? (i := 24) rfl))) (Or.inl (hw _ (List.mem_of_getElem? (i := 27) rfl))) (by decide) (t := .int) (t' := (.array (.object "java/lang/Object"))) (by decide) (by decide)))
  have F_a_size := F_a_size.other W6 (Or.inr (slot_ne (Or.inl (hw _ (List.mem_of_getElem? (i := 44) rfl))) (Or.inl (hw _ (List.mem_of_getElem? (i := 27) rfl))) (by decide) (t := .int) (t' := (.array (.object "java/lang/Object"))) (by decide) (by decide)))
  have KP := KP.wr W6 (Or.inl (List.mem_of_getElem? (i := 0) rfl))
  have N6 := Fr.snoc X6 N4 g_a
  refine Go.by (S' := T6.setTop (mkF m 59 #[.val (.ref a), .val (.int p1), .val (.int (0 : Int32)), .unset] [(.ref r)])) st6 ?_
  have V := V.other W6 ne.symm
  refine goRet X6 (v := some (.ref r)) (fun h => by rw [Bd.returns] at h; cases h) Bd.notSynchronized (fun fs hr => retOut X6 hx Bd.returns rfl (Or.inr (Or.inr (Or.inr (Or.inr ⟨rfl, rfl, rfl⟩)))) (hb hby d9_59) hr) (by decide) (by decide) ?_
  rw [e6]
  exact ⟨r, kA, rfl, N6, KP, hr0, E_a, F_a_modCount, F_a_size, F_a_elementData, V, O5⟩
theorem ef_rm8 (m : MethodId) (x0 : Addr) : entryFrame m #[(.ref x0)] 1 = mkF m 0 #[.val (.ref x0)] [] := by first | (simp [entryFrame, mkF, argsToLocals, Value.category]; done) | rfl
theorem pn_rm8 : plainName "java/util/ArrayList" = true := by first | (simp [plainName, overriddenIn]; done) | decide +kernel
theorem d8_0 : decode jdk_38_method_7_code 0 = .ok (.aload_n 0, 1) := by decide +kernel
theorem d8_1 : decode jdk_38_method_7_code 1 = .ok (.aload_n 0, 1) := by decide +kernel
theorem d8_2 : decode jdk_38_method_7_code 2 = .ok (.getfield 48, 3) := by decide +kernel
theorem d8_5 : decode jdk_38_method_7_code 5 = .ok (.iconst 1, 1) := by decide +kernel
theorem d8_6 : decode jdk_38_method_7_code 6 = .ok (.iadd, 1) := by decide +kernel
theorem d8_7 : decode jdk_38_method_7_code 7 = .ok (.invokevirtual 69, 3) := by decide +kernel
theorem d8_10 : decode jdk_38_method_7_code 10 = .ok (.areturn, 1) := by decide +kernel
set_option maxRecDepth 65536 in
set_option maxHeartbeats 40000000 in
theorem rm8 (l : Launch) (Z : State) (a0 : Array Value) (hw : ∀ d ∈ tables_1, d.before a0 Z = true) (ws : List Jvm.Cond) (a : Addr) (mc : Int32) (te : Addr) (clE : Cell) (h0 : Heap) (n0 : Nat) (F_a_modCount : Fld Z h0 a "java/util/AbstractList" "modCount" "I" (.int mc)) (F_a_size : Fld Z h0 a "java/util/ArrayList" "size" "I" (.int 0)) (F_a_elementData : Fld Z h0 a "java/util/ArrayList" "elementData" "[Ljava/lang/Object;" (.ref te)) (E_a : Exa Z h0 a "java/util/ArrayList") (g_a : n0 ≤ a) (SD : Sta Z h0 "java/util/ArrayList" "DEFAULTCAPACITY_EMPTY_ELEMENTDATA" "[Ljava/lang/Object;" (.ref te)) (AE : Arr Z h0 te clE (.object "java/lang/Object")) (szE : clE.slots.size = 0) (Z0 : n0 ≤ h0.size) :
    MetFree l (⟨"java/util/ArrayList", "grow", "()[Ljava/lang/Object;"⟩ : MethodName) (head1 (Jvm.Cond.code (⟨"java/util/ArrayList", "grow", "()[Ljava/lang/Object;"⟩ : MethodName) jdk_38_method_7_code 1 (some (.array (.object "java/lang/Object"))) :: ws) ({ frames := 2, cells := 1, slots := 10, locals := 29 } : Room)) (fun aa U => aa = #[(.ref a)] ∧ Z.Warmed39 U.vm ∧ U.heap = h0) (fun _ _ _ _ _ => True) (fun _ U o U' => ∃ v L, o = .returned v ∧ GrowQ Z a mc h0 n0 v U'.heap L ∧ FrameEnd U o U' L ({ frames := 2, cells := 1, slots := 10, locals := 29 } : Room).cells ({ frames := 2, cells := 1, slots := 10, locals := 29 } : Room).slots) := by
  refine MetFree.of_bodySF (plainFor_of_name pn_rm8) hisR ?_
  intro p e s m args below meth c s₁ Bd hml0 hP hK
  obtain ⟨rfl, hZ, hh⟩ := hP
  have hx := Bd.exec
  have hby := Bd.bytes
  have hml : c.maxLocals = 1 := hml0
  have hown : s.vm.findClass "java/util/ArrayList" = some m.cls := findClass_of_methodNamed Bd.named
  have hnm := (name_of_methodNamed Bd.named Bd.method).1
  have X0 : Stand p l e ({ frames := 2, cells := 1, slots := 10, locals := 29 } : Room) s m #[(.ref a)] below meth c s₁ [] 0 0 := Stand.of_body Bd
  have e0 : s₁.heap = h0 := by rw [← hh, Bd.state]; rfl
  have N0 := Fr.nil n0
  refine goIn (ef_rm8 m a) ?_
  refine Go.by (S' := s₁.setTop (mkF m 1 #[.val (.ref a)] [(.ref a)])) (fun _ kt => XS.aloadN X0.here hx rfl (hb hby d8_0) rfl rfl  kt) ?_
  refine Go.by (S' := s₁.setTop (mkF m 2 #[.val (.ref a)] [(.ref a), (.ref a)])) (fun _ kt => XS.aloadN X0.here hx rfl (hb hby d8_1) rfl rfl  kt) ?_
  obtain ⟨T1, X1, e1, st1⟩ := getF X0 hx hZ hown (host := "") (Or.inl (hw _ (List.mem_of_getElem? (i := 43) rfl))) Via.refl e0 F_a_size (g := (mkF m 2 #[.val (.ref a)] [(.ref a), (.ref a)])) rfl rfl (hb hby d8_2)
  refine Go.by (S' := T1.setTop (mkF m 5 #[.val (.ref a)] [(.int (0 : Int32)), (.ref a)])) st1 ?_
  refine Go.by (S' := T1.setTop (mkF m 6 #[.val (.ref a)] [(.int (1 : Int32)), (.int (0 : Int32)), (.ref a)])) (fun _ kt => XT.iconstV X1.here hx rfl (1 : Int32) (hb hby d8_5) (by decide)  kt) ?_
  refine Go.by (S' := T1.setTop (mkF m 7 #[.val (.ref a)] [(.int ((0 : Int32) + (1 : Int32))), (.ref a)])) (fun _ kt => XS.iadd X1.here hx rfl (hb hby d8_6) rfl  kt) ?_
  obtain ⟨cq2, q2, q2'⟩ := (E_a).cell
  obtain ⟨_, _, ⟨T2, L2, k2, n2⟩, -, X2, ⟨Lc2, hQ2, l2, y2, z2⟩, st2⟩ := X1.privateBack hx (y := (⟨"java/util/ArrayList", "grow", "(I)[Ljava/lang/Object;"⟩ : MethodName)) hown (mvT hZ (hw _ (List.mem_of_getElem? (i := 55) rfl))) (mvT hZ (hw _ (List.mem_of_getElem? (i := 56) rfl))) (mvT hZ (hw _ (List.mem_of_getElem? (i := 58) rfl))) (Cond.privateMethod_at (mvP hZ (hw _ (List.mem_of_getElem? (i := 57) rfl)) (args := #[]))) (mvT hZ (hw _ (List.mem_of_getElem? (i := 59) rfl))) (by decide) (backOf (W := 0) (rm9 l Z a0 hw [] a ((0 : Int32) + (1 : Int32)) mc te clE h0 n0 F_a_modCount F_a_size F_a_elementData E_a g_a SD AE szE Z0 (by decide)) hZ (hw _ (List.mem_of_getElem? (i := 59) rfl)) (hw _ (List.mem_of_getElem? (i := 4) rfl)) (by decide) (by decide)) (g := (mkF m 7 #[.val (.ref a)] [(.int ((0 : Int32) + (1 : Int32))), (.ref a)])) rfl (by rw [hml]; rfl) (Steps.refl _) (a := a) (by rw [e1]; exact q2) q2' (argsL := [(.int ((0 : Int32) + (1 : Int32)))]) (rest := []) (lenOf pd_5 rfl) rfl (by show 2 * 0 + _ ≤ _; exact Nat.le_of_eq rfl) (hb hby d8_7) (fun _ _ => ⟨rfl, e1, (by decide : 0 + 1 ≤ _), (by decide : 0 + 10 ≤ _)⟩)
  dsimp only [Pt.U, Pt.locs, Pt.cells, Pt.slots] at X2 l2 y2 z2 st2 hQ2
  subst l2 y2 z2
  obtain ⟨r, kA, rfl, N2q, K2, hr0, E_a', F_a_modCount, F_a_size, F_a_elementData, V, O⟩ := hQ2
  have N2 := Fr.app N0 N2q
  refine Go.at (S' := T2.setTop (mkF m 10 #[.val (.ref a)] [(.ref r)])) st2 ?_
  refine goRet X2 (v := some (.ref r)) (fun h => by rw [Bd.returns] at h; cases h) Bd.notSynchronized (fun fs hr => retOut X2 hx Bd.returns rfl (Or.inr (Or.inr (Or.inr (Or.inr ⟨rfl, rfl, rfl⟩)))) (hb hby d8_10) hr) (by decide) (by decide) ?_
  exact ⟨r, kA, rfl, N2, K2, hr0, E_a', F_a_modCount, F_a_size, F_a_elementData, V, O⟩
theorem ef_rm7a (m : MethodId) (x0 : Addr) (x1 : Addr) (x2 : Addr) (x3 : Int32) : entryFrame m #[(.ref x0), (.ref x1), (.ref x2), (.int x3)] 4 = mkF m 0 #[.val (.ref x0), .val (.ref x1), .val (.ref x2), .val (.int x3)] [] := by first | (simp [entryFrame, mkF, argsToLocals, Value.category]; done) | rfl
theorem pn_rm7a : plainName "java/util/ArrayList" = true := by first | (simp [plainName, overriddenIn]; done) | decide +kernel
theorem d7_0 : decode jdk_38_method_24_code 0 = .ok (.iload_n 3, 1) := by decide +kernel
theorem d7_1 : decode jdk_38_method_24_code 1 = .ok (.aload_n 2, 1) := by decide +kernel
theorem d7_2 : decode jdk_38_method_24_code 2 = .ok (.arraylength, 1) := by decide +kernel
theorem d7_3 : decode jdk_38_method_24_code 3 = .ok (.if_icmp .ne 8, 3) := by decide +kernel
theorem d7_6 : decode jdk_38_method_24_code 6 = .ok (.aload_n 0, 1) := by decide +kernel
theorem d7_7 : decode jdk_38_method_24_code 7 = .ok (.invokevirtual 129, 3) := by decide +kernel
theorem d7_10 : decode jdk_38_method_24_code 10 = .ok (.astore_n 2, 1) := by decide +kernel
theorem d7_11 : decode jdk_38_method_24_code 11 = .ok (.aload_n 2, 1) := by decide +kernel
theorem d7_12 : decode jdk_38_method_24_code 12 = .ok (.iload_n 3, 1) := by decide +kernel
theorem d7_13 : decode jdk_38_method_24_code 13 = .ok (.aload_n 1, 1) := by decide +kernel
theorem d7_14 : decode jdk_38_method_24_code 14 = .ok (.aastore, 1) := by decide +kernel
theorem d7_15 : decode jdk_38_method_24_code 15 = .ok (.aload_n 0, 1) := by decide +kernel
theorem d7_16 : decode jdk_38_method_24_code 16 = .ok (.iload_n 3, 1) := by decide +kernel
theorem d7_17 : decode jdk_38_method_24_code 17 = .ok (.iconst 1, 1) := by decide +kernel
theorem d7_18 : decode jdk_38_method_24_code 18 = .ok (.iadd, 1) := by decide +kernel
theorem d7_19 : decode jdk_38_method_24_code 19 = .ok (.putfield 48, 3) := by decide +kernel
theorem d7_22 : decode jdk_38_method_24_code 22 = .ok (.return_, 1) := by decide +kernel
set_option maxRecDepth 65536 in
set_option maxHeartbeats 40000000 in
theorem rm7a (l : Launch) (Z : State) (a0 : Array Value) (hw : ∀ d ∈ tables_1, d.before a0 Z = true) (ws : List Jvm.Cond) (a : Addr) (x0 : Addr) (te : Addr) (mc : Int32) (clE : Cell) (h0 : Heap) (n0 : Nat) (F_a_modCount : Fld Z h0 a "java/util/AbstractList" "modCount" "I" (.int mc)) (F_a_size : Fld Z h0 a "java/util/ArrayList" "size" "I" (.int 0)) (F_a_elementData : Fld Z h0 a "java/util/ArrayList" "elementData" "[Ljava/lang/Object;" (.ref te)) (E_a : Exa Z h0 a "java/util/ArrayList") (g_a : n0 ≤ a) (SD : Sta Z h0 "java/util/ArrayList" "DEFAULTCAPACITY_EMPTY_ELEMENTDATA" "[Ljava/lang/Object;" (.ref te)) (AE : Arr Z h0 te clE (.object "java/lang/Object")) (szE : clE.slots.size = 0) (Z0 : n0 ≤ h0.size) (E_x0 : Exa Z h0 x0 "java/lang/Long") :
    MetFree l (⟨"java/util/ArrayList", "add", "(Ljava/lang/Object;[Ljava/lang/Object;I)V"⟩ : MethodName) (head1 (Jvm.Cond.code (⟨"java/util/ArrayList", "add", "(Ljava/lang/Object;[Ljava/lang/Object;I)V"⟩ : MethodName) jdk_38_method_24_code 4 none :: ws) ({ frames := 3, cells := 1, slots := 10, locals := 41 } : Room)) (fun aa U => aa = #[(.ref a), (.ref x0), (.ref te), (.int (0 : Int32))] ∧ Z.Warmed39 U.vm ∧ U.heap = h0) (fun _ _ _ _ _ => True) (fun _ U o U' => ∃ v L, o = .returned v ∧ AddQ Z a mc 1 [(.ref x0), .null, .null, .null, .null, .null, .null, .null, .null, .null] none h0 n0 v U'.heap L ∧ FrameEnd U o U' L ({ frames := 3, cells := 1, slots := 10, locals := 41 } : Room).cells ({ frames := 3, cells := 1, slots := 10, locals := 41 } : Room).slots) := by
  refine MetFree.of_bodySF (plainFor_of_name pn_rm7a) hisR ?_
  intro p e s m args below meth c s₁ Bd hml0 hP hK
  obtain ⟨rfl, hZ, hh⟩ := hP
  have hx := Bd.exec
  have hby := Bd.bytes
  have hml : c.maxLocals = 4 := hml0
  have hown : s.vm.findClass "java/util/ArrayList" = some m.cls := findClass_of_methodNamed Bd.named
  have hnm := (name_of_methodNamed Bd.named Bd.method).1
  have X0 : Stand p l e ({ frames := 3, cells := 1, slots := 10, locals := 41 } : Room) s m #[(.ref a), (.ref x0), (.ref te), (.int (0 : Int32))] below meth c s₁ [] 0 0 := Stand.of_body Bd
  have e0 : s₁.heap = h0 := by rw [← hh, Bd.state]; rfl
  have N0 := Fr.nil n0
  refine goIn (ef_rm7a m a x0 te (0 : Int32)) ?_
  refine Go.by (S' := s₁.setTop (mkF m 1 #[.val (.ref a), .val (.ref x0), .val (.ref te), .val (.int (0 : Int32))] [(.int (0 : Int32))])) (fun _ kt => XS.iloadN X0.here hx rfl (hb hby d7_0) rfl  kt) ?_
  refine Go.by (S' := s₁.setTop (mkF m 2 #[.val (.ref a), .val (.ref x0), .val (.ref te), .val (.int (0 : Int32))] [(.ref te), (.int (0 : Int32))])) (fun _ kt => XS.aloadN X0.here hx rfl (hb hby d7_1) rfl rfl  kt) ?_
  refine Go.by (S' := s₁.setTop (mkF m 3 #[.val (.ref a), .val (.ref x0), .val (.ref te), .val (.int (0 : Int32))] [(.int clE.slots.size.toInt32), (.int (0 : Int32))])) (fun _ kt => X0.arraylength hx (by rw [e0]; exact AE.1) (State.isArrayOf_alike hZ.alike AE.2.1) (g := (mkF m 2 #[.val (.ref a), .val (.ref x0), .val (.ref te), .val (.int (0 : Int32))] [(.ref te), (.int (0 : Int32))])) rfl rfl (hb hby d7_2) _ kt) ?_
  rw [show clE.slots.size.toInt32 = (0 : Int32) from by rw [szE]; rfl]
  refine Go.by (S' := s₁.setTop (mkF m 6 #[.val (.ref a), .val (.ref x0), .val (.ref te), .val (.int (0 : Int32))] [])) (fun _ kt => XS.icmpNo X0.here hx rfl (hb hby d7_3) rfl (XT.ii_ne_f (by decide))  kt) ?_
  refine Go.by (S' := s₁.setTop (mkF m 7 #[.val (.ref a), .val (.ref x0), .val (.ref te), .val (.int (0 : Int32))] [(.ref a)])) (fun _ kt => XS.aloadN X0.here hx rfl (hb hby d7_6) rfl rfl  kt) ?_
  obtain ⟨cq1, q1, q1'⟩ := (E_a).cell
  obtain ⟨_, _, ⟨T1, L1, k1, n1⟩, -, X1, ⟨Lc1, hQ1, l1, y1, z1⟩, st1⟩ := X0.privateBack hx (y := (⟨"java/util/ArrayList", "grow", "()[Ljava/lang/Object;"⟩ : MethodName)) hown (mvT hZ (hw _ (List.mem_of_getElem? (i := 50) rfl))) (mvT hZ (hw _ (List.mem_of_getElem? (i := 51) rfl))) (mvT hZ (hw _ (List.mem_of_getElem? (i := 53) rfl))) (Cond.privateMethod_at (mvP hZ (hw _ (List.mem_of_getElem? (i := 52) rfl)) (args := #[]))) (mvT hZ (hw _ (List.mem_of_getElem? (i := 54) rfl))) (by decide) (backOf (W := 0) (rm8 l Z a0 hw [] a mc te clE h0 n0 F_a_modCount F_a_size F_a_elementData E_a g_a SD AE szE Z0) hZ (hw _ (List.mem_of_getElem? (i := 54) rfl)) (hw _ (List.mem_of_getElem? (i := 4) rfl)) (by decide) (by decide)) (g := (mkF m 7 #[.val (.ref a), .val (.ref x0), .val (.ref te), .val (.int (0 : Int32))] [(.ref a)])) rfl (by rw [hml]; rfl) (Steps.refl _) (a := a) (by rw [e0]; exact q1) q1' (argsL := []) (rest := []) (lenOf pd_4 rfl) rfl (by show 2 * 0 + _ ≤ _; exact Nat.le_of_eq rfl) (hb hby d7_7) (fun _ _ => ⟨rfl, e0, (by decide : 0 + 1 ≤ _), (by decide : 0 + 10 ≤ _)⟩)
  dsimp only [Pt.U, Pt.locs, Pt.cells, Pt.slots] at X1 l1 y1 z1 st1 hQ1
  subst l1 y1 z1
  obtain ⟨r, kA, rfl, N1q, K1, hr0, E_a', F_a_modCount, F_a_size, F_a_elementData, V, O⟩ := hQ1
  have N1 := Fr.app N0 N1q
  have g_r : n0 ≤ r := Nat.le_trans Z0 hr0
  have E_x0 := E_x0.keep K1
  have E_a := E_a'
  have KP : Keep h0 T1.heap [a, r] := (Keep.refl h0 [a, r]).trans K1 (allS (Or.inl (List.mem_of_getElem? (i := 0) rfl)) all0)
  refine Go.at (S' := T1.setTop (mkF m 10 #[.val (.ref a), .val (.ref x0), .val (.ref te), .val (.int (0 : Int32))] [(.ref r)])) st1 ?_
  refine Go.by (S' := T1.setTop (mkF m 11 #[.val (.ref a), .val (.ref x0), .val (.ref r), .val (.int (0 : Int32))] [])) (fun _ kt => XS.astoreN X1.here hx rfl (hb hby d7_10) rfl rfl (l' := #[.val (.ref a), .val (.ref x0), .val (.ref r), .val (.int (0 : Int32))]) rfl  kt) ?_
  refine Go.by (S' := T1.setTop (mkF m 12 #[.val (.ref a), .val (.ref x0), .val (.ref r), .val (.int (0 : Int32))] [(.ref r)])) (fun _ kt => XS.aloadN X1.here hx rfl (hb hby d7_11) rfl rfl  kt) ?_
  refine Go.by (S' := T1.setTop (mkF m 13 #[.val (.ref a), .val (.ref x0), .val (.ref r), .val (.int (0 : Int32))] [(.int (0 : Int32)), (.ref r)])) (fun _ kt => XS.iloadN X1.here hx rfl (hb hby d7_12) rfl  kt) ?_
  refine Go.by (S' := T1.setTop (mkF m 14 #[.val (.ref a), .val (.ref x0), .val (.ref r), .val (.int (0 : Int32))] [(.ref x0), (.int (0 : Int32)), (.ref r)])) (fun _ kt => XS.aloadN X1.here hx rfl (hb hby d7_13) rfl rfl  kt) ?_
  have ne : a ≠ r := Exa.neArv E_a V (hw _ (List.mem_of_getElem? (i := 3) rfl))
  obtain ⟨cl2, Ar2, q2, Sz2, Nn2, H2, G2⟩ := V
  obtain ⟨T2, h2, X2, e2, W2, st2⟩ := stR X1 hx hZ rfl Ar2 (j := (0 : Int32)) (inb_of Sz2 ⟨by decide, by decide⟩) rfl (Sto.ofV Ar2 q2 O (Ins.of_exa E_x0 (hw _ (List.mem_of_getElem? (i := 66) rfl)))) (g := (mkF m 14 #[.val (.ref a), .val (.ref x0), .val (.ref r), .val (.int (0 : Int32))] [(.ref x0), (.int (0 : Int32)), (.ref r)])) rfl rfl (hb hby d7_14)
  have V : Arv Z h2 r kA (.object "java/lang/Object") 10 [(.ref x0), .null, .null, .null, .null, .null, .null, .null, .null, .null] .null := Arv.set Ar2 q2 Sz2 Nn2 H2 G2 rfl W2 0 rfl (Nat.le_of_ble_eq_true rfl)
  have E_a := E_a.wr W2
  have F_a_modCount := F_a_modCount.other W2 (Or.inl ne)
  have F_a_size := F_a_size.other W2 (Or.inl ne)
  have F_a_elementData := F_a_elementData.other W2 (Or.inl ne)
  have KP := KP.wr W2 (Or.inl (List.mem_of_getElem? (i := 1) rfl))
  have N2 := Fr.snoc X2 N1 g_r
  refine Go.by (S' := T2.setTop (mkF m 15 #[.val (.ref a), .val (.ref x0), .val (.ref r), .val (.int (0 : Int32))] [])) st2 ?_
  refine Go.by (S' := T2.setTop (mkF m 16 #[.val (.ref a), .val (.ref x0), .val (.ref r), .val (.int (0 : Int32))] [(.ref a)])) (fun _ kt => XS.aloadN X2.here hx rfl (hb hby d7_15) rfl rfl  kt) ?_
  refine Go.by (S' := T2.setTop (mkF m 17 #[.val (.ref a), .val (.ref x0), .val (.ref r), .val (.int (0 : Int32))] [(.int (0 : Int32)), (.ref a)])) (fun _ kt => XS.iloadN X2.here hx rfl (hb hby d7_16) rfl  kt) ?_
  refine Go.by (S' := T2.setTop (mkF m 18 #[.val (.ref a), .val (.ref x0), .val (.ref r), .val (.int (0 : Int32))] [(.int (1 : Int32)), (.int (0 : Int32)), (.ref a)])) (fun _ kt => XT.iconstV X2.here hx rfl (1 : Int32) (hb hby d7_17) (by decide)  kt) ?_
  refine Go.by (S' := T2.setTop (mkF m 19 #[.val (.ref a), .val (.ref x0), .val (.ref r), .val (.int (0 : Int32))] [(.int ((0 : Int32) + (1 : Int32))), (.ref a)])) (fun _ kt => XS.iadd X2.here hx rfl (hb hby d7_18) rfl  kt) ?_
  obtain ⟨T3, h3, X3, e3, W3, st3⟩ := putF X2 hx hZ hown (host := "") (Or.inl (hw _ (List.mem_of_getElem? (i := 43) rfl))) Via.refl e2 F_a_size E_a (Or.inl (hw _ (List.mem_of_getElem? (i := 44) rfl))) (hw _ (List.mem_of_getElem? (i := 3) rfl)) (ty := .int) (by decide) rfl rfl (g := (mkF m 19 #[.val (.ref a), .val (.ref x0), .val (.ref r), .val (.int (0 : Int32))] [(.int ((0 : Int32) + (1 : Int32))), (.ref a)])) rfl rfl (hb hby d7_19)
  have F_a_size := F_a_size.same W3
  have E_a := E_a.wr W3
  have F_a_modCount := F_a_modCount.other W3 (Or.inr (slot_ne (Or.inl (hw _ (List.mem_of_getElem? (i := 24) rfl))) (Or.inl (hw _ (List.mem_of_getElem? (i := 44) rfl))) (by decide) (t := .int) (t' := .int) (by decide) (by decide)))
  have F_a_elementData := F_a_elementData.other W3 (Or.inr (slot_ne (Or.inl (hw _ (List.mem_of_getElem? (i := 27) rfl))) (Or.inl (hw _ (List.mem_of_getElem? (i := 44) rfl))) (by decide) (t := (.array (.object "java/lang/Object"))) (t' := .int) (by decide) (by decide)))
  have KP := KP.wr W3 (Or.inl (List.mem_of_getElem? (i := 0) rfl))
  have N3 := Fr.snoc X3 N2 g_a
  refine Go.by (S' := T3.setTop (mkF m 22 #[.val (.ref a), .val (.ref x0), .val (.ref r), .val (.int (0 : Int32))] [])) st3 ?_
  have V := V.other W3 ne.symm
  rw [show ((0 : Int32) + (1 : Int32)) = 1 from by decide] at F_a_size
  refine goRet X3 (v := none) (fun _ => rfl) Bd.notSynchronized (fun fs hr => X3.returnOut hx Bd.returns (hb hby d7_22) hr) (by decide) (by decide) ?_
  rw [e3]
  exact ⟨r, kA, rfl, N3, g_r, KP, E_a, F_a_modCount, F_a_size, F_a_elementData, V, O⟩
theorem ef_rm7_1 (m : MethodId) (x0 : Addr) (x1 : Addr) (x2 : Addr) (x3 : Int32) : entryFrame m #[(.ref x0), (.ref x1), (.ref x2), (.int x3)] 4 = mkF m 0 #[.val (.ref x0), .val (.ref x1), .val (.ref x2), .val (.int x3)] [] := by first | (simp [entryFrame, mkF, argsToLocals, Value.category]; done) | rfl
theorem pn_rm7_1 : plainName "java/util/ArrayList" = true := by first | (simp [plainName, overriddenIn]; done) | decide +kernel
set_option maxRecDepth 65536 in
set_option maxHeartbeats 40000000 in
theorem rm7_1 (l : Launch) (Z : State) (a0 : Array Value) (hw : ∀ d ∈ tables_1, d.before a0 Z = true) (ws : List Jvm.Cond) (a : Addr) (x1 : Addr) (r : Addr) (mc : Int32) (kA : ClassId) (x0 : Addr) (h0 : Heap) (n0 : Nat) (F_a_modCount : Fld Z h0 a "java/util/AbstractList" "modCount" "I" (.int mc)) (F_a_size : Fld Z h0 a "java/util/ArrayList" "size" "I" (.int 1)) (F_a_elementData : Fld Z h0 a "java/util/ArrayList" "elementData" "[Ljava/lang/Object;" (.ref r)) (E_a : Exa Z h0 a "java/util/ArrayList") (g_a : n0 ≤ a) (g_r : n0 ≤ r) (V : Arv Z h0 r kA (.object "java/lang/Object") 10 [(.ref x0), .null, .null, .null, .null, .null, .null, .null, .null, .null] .null) (O : Ovr Z kA "java/lang/Object") (E_x1 : Exa Z h0 x1 "java/lang/Long") :
    MetFree l (⟨"java/util/ArrayList", "add", "(Ljava/lang/Object;[Ljava/lang/Object;I)V"⟩ : MethodName) (head1 (Jvm.Cond.code (⟨"java/util/ArrayList", "add", "(Ljava/lang/Object;[Ljava/lang/Object;I)V"⟩ : MethodName) jdk_38_method_24_code 4 none :: ws) ({ frames := 0, cells := 0, slots := 0, locals := 0 } : Room)) (fun aa U => aa = #[(.ref a), (.ref x1), (.ref r), (.int (1 : Int32))] ∧ Z.Warmed39 U.vm ∧ U.heap = h0) (fun _ _ _ _ _ => True) (fun _ U o U' => ∃ v L, o = .returned v ∧ AddQ Z a mc 2 [(.ref x0), (.ref x1), .null, .null, .null, .null, .null, .null, .null, .null] none h0 n0 v U'.heap L ∧ FrameEnd U o U' L ({ frames := 0, cells := 0, slots := 0, locals := 0 } : Room).cells ({ frames := 0, cells := 0, slots := 0, locals := 0 } : Room).slots) := by
  refine MetFree.of_bodySF (plainFor_of_name pn_rm7_1) hisR ?_
  intro p e s m args below meth c s₁ Bd hml0 hP hK
  obtain ⟨rfl, hZ, hh⟩ := hP
  have hx := Bd.exec
  have hby := Bd.bytes
  have hml : c.maxLocals = 4 := hml0
  have hown : s.vm.findClass "java/util/ArrayList" = some m.cls := findClass_of_methodNamed Bd.named
  have hnm := (name_of_methodNamed Bd.named Bd.method).1
  have X0 : Stand p l e ({ frames := 0, cells := 0, slots := 0, locals := 0 } : Room) s m #[(.ref a), (.ref x1), (.ref r), (.int (1 : Int32))] below meth c s₁ [] 0 0 := Stand.of_body Bd
  have e0 : s₁.heap = h0 := by rw [← hh, Bd.state]; rfl
  have N0 := Fr.nil n0
  have KP := Keep.refl h0 [a, r]
  refine goIn (ef_rm7_1 m a x1 r (1 : Int32)) ?_
  refine Go.by (S' := s₁.setTop (mkF m 1 #[.val (.ref a), .val (.ref x1), .val (.ref r), .val (.int (1 : Int32))] [(.int (1 : Int32))])) (fun _ kt => XS.iloadN X0.here hx rfl (hb hby d7_0) rfl  kt) ?_
  refine Go.by (S' := s₁.setTop (mkF m 2 #[.val (.ref a), .val (.ref x1), .val (.ref r), .val (.int (1 : Int32))] [(.ref r), (.int (1 : Int32))])) (fun _ kt => XS.aloadN X0.here hx rfl (hb hby d7_1) rfl rfl  kt) ?_
  obtain ⟨clV, ArV, qV, SzV, NnV, HV, GV⟩ := id V
  refine Go.by (S' := s₁.setTop (mkF m 3 #[.val (.ref a), .val (.ref x1), .val (.ref r), .val (.int (1 : Int32))] [(.int clV.slots.size.toInt32), (.int (1 : Int32))])) (fun _ kt => X0.arraylength hx (by rw [e0]; exact ArV.1) (State.isArrayOf_alike hZ.alike ArV.2.1) (g := (mkF m 2 #[.val (.ref a), .val (.ref x1), .val (.ref r), .val (.int (1 : Int32))] [(.ref r), (.int (1 : Int32))])) rfl rfl (hb hby d7_2) _ kt) ?_
  rw [show clV.slots.size.toInt32 = (10 : Int32) from by rw [SzV]; rfl]
  refine Go.by (S' := s₁.setTop (mkF m 11 #[.val (.ref a), .val (.ref x1), .val (.ref r), .val (.int (1 : Int32))] [])) (fun _ kt => XS.icmpYes X0.here hx rfl (pc0 := 3) (pc' := 11) rfl (hb hby d7_3) rfl (XT.ii_ne_t (by decide)) (by decide) (by decide)  kt) ?_
  refine Go.by (S' := s₁.setTop (mkF m 12 #[.val (.ref a), .val (.ref x1), .val (.ref r), .val (.int (1 : Int32))] [(.ref r)])) (fun _ kt => XS.aloadN X0.here hx rfl (hb hby d7_11) rfl rfl  kt) ?_
  refine Go.by (S' := s₁.setTop (mkF m 13 #[.val (.ref a), .val (.ref x1), .val (.ref r), .val (.int (1 : Int32))] [(.int (1 : Int32)), (.ref r)])) (fun _ kt => XS.iloadN X0.here hx rfl (hb hby d7_12) rfl  kt) ?_
  refine Go.by (S' := s₁.setTop (mkF m 14 #[.val (.ref a), .val (.ref x1), .val (.ref r), .val (.int (1 : Int32))] [(.ref x1), (.int (1 : Int32)), (.ref r)])) (fun _ kt => XS.aloadN X0.here hx rfl (hb hby d7_13) rfl rfl  kt) ?_
  have ne : a ≠ r := Exa.neArv E_a V (hw _ (List.mem_of_getElem? (i := 3) rfl))
  obtain ⟨cl1, Ar1, q1, Sz1, Nn1, H1, G1⟩ := V
  obtain ⟨T1, h1, X1, e1, W1, st1⟩ := stR X0 hx hZ e0 Ar1 (j := (1 : Int32)) (inb_of Sz1 ⟨by decide, by decide⟩) rfl (Sto.ofV Ar1 q1 O (Ins.of_exa E_x1 (hw _ (List.mem_of_getElem? (i := 66) rfl)))) (g := (mkF m 14 #[.val (.ref a), .val (.ref x1), .val (.ref r), .val (.int (1 : Int32))] [(.ref x1), (.int (1 : Int32)), (.ref r)])) rfl rfl (hb hby d7_14)
  have V : Arv Z h1 r kA (.object "java/lang/Object") 10 [(.ref x0), (.ref x1), .null, .null, .null, .null, .null, .null, .null, .null] .null := Arv.set Ar1 q1 Sz1 Nn1 H1 G1 rfl W1 1 rfl (Nat.le_of_ble_eq_true rfl)
  have E_a := E_a.wr W1
  have F_a_modCount := F_a_modCount.other W1 (Or.inl ne)
  have F_a_size := F_a_size.other W1 (Or.inl ne)
  have F_a_elementData := F_a_elementData.other W1 (Or.inl ne)
  have KP := KP.wr W1 (Or.inl (List.mem_of_getElem? (i := 1) rfl))
  have N1 := Fr.snoc X1 N0 g_r
  refine Go.by (S' := T1.setTop (mkF m 15 #[.val (.ref a), .val (.ref x1), .val (.ref r), .val (.int (1 : Int32))] [])) st1 ?_
  refine Go.by (S' := T1.setTop (mkF m 16 #[.val (.ref a), .val (.ref x1), .val (.ref r), .val (.int (1 : Int32))] [(.ref a)])) (fun _ kt => XS.aloadN X1.here hx rfl (hb hby d7_15) rfl rfl  kt) ?_
  refine Go.by (S' := T1.setTop (mkF m 17 #[.val (.ref a), .val (.ref x1), .val (.ref r), .val (.int (1 : Int32))] [(.int (1 : Int32)), (.ref a)])) (fun _ kt => XS.iloadN X1.here hx rfl (hb hby d7_16) rfl  kt) ?_
  refine Go.by (S' := T1.setTop (mkF m 18 #[.val (.ref a), .val (.ref x1), .val (.ref r), .val (.int (1 : Int32))] [(.int (1 : Int32)), (.int (1 : Int32)), (.ref a)])) (fun _ kt => XT.iconstV X1.here hx rfl (1 : Int32) (hb hby d7_17) (by decide)  kt) ?_
  refine Go.by (S' := T1.setTop (mkF m 19 #[.val (.ref a), .val (.ref x1), .val (.ref r), .val (.int (1 : Int32))] [(.int ((1 : Int32) + (1 : Int32))), (.ref a)])) (fun _ kt => XS.iadd X1.here hx rfl (hb hby d7_18) rfl  kt) ?_
  obtain ⟨T2, h2, X2, e2, W2, st2⟩ := putF X1 hx hZ hown (host := "") (Or.inl (hw _ (List.mem_of_getElem? (i := 43) rfl))) Via.refl e1 F_a_size E_a (Or.inl (hw _ (List.mem_of_getElem? (i := 44) rfl))) (hw _ (List.mem_of_getElem? (i := 3) rfl)) (ty := .int) (by decide) rfl rfl (g := (mkF m 19 #[.val (.ref a), .val (.ref x1), .val (.ref r), .val (.int (1 : Int32))] [(.int ((1 : Int32) + (1 : Int32))), (.ref a)])) rfl rfl (hb hby d7_19)
  have F_a_size := F_a_size.same W2
  have E_a := E_a.wr W2
  have F_a_modCount := F_a_modCount.other W2 (Or.inr (slot_ne (Or.inl (hw _ (List.mem_of_getElem? (i := 24) rfl))) (Or.inl (hw _ (List.mem_of_getElem? (i := 44) rfl))) (by decide) (t := .int) (t' := .int) (by decide) (by decide)))
  have F_a_elementData := F_a_elementData.other W2 (Or.inr (slot_ne (Or.inl (hw _ (List.mem_of_getElem? (i := 27) rfl))) (Or.inl (hw _ (List.mem_of_getElem? (i := 44) rfl))) (by decide) (t := (.array (.object "java/lang/Object"))) (t' := .int) (by decide) (by decide)))
  have KP := KP.wr W2 (Or.inl (List.mem_of_getElem? (i := 0) rfl))
  have N2 := Fr.snoc X2 N1 g_a
  refine Go.by (S' := T2.setTop (mkF m 22 #[.val (.ref a), .val (.ref x1), .val (.ref r), .val (.int (1 : Int32))] [])) st2 ?_
  have V := V.other W2 ne.symm
  rw [show ((1 : Int32) + (1 : Int32)) = 2 from by decide] at F_a_size
  refine goRet X2 (v := none) (fun _ => rfl) Bd.notSynchronized (fun fs hr => X2.returnOut hx Bd.returns (hb hby d7_22) hr) (by decide) (by decide) ?_
  rw [e2]
  exact ⟨r, kA, rfl, N2, g_r, KP, E_a, F_a_modCount, F_a_size, F_a_elementData, V, O⟩
theorem ef_rm7_2 (m : MethodId) (x0 : Addr) (x1 : Addr) (x2 : Addr) (x3 : Int32) : entryFrame m #[(.ref x0), (.ref x1), (.ref x2), (.int x3)] 4 = mkF m 0 #[.val (.ref x0), .val (.ref x1), .val (.ref x2), .val (.int x3)] [] := by first | (simp [entryFrame, mkF, argsToLocals, Value.category]; done) | rfl
theorem pn_rm7_2 : plainName "java/util/ArrayList" = true := by first | (simp [plainName, overriddenIn]; done) | decide +kernel
set_option maxRecDepth 65536 in
set_option maxHeartbeats 40000000 in
theorem rm7_2 (l : Launch) (Z : State) (a0 : Array Value) (hw : ∀ d ∈ tables_1, d.before a0 Z = true) (ws : List Jvm.Cond) (a : Addr) (x2 : Addr) (r : Addr) (mc : Int32) (kA : ClassId) (x0 x1 : Addr) (h0 : Heap) (n0 : Nat) (F_a_modCount : Fld Z h0 a "java/util/AbstractList" "modCount" "I" (.int mc)) (F_a_size : Fld Z h0 a "java/util/ArrayList" "size" "I" (.int 2)) (F_a_elementData : Fld Z h0 a "java/util/ArrayList" "elementData" "[Ljava/lang/Object;" (.ref r)) (E_a : Exa Z h0 a "java/util/ArrayList") (g_a : n0 ≤ a) (g_r : n0 ≤ r) (V : Arv Z h0 r kA (.object "java/lang/Object") 10 [(.ref x0), (.ref x1), .null, .null, .null, .null, .null, .null, .null, .null] .null) (O : Ovr Z kA "java/lang/Object") (E_x2 : Exa Z h0 x2 "java/lang/Long") :
    MetFree l (⟨"java/util/ArrayList", "add", "(Ljava/lang/Object;[Ljava/lang/Object;I)V"⟩ : MethodName) (head1 (Jvm.Cond.code (⟨"java/util/ArrayList", "add", "(Ljava/lang/Object;[Ljava/lang/Object;I)V"⟩ : MethodName) jdk_38_method_24_code 4 none :: ws) ({ frames := 0, cells := 0, slots := 0, locals := 0 } : Room)) (fun aa U => aa = #[(.ref a), (.ref x2), (.ref r), (.int (2 : Int32))] ∧ Z.Warmed39 U.vm ∧ U.heap = h0) (fun _ _ _ _ _ => True) (fun _ U o U' => ∃ v L, o = .returned v ∧ AddQ Z a mc 3 [(.ref x0), (.ref x1), (.ref x2), .null, .null, .null, .null, .null, .null, .null] none h0 n0 v U'.heap L ∧ FrameEnd U o U' L ({ frames := 0, cells := 0, slots := 0, locals := 0 } : Room).cells ({ frames := 0, cells := 0, slots := 0, locals := 0 } : Room).slots) := by
  refine MetFree.of_bodySF (plainFor_of_name pn_rm7_2) hisR ?_
  intro p e s m args below meth c s₁ Bd hml0 hP hK
  obtain ⟨rfl, hZ, hh⟩ := hP
  have hx := Bd.exec
  have hby := Bd.bytes
  have hml : c.maxLocals = 4 := hml0
  have hown : s.vm.findClass "java/util/ArrayList" = some m.cls := findClass_of_methodNamed Bd.named
  have hnm := (name_of_methodNamed Bd.named Bd.method).1
  have X0 : Stand p l e ({ frames := 0, cells := 0, slots := 0, locals := 0 } : Room) s m #[(.ref a), (.ref x2), (.ref r), (.int (2 : Int32))] below meth c s₁ [] 0 0 := Stand.of_body Bd
  have e0 : s₁.heap = h0 := by rw [← hh, Bd.state]; rfl
  have N0 := Fr.nil n0
  have KP := Keep.refl h0 [a, r]
  refine goIn (ef_rm7_2 m a x2 r (2 : Int32)) ?_
  refine Go.by (S' := s₁.setTop (mkF m 1 #[.val (.ref a), .val (.ref x2), .val (.ref r), .val (.int (2 : Int32))] [(.int (2 : Int32))])) (fun _ kt => XS.iloadN X0.here hx rfl (hb hby d7_0) rfl  kt) ?_
  refine Go.by (S' := s₁.setTop (mkF m 2 #[.val (.ref a), .val (.ref x2), .val (.ref r), .val (.int (2 : Int32))] [(.ref r), (.int (2 : Int32))])) (fun _ kt => XS.aloadN X0.here hx rfl (hb hby d7_1) rfl rfl  kt) ?_
  obtain ⟨clV, ArV, qV, SzV, NnV, HV, GV⟩ := id V
  refine Go.by (S' := s₁.setTop (mkF m 3 #[.val (.ref a), .val (.ref x2), .val (.ref r), .val (.int (2 : Int32))] [(.int clV.slots.size.toInt32), (.int (2 : Int32))])) (fun _ kt => X0.arraylength hx (by rw [e0]; exact ArV.1) (State.isArrayOf_alike hZ.alike ArV.2.1) (g := (mkF m 2 #[.val (.ref a), .val (.ref x2), .val (.ref r), .val (.int (2 : Int32))] [(.ref r), (.int (2 : Int32))])) rfl rfl (hb hby d7_2) _ kt) ?_
  rw [show clV.slots.size.toInt32 = (10 : Int32) from by rw [SzV]; rfl]
  refine Go.by (S' := s₁.setTop (mkF m 11 #[.val (.ref a), .val (.ref x2), .val (.ref r), .val (.int (2 : Int32))] [])) (fun _ kt => XS.icmpYes X0.here hx rfl (pc0 := 3) (pc' := 11) rfl (hb hby d7_3) rfl (XT.ii_ne_t (by decide)) (by decide) (by decide)  kt) ?_
  refine Go.by (S' := s₁.setTop (mkF m 12 #[.val (.ref a), .val (.ref x2), .val (.ref r), .val (.int (2 : Int32))] [(.ref r)])) (fun _ kt => XS.aloadN X0.here hx rfl (hb hby d7_11) rfl rfl  kt) ?_
  refine Go.by (S' := s₁.setTop (mkF m 13 #[.val (.ref a), .val (.ref x2), .val (.ref r), .val (.int (2 : Int32))] [(.int (2 : Int32)), (.ref r)])) (fun _ kt => XS.iloadN X0.here hx rfl (hb hby d7_12) rfl  kt) ?_
  refine Go.by (S' := s₁.setTop (mkF m 14 #[.val (.ref a), .val (.ref x2), .val (.ref r), .val (.int (2 : Int32))] [(.ref x2), (.int (2 : Int32)), (.ref r)])) (fun _ kt => XS.aloadN X0.here hx rfl (hb hby d7_13) rfl rfl  kt) ?_
  have ne : a ≠ r := Exa.neArv E_a V (hw _ (List.mem_of_getElem? (i := 3) rfl))
  obtain ⟨cl1, Ar1, q1, Sz1, Nn1, H1, G1⟩ := V
  obtain ⟨T1, h1, X1, e1, W1, st1⟩ := stR X0 hx hZ e0 Ar1 (j := (2 : Int32)) (inb_of Sz1 ⟨by decide, by decide⟩) rfl (Sto.ofV Ar1 q1 O (Ins.of_exa E_x2 (hw _ (List.mem_of_getElem? (i := 66) rfl)))) (g := (mkF m 14 #[.val (.ref a), .val (.ref x2), .val (.ref r), .val (.int (2 : Int32))] [(.ref x2), (.int (2 : Int32)), (.ref r)])) rfl rfl (hb hby d7_14)
  have V : Arv Z h1 r kA (.object "java/lang/Object") 10 [(.ref x0), (.ref x1), (.ref x2), .null, .null, .null, .null, .null, .null, .null] .null := Arv.set Ar1 q1 Sz1 Nn1 H1 G1 rfl W1 2 rfl (Nat.le_of_ble_eq_true rfl)
  have E_a := E_a.wr W1
  have F_a_modCount := F_a_modCount.other W1 (Or.inl ne)
  have F_a_size := F_a_size.other W1 (Or.inl ne)
  have F_a_elementData := F_a_elementData.other W1 (Or.inl ne)
  have KP := KP.wr W1 (Or.inl (List.mem_of_getElem? (i := 1) rfl))
  have N1 := Fr.snoc X1 N0 g_r
  refine Go.by (S' := T1.setTop (mkF m 15 #[.val (.ref a), .val (.ref x2), .val (.ref r), .val (.int (2 : Int32))] [])) st1 ?_
  refine Go.by (S' := T1.setTop (mkF m 16 #[.val (.ref a), .val (.ref x2), .val (.ref r), .val (.int (2 : Int32))] [(.ref a)])) (fun _ kt => XS.aloadN X1.here hx rfl (hb hby d7_15) rfl rfl  kt) ?_
  refine Go.by (S' := T1.setTop (mkF m 17 #[.val (.ref a), .val (.ref x2), .val (.ref r), .val (.int (2 : Int32))] [(.int (2 : Int32)), (.ref a)])) (fun _ kt => XS.iloadN X1.here hx rfl (hb hby d7_16) rfl  kt) ?_
  refine Go.by (S' := T1.setTop (mkF m 18 #[.val (.ref a), .val (.ref x2), .val (.ref r), .val (.int (2 : Int32))] [(.int (1 : Int32)), (.int (2 : Int32)), (.ref a)])) (fun _ kt => XT.iconstV X1.here hx rfl (1 : Int32) (hb hby d7_17) (by decide)  kt) ?_
  refine Go.by (S' := T1.setTop (mkF m 19 #[.val (.ref a), .val (.ref x2), .val (.ref r), .val (.int (2 : Int32))] [(.int ((2 : Int32) + (1 : Int32))), (.ref a)])) (fun _ kt => XS.iadd X1.here hx rfl (hb hby d7_18) rfl  kt) ?_
  obtain ⟨T2, h2, X2, e2, W2, st2⟩ := putF X1 hx hZ hown (host := "") (Or.inl (hw _ (List.mem_of_getElem? (i := 43) rfl))) Via.refl e1 F_a_size E_a (Or.inl (hw _ (List.mem_of_getElem? (i := 44) rfl))) (hw _ (List.mem_of_getElem? (i := 3) rfl)) (ty := .int) (by decide) rfl rfl (g := (mkF m 19 #[.val (.ref a), .val (.ref x2), .val (.ref r), .val (.int (2 : Int32))] [(.int ((2 : Int32) + (1 : Int32))), (.ref a)])) rfl rfl (hb hby d7_19)
  have F_a_size := F_a_size.same W2
  have E_a := E_a.wr W2
  have F_a_modCount := F_a_modCount.other W2 (Or.inr (slot_ne (Or.inl (hw _ (List.mem_of_getElem? (i := 24) rfl))) (Or.inl (hw _ (List.mem_of_getElem? (i := 44) rfl))) (by decide) (t := .int) (t' := .int) (by decide) (by decide)))
  have F_a_elementData := F_a_elementData.other W2 (Or.inr (slot_ne (Or.inl (hw _ (List.mem_of_getElem? (i := 27) rfl))) (Or.inl (hw _ (List.mem_of_getElem? (i := 44) rfl))) (by decide) (t := (.array (.object "java/lang/Object"))) (t' := .int) (by decide) (by decide)))
  have KP := KP.wr W2 (Or.inl (List.mem_of_getElem? (i := 0) rfl))
  have N2 := Fr.snoc X2 N1 g_a
  refine Go.by (S' := T2.setTop (mkF m 22 #[.val (.ref a), .val (.ref x2), .val (.ref r), .val (.int (2 : Int32))] [])) st2 ?_
  have V := V.other W2 ne.symm
  rw [show ((2 : Int32) + (1 : Int32)) = 3 from by decide] at F_a_size
  refine goRet X2 (v := none) (fun _ => rfl) Bd.notSynchronized (fun fs hr => X2.returnOut hx Bd.returns (hb hby d7_22) hr) (by decide) (by decide) ?_
  rw [e2]
  exact ⟨r, kA, rfl, N2, g_r, KP, E_a, F_a_modCount, F_a_size, F_a_elementData, V, O⟩
theorem own_keep2 {h0 h h' : Heap} {a r : Addr} (K : Keep h0 h [a]) (K' : Keep h h' [a, r]) : Keep h0 h' [a, r] :=
  Keep.trans (ws := [a, r]) (ws' := [a, r]) ⟨K.1, fun x c q z => K.2.1 x c q (fun y => z (List.mem_of_getElem? (i := 0) (by rw [List.mem_singleton.mp y]; rfl))), K.2.2⟩ K' (fun x hx => Or.inl hx)
theorem ef_rm6a (m : MethodId) (x0 : Addr) (x1 : Addr) : entryFrame m #[(.ref x0), (.ref x1)] 2 = mkF m 0 #[.val (.ref x0), .val (.ref x1)] [] := by first | (simp [entryFrame, mkF, argsToLocals, Value.category]; done) | rfl
theorem pn_rm6a : plainName "java/util/ArrayList" = true := by first | (simp [plainName, overriddenIn]; done) | decide +kernel
theorem d6_0 : decode jdk_38_method_25_code 0 = .ok (.aload_n 0, 1) := by decide +kernel
theorem d6_1 : decode jdk_38_method_25_code 1 = .ok (.dup, 1) := by decide +kernel
theorem d6_2 : decode jdk_38_method_25_code 2 = .ok (.getfield 63, 3) := by decide +kernel
theorem d6_5 : decode jdk_38_method_25_code 5 = .ok (.iconst 1, 1) := by decide +kernel
theorem d6_6 : decode jdk_38_method_25_code 6 = .ok (.iadd, 1) := by decide +kernel
theorem d6_7 : decode jdk_38_method_25_code 7 = .ok (.putfield 63, 3) := by decide +kernel
theorem d6_10 : decode jdk_38_method_25_code 10 = .ok (.aload_n 0, 1) := by decide +kernel
theorem d6_11 : decode jdk_38_method_25_code 11 = .ok (.aload_n 1, 1) := by decide +kernel
theorem d6_12 : decode jdk_38_method_25_code 12 = .ok (.aload_n 0, 1) := by decide +kernel
theorem d6_13 : decode jdk_38_method_25_code 13 = .ok (.getfield 9, 3) := by decide +kernel
theorem d6_16 : decode jdk_38_method_25_code 16 = .ok (.aload_n 0, 1) := by decide +kernel
theorem d6_17 : decode jdk_38_method_25_code 17 = .ok (.getfield 48, 3) := by decide +kernel
theorem d6_20 : decode jdk_38_method_25_code 20 = .ok (.invokevirtual 131, 3) := by decide +kernel
theorem d6_23 : decode jdk_38_method_25_code 23 = .ok (.iconst 1, 1) := by decide +kernel
theorem d6_24 : decode jdk_38_method_25_code 24 = .ok (.ireturn, 1) := by decide +kernel
set_option maxRecDepth 65536 in
set_option maxHeartbeats 40000000 in
theorem rm6a (l : Launch) (Z : State) (a0 : Array Value) (hw : ∀ d ∈ tables_1, d.before a0 Z = true) (ws : List Jvm.Cond) (a : Addr) (x0 : Addr) (mc : Int32) (te : Addr) (clE : Cell) (h0 : Heap) (n0 : Nat) (F_a_modCount : Fld Z h0 a "java/util/AbstractList" "modCount" "I" (.int mc)) (F_a_size : Fld Z h0 a "java/util/ArrayList" "size" "I" (.int 0)) (F_a_elementData : Fld Z h0 a "java/util/ArrayList" "elementData" "[Ljava/lang/Object;" (.ref te)) (E_a : Exa Z h0 a "java/util/ArrayList") (g_a : n0 ≤ a) (SD : Sta Z h0 "java/util/ArrayList" "DEFAULTCAPACITY_EMPTY_ELEMENTDATA" "[Ljava/lang/Object;" (.ref te)) (AE : Arr Z h0 te clE (.object "java/lang/Object")) (szE : clE.slots.size = 0) (Z0 : n0 ≤ h0.size) (E_x0 : Exa Z h0 x0 "java/lang/Long") :
    MetFree l (⟨"java/util/ArrayList", "add", "(Ljava/lang/Object;)Z"⟩ : MethodName) (head1 (Jvm.Cond.code (⟨"java/util/ArrayList", "add", "(Ljava/lang/Object;)Z"⟩ : MethodName) jdk_38_method_25_code 2 (some .boolean) :: ws) ({ frames := 4, cells := 1, slots := 10, locals := 56 } : Room)) (fun aa U => aa = #[(.ref a), (.ref x0)] ∧ Z.Warmed39 U.vm ∧ U.heap = h0) (fun _ _ _ _ _ => True) (fun _ U o U' => ∃ v L, o = .returned v ∧ AddQ Z a (mc + 1) 1 [(.ref x0), .null, .null, .null, .null, .null, .null, .null, .null, .null] (some (.int 1)) h0 n0 v U'.heap L ∧ FrameEnd U o U' L ({ frames := 4, cells := 1, slots := 10, locals := 56 } : Room).cells ({ frames := 4, cells := 1, slots := 10, locals := 56 } : Room).slots) := by
  refine MetFree.of_bodySF (plainFor_of_name pn_rm6a) hisR ?_
  intro p e s m args below meth c s₁ Bd hml0 hP hK
  obtain ⟨rfl, hZ, hh⟩ := hP
  have hx := Bd.exec
  have hby := Bd.bytes
  have hml : c.maxLocals = 2 := hml0
  have hown : s.vm.findClass "java/util/ArrayList" = some m.cls := findClass_of_methodNamed Bd.named
  have hnm := (name_of_methodNamed Bd.named Bd.method).1
  have X0 : Stand p l e ({ frames := 4, cells := 1, slots := 10, locals := 56 } : Room) s m #[(.ref a), (.ref x0)] below meth c s₁ [] 0 0 := Stand.of_body Bd
  have e0 : s₁.heap = h0 := by rw [← hh, Bd.state]; rfl
  have N0 := Fr.nil n0
  have KP0 := Keep.refl h0 [a]
  have neE : a ≠ te := ne_arr E_a (hw _ (List.mem_of_getElem? (i := 3) rfl)) AE
  refine goIn (ef_rm6a m a x0) ?_
  refine Go.by (S' := s₁.setTop (mkF m 1 #[.val (.ref a), .val (.ref x0)] [(.ref a)])) (fun _ kt => XS.aloadN X0.here hx rfl (hb hby d6_0) rfl rfl  kt) ?_
  refine Go.by (S' := s₁.setTop (mkF m 2 #[.val (.ref a), .val (.ref x0)] [(.ref a), (.ref a)])) (fun _ kt => XS.dup X0.here hx rfl (hb hby d6_1) rfl rfl  kt) ?_
  obtain ⟨T1, X1, e1, st1⟩ := getF X0 hx hZ hown (host := "") (Or.inl (hw _ (List.mem_of_getElem? (i := 41) rfl))) (Via.of (hw _ (List.mem_of_getElem? (i := 42) rfl))) e0 F_a_modCount (g := (mkF m 2 #[.val (.ref a), .val (.ref x0)] [(.ref a), (.ref a)])) rfl rfl (hb hby d6_2)
  refine Go.by (S' := T1.setTop (mkF m 5 #[.val (.ref a), .val (.ref x0)] [(.int mc), (.ref a)])) st1 ?_
  refine Go.by (S' := T1.setTop (mkF m 6 #[.val (.ref a), .val (.ref x0)] [(.int (1 : Int32)), (.int mc), (.ref a)])) (fun _ kt => XT.iconstV X1.here hx rfl (1 : Int32) (hb hby d6_5) (by decide)  kt) ?_
  refine Go.by (S' := T1.setTop (mkF m 7 #[.val (.ref a), .val (.ref x0)] [(.int (mc + (1 : Int32))), (.ref a)])) (fun _ kt => XS.iadd X1.here hx rfl (hb hby d6_6) rfl  kt) ?_
  obtain ⟨T2, h2, X2, e2, W2, st2⟩ := putF X1 hx hZ hown (host := "") (Or.inl (hw _ (List.mem_of_getElem? (i := 41) rfl))) (Via.of (hw _ (List.mem_of_getElem? (i := 42) rfl))) e1 F_a_modCount E_a (Or.inl (hw _ (List.mem_of_getElem? (i := 24) rfl))) (hw _ (List.mem_of_getElem? (i := 3) rfl)) (ty := .int) (by decide) rfl rfl (g := (mkF m 7 #[.val (.ref a), .val (.ref x0)] [(.int (mc + (1 : Int32))), (.ref a)])) rfl rfl (hb hby d6_7)
  have F_a_modCount := F_a_modCount.same W2
  have E_a := E_a.wr W2
  have F_a_size := F_a_size.other W2 (Or.inr (slot_ne (Or.inl (hw _ (List.mem_of_getElem? (i := 44) rfl))) (Or.inl (hw _ (List.mem_of_getElem? (i := 24) rfl))) (by decide) (t := .int) (t' := .int) (by decide) (by decide)))
  have F_a_elementData := F_a_elementData.other W2 (Or.inr (slot_ne (Or.inl (hw _ (List.mem_of_getElem? (i := 27) rfl))) (Or.inl (hw _ (List.mem_of_getElem? (i := 24) rfl))) (by decide) (t := (.array (.object "java/lang/Object"))) (t' := .int) (by decide) (by decide)))
  have KP0 := KP0.wr W2 (Or.inl (List.mem_of_getElem? (i := 0) rfl))
  have N2 := Fr.snoc X2 N0 g_a
  refine Go.by (S' := T2.setTop (mkF m 10 #[.val (.ref a), .val (.ref x0)] [])) st2 ?_
  have SD := SD.wr W2
  have AE := AE.other W2 (Ne.symm neE)
  have E_x0 := E_x0.wr W2
  have Z0 : n0 ≤ _ := Nat.le_trans Z0 KP0.1
  refine Go.by (S' := T2.setTop (mkF m 11 #[.val (.ref a), .val (.ref x0)] [(.ref a)])) (fun _ kt => XS.aloadN X2.here hx rfl (hb hby d6_10) rfl rfl  kt) ?_
  refine Go.by (S' := T2.setTop (mkF m 12 #[.val (.ref a), .val (.ref x0)] [(.ref x0), (.ref a)])) (fun _ kt => XS.aloadN X2.here hx rfl (hb hby d6_11) rfl rfl  kt) ?_
  refine Go.by (S' := T2.setTop (mkF m 13 #[.val (.ref a), .val (.ref x0)] [(.ref a), (.ref x0), (.ref a)])) (fun _ kt => XS.aloadN X2.here hx rfl (hb hby d6_12) rfl rfl  kt) ?_
  obtain ⟨T3, X3, e3, st3⟩ := getF X2 hx hZ hown (host := "") (Or.inl (hw _ (List.mem_of_getElem? (i := 26) rfl))) Via.refl e2 F_a_elementData (g := (mkF m 13 #[.val (.ref a), .val (.ref x0)] [(.ref a), (.ref x0), (.ref a)])) rfl rfl (hb hby d6_13)
  refine Go.by (S' := T3.setTop (mkF m 16 #[.val (.ref a), .val (.ref x0)] [(.ref te), (.ref x0), (.ref a)])) st3 ?_
  refine Go.by (S' := T3.setTop (mkF m 17 #[.val (.ref a), .val (.ref x0)] [(.ref a), (.ref te), (.ref x0), (.ref a)])) (fun _ kt => XS.aloadN X3.here hx rfl (hb hby d6_16) rfl rfl  kt) ?_
  obtain ⟨T4, X4, e4, st4⟩ := getF X3 hx hZ hown (host := "") (Or.inl (hw _ (List.mem_of_getElem? (i := 43) rfl))) Via.refl e3 F_a_size (g := (mkF m 17 #[.val (.ref a), .val (.ref x0)] [(.ref a), (.ref te), (.ref x0), (.ref a)])) rfl rfl (hb hby d6_17)
  refine Go.by (S' := T4.setTop (mkF m 20 #[.val (.ref a), .val (.ref x0)] [(.int (0 : Int32)), (.ref te), (.ref x0), (.ref a)])) st4 ?_
  obtain ⟨cq5, q5, q5'⟩ := (E_a).cell
  obtain ⟨_, _, ⟨T5, L5, k5, n5⟩, -, X5, ⟨Lc5, hQ5, l5, y5, z5⟩, st5⟩ := X4.privateBack hx (y := (⟨"java/util/ArrayList", "add", "(Ljava/lang/Object;[Ljava/lang/Object;I)V"⟩ : MethodName)) hown (mvT hZ (hw _ (List.mem_of_getElem? (i := 45) rfl))) (mvT hZ (hw _ (List.mem_of_getElem? (i := 46) rfl))) (mvT hZ (hw _ (List.mem_of_getElem? (i := 48) rfl))) (Cond.privateMethod_at (mvP hZ (hw _ (List.mem_of_getElem? (i := 47) rfl)) (args := #[]))) (mvT hZ (hw _ (List.mem_of_getElem? (i := 49) rfl))) (by decide) (backOf (W := 0) (rm7a l Z a0 hw [] a x0 te (mc + (1 : Int32)) clE h2 n0 F_a_modCount F_a_size F_a_elementData E_a g_a SD AE szE Z0 E_x0) hZ (hw _ (List.mem_of_getElem? (i := 49) rfl)) (hw _ (List.mem_of_getElem? (i := 4) rfl)) (by decide) (by decide)) (g := (mkF m 20 #[.val (.ref a), .val (.ref x0)] [(.int (0 : Int32)), (.ref te), (.ref x0), (.ref a)])) rfl (by rw [hml]; rfl) (Steps.refl _) (a := a) (by rw [e4]; exact q5) q5' (argsL := [(.ref x0), (.ref te), (.int (0 : Int32))]) (rest := []) (lenOf pd_3 rfl) rfl (by show 2 * 0 + _ ≤ _; exact Nat.le_of_eq rfl) (hb hby d6_20) (fun _ _ => ⟨rfl, e4, (by decide : 0 + 1 ≤ _), (by decide : 0 + 10 ≤ _)⟩)
  dsimp only [Pt.U, Pt.locs, Pt.cells, Pt.slots] at X5 l5 y5 z5 st5 hQ5
  subst l5 y5 z5
  obtain ⟨r, kA, rfl, N5q, g_r, K5, E_a, F_a_modCount, F_a_size, F_a_elementData, V, O⟩ := hQ5
  have N5 := Fr.app N2 N5q
  have KP : Keep h0 T5.heap [a, r] := own_keep2 KP0 K5
  refine Go.at (S' := T5.setTop (mkF m 23 #[.val (.ref a), .val (.ref x0)] [])) st5 ?_
  refine Go.by (S' := T5.setTop (mkF m 24 #[.val (.ref a), .val (.ref x0)] [(.int (1 : Int32))])) (fun _ kt => XT.iconstV X5.here hx rfl (1 : Int32) (hb hby d6_23) (by decide)  kt) ?_
  refine goRet X5 (v := some (.int (nar .boolean (1 : Int32)))) (fun h => by rw [Bd.returns] at h; cases h) Bd.notSynchronized (fun fs hr => retN X5 hx (t := .boolean) Bd.returns (by simp) (hb hby d6_24) hr) (by decide) (by decide) ?_
  exact ⟨r, kA, by simp [own_n1], N5, g_r, KP, E_a, F_a_modCount, F_a_size, F_a_elementData, V, O⟩
theorem ef_rm6_1 (m : MethodId) (x0 : Addr) (x1 : Addr) : entryFrame m #[(.ref x0), (.ref x1)] 2 = mkF m 0 #[.val (.ref x0), .val (.ref x1)] [] := by first | (simp [entryFrame, mkF, argsToLocals, Value.category]; done) | rfl
theorem pn_rm6_1 : plainName "java/util/ArrayList" = true := by first | (simp [plainName, overriddenIn]; done) | decide +kernel
set_option maxRecDepth 65536 in
set_option maxHeartbeats 40000000 in
theorem rm6_1 (l : Launch) (Z : State) (a0 : Array Value) (hw : ∀ d ∈ tables_1, d.before a0 Z = true) (ws : List Jvm.Cond) (a : Addr) (x1 : Addr) (r : Addr) (mc : Int32) (kA : ClassId) (x0 : Addr) (h0 : Heap) (n0 : Nat) (F_a_modCount : Fld Z h0 a "java/util/AbstractList" "modCount" "I" (.int mc)) (F_a_size : Fld Z h0 a "java/util/ArrayList" "size" "I" (.int 1)) (F_a_elementData : Fld Z h0 a "java/util/ArrayList" "elementData" "[Ljava/lang/Object;" (.ref r)) (E_a : Exa Z h0 a "java/util/ArrayList") (g_a : n0 ≤ a) (g_r : n0 ≤ r) (V : Arv Z h0 r kA (.object "java/lang/Object") 10 [(.ref x0), .null, .null, .null, .null, .null, .null, .null, .null, .null] .null) (O : Ovr Z kA "java/lang/Object") (E_x1 : Exa Z h0 x1 "java/lang/Long") :
    MetFree l (⟨"java/util/ArrayList", "add", "(Ljava/lang/Object;)Z"⟩ : MethodName) (head1 (Jvm.Cond.code (⟨"java/util/ArrayList", "add", "(Ljava/lang/Object;)Z"⟩ : MethodName) jdk_38_method_25_code 2 (some .boolean) :: ws) ({ frames := 1, cells := 0, slots := 0, locals := 15 } : Room)) (fun aa U => aa = #[(.ref a), (.ref x1)] ∧ Z.Warmed39 U.vm ∧ U.heap = h0) (fun _ _ _ _ _ => True) (fun _ U o U' => ∃ v L, o = .returned v ∧ AddQ Z a (mc + 1) 2 [(.ref x0), (.ref x1), .null, .null, .null, .null, .null, .null, .null, .null] (some (.int 1)) h0 n0 v U'.heap L ∧ FrameEnd U o U' L ({ frames := 1, cells := 0, slots := 0, locals := 15 } : Room).cells ({ frames := 1, cells := 0, slots := 0, locals := 15 } : Room).slots) := by
  refine MetFree.of_bodySF (plainFor_of_name pn_rm6_1) hisR ?_
  intro p e s m args below meth c s₁ Bd hml0 hP hK
  obtain ⟨rfl, hZ, hh⟩ := hP
  have hx := Bd.exec
  have hby := Bd.bytes
  have hml : c.maxLocals = 2 := hml0
  have hown : s.vm.findClass "java/util/ArrayList" = some m.cls := findClass_of_methodNamed Bd.named
  have hnm := (name_of_methodNamed Bd.named Bd.method).1
  have X0 : Stand p l e ({ frames := 1, cells := 0, slots := 0, locals := 15 } : Room) s m #[(.ref a), (.ref x1)] below meth c s₁ [] 0 0 := Stand.of_body Bd
  have e0 : s₁.heap = h0 := by rw [← hh, Bd.state]; rfl
  have N0 := Fr.nil n0
  have KP0 := Keep.refl h0 [a]
  have neE : a ≠ r := Exa.neArv E_a V (hw _ (List.mem_of_getElem? (i := 3) rfl))
  refine goIn (ef_rm6_1 m a x1) ?_
  refine Go.by (S' := s₁.setTop (mkF m 1 #[.val (.ref a), .val (.ref x1)] [(.ref a)])) (fun _ kt => XS.aloadN X0.here hx rfl (hb hby d6_0) rfl rfl  kt) ?_
  refine Go.by (S' := s₁.setTop (mkF m 2 #[.val (.ref a), .val (.ref x1)] [(.ref a), (.ref a)])) (fun _ kt => XS.dup X0.here hx rfl (hb hby d6_1) rfl rfl  kt) ?_
  obtain ⟨T1, X1, e1, st1⟩ := getF X0 hx hZ hown (host := "") (Or.inl (hw _ (List.mem_of_getElem? (i := 41) rfl))) (Via.of (hw _ (List.mem_of_getElem? (i := 42) rfl))) e0 F_a_modCount (g := (mkF m 2 #[.val (.ref a), .val (.ref x1)] [(.ref a), (.ref a)])) rfl rfl (hb hby d6_2)
  refine Go.by (S' := T1.setTop (mkF m 5 #[.val (.ref a), .val (.ref x1)] [(.int mc), (.ref a)])) st1 ?_
  refine Go.by (S' := T1.setTop (mkF m 6 #[.val (.ref a), .val (.ref x1)] [(.int (1 : Int32)), (.int mc), (.ref a)])) (fun _ kt => XT.iconstV X1.here hx rfl (1 : Int32) (hb hby d6_5) (by decide)  kt) ?_
  refine Go.by (S' := T1.setTop (mkF m 7 #[.val (.ref a), .val (.ref x1)] [(.int (mc + (1 : Int32))), (.ref a)])) (fun _ kt => XS.iadd X1.here hx rfl (hb hby d6_6) rfl  kt) ?_
  obtain ⟨T2, h2, X2, e2, W2, st2⟩ := putF X1 hx hZ hown (host := "") (Or.inl (hw _ (List.mem_of_getElem? (i := 41) rfl))) (Via.of (hw _ (List.mem_of_getElem? (i := 42) rfl))) e1 F_a_modCount E_a (Or.inl (hw _ (List.mem_of_getElem? (i := 24) rfl))) (hw _ (List.mem_of_getElem? (i := 3) rfl)) (ty := .int) (by decide) rfl rfl (g := (mkF m 7 #[.val (.ref a), .val (.ref x1)] [(.int (mc + (1 : Int32))), (.ref a)])) rfl rfl (hb hby d6_7)
  have F_a_modCount := F_a_modCount.same W2
  have E_a := E_a.wr W2
  have F_a_size := F_a_size.other W2 (Or.inr (slot_ne (Or.inl (hw _ (List.mem_of_getElem? (i := 44) rfl))) (Or.inl (hw _ (List.mem_of_getElem? (i := 24) rfl))) (by decide) (t := .int) (t' := .int) (by decide) (by decide)))
  have F_a_elementData := F_a_elementData.other W2 (Or.inr (slot_ne (Or.inl (hw _ (List.mem_of_getElem? (i := 27) rfl))) (Or.inl (hw _ (List.mem_of_getElem? (i := 24) rfl))) (by decide) (t := (.array (.object "java/lang/Object"))) (t' := .int) (by decide) (by decide)))
  have KP0 := KP0.wr W2 (Or.inl (List.mem_of_getElem? (i := 0) rfl))
  have N2 := Fr.snoc X2 N0 g_a
  refine Go.by (S' := T2.setTop (mkF m 10 #[.val (.ref a), .val (.ref x1)] [])) st2 ?_
  have V := V.other W2 (Ne.symm neE)
  have E_x1 := E_x1.wr W2
  refine Go.by (S' := T2.setTop (mkF m 11 #[.val (.ref a), .val (.ref x1)] [(.ref a)])) (fun _ kt => XS.aloadN X2.here hx rfl (hb hby d6_10) rfl rfl  kt) ?_
  refine Go.by (S' := T2.setTop (mkF m 12 #[.val (.ref a), .val (.ref x1)] [(.ref x1), (.ref a)])) (fun _ kt => XS.aloadN X2.here hx rfl (hb hby d6_11) rfl rfl  kt) ?_
  refine Go.by (S' := T2.setTop (mkF m 13 #[.val (.ref a), .val (.ref x1)] [(.ref a), (.ref x1), (.ref a)])) (fun _ kt => XS.aloadN X2.here hx rfl (hb hby d6_12) rfl rfl  kt) ?_
  obtain ⟨T3, X3, e3, st3⟩ := getF X2 hx hZ hown (host := "") (Or.inl (hw _ (List.mem_of_getElem? (i := 26) rfl))) Via.refl e2 F_a_elementData (g := (mkF m 13 #[.val (.ref a), .val (.ref x1)] [(.ref a), (.ref x1), (.ref a)])) rfl rfl (hb hby d6_13)
  refine Go.by (S' := T3.setTop (mkF m 16 #[.val (.ref a), .val (.ref x1)] [(.ref r), (.ref x1), (.ref a)])) st3 ?_
  refine Go.by (S' := T3.setTop (mkF m 17 #[.val (.ref a), .val (.ref x1)] [(.ref a), (.ref r), (.ref x1), (.ref a)])) (fun _ kt => XS.aloadN X3.here hx rfl (hb hby d6_16) rfl rfl  kt) ?_
  obtain ⟨T4, X4, e4, st4⟩ := getF X3 hx hZ hown (host := "") (Or.inl (hw _ (List.mem_of_getElem? (i := 43) rfl))) Via.refl e3 F_a_size (g := (mkF m 17 #[.val (.ref a), .val (.ref x1)] [(.ref a), (.ref r), (.ref x1), (.ref a)])) rfl rfl (hb hby d6_17)
  refine Go.by (S' := T4.setTop (mkF m 20 #[.val (.ref a), .val (.ref x1)] [(.int (1 : Int32)), (.ref r), (.ref x1), (.ref a)])) st4 ?_
  obtain ⟨cq5, q5, q5'⟩ := (E_a).cell
  obtain ⟨_, _, ⟨T5, L5, k5, n5⟩, -, X5, ⟨Lc5, hQ5, l5, y5, z5⟩, st5⟩ := X4.privateBack hx (y := (⟨"java/util/ArrayList", "add", "(Ljava/lang/Object;[Ljava/lang/Object;I)V"⟩ : MethodName)) hown (mvT hZ (hw _ (List.mem_of_getElem? (i := 45) rfl))) (mvT hZ (hw _ (List.mem_of_getElem? (i := 46) rfl))) (mvT hZ (hw _ (List.mem_of_getElem? (i := 48) rfl))) (Cond.privateMethod_at (mvP hZ (hw _ (List.mem_of_getElem? (i := 47) rfl)) (args := #[]))) (mvT hZ (hw _ (List.mem_of_getElem? (i := 49) rfl))) (by decide) (backOf (W := 0) (rm7_1 l Z a0 hw [] a x1 r (mc + (1 : Int32)) kA x0 h2 n0 F_a_modCount F_a_size F_a_elementData E_a g_a g_r V O E_x1) hZ (hw _ (List.mem_of_getElem? (i := 49) rfl)) (hw _ (List.mem_of_getElem? (i := 4) rfl)) (by decide) (by decide)) (g := (mkF m 20 #[.val (.ref a), .val (.ref x1)] [(.int (1 : Int32)), (.ref r), (.ref x1), (.ref a)])) rfl (by rw [hml]; rfl) (Steps.refl _) (a := a) (by rw [e4]; exact q5) q5' (argsL := [(.ref x1), (.ref r), (.int (1 : Int32))]) (rest := []) (lenOf pd_3 rfl) rfl (by show 2 * 0 + _ ≤ _; exact Nat.le_of_eq rfl) (hb hby d6_20) (fun _ _ => ⟨rfl, e4, (by decide : 0 + 0 ≤ _), (by decide : 0 + 0 ≤ _)⟩)
  dsimp only [Pt.U, Pt.locs, Pt.cells, Pt.slots] at X5 l5 y5 z5 st5 hQ5
  subst l5 y5 z5
  obtain ⟨r', kA', rfl, N5q, g_r', K5, E_a, F_a_modCount, F_a_size, F_a_elementData, V, O'⟩ := hQ5
  have N5 := Fr.app N2 N5q
  refine Go.at (S' := T5.setTop (mkF m 23 #[.val (.ref a), .val (.ref x1)] [])) st5 ?_
  refine Go.by (S' := T5.setTop (mkF m 24 #[.val (.ref a), .val (.ref x1)] [(.int (1 : Int32))])) (fun _ kt => XT.iconstV X5.here hx rfl (1 : Int32) (hb hby d6_23) (by decide)  kt) ?_
  refine goRet X5 (v := some (.int (nar .boolean (1 : Int32)))) (fun h => by rw [Bd.returns] at h; cases h) Bd.notSynchronized (fun fs hr => retN X5 hx (t := .boolean) Bd.returns (by simp) (hb hby d6_24) hr) (by decide) (by decide) ?_
  exact ⟨r', kA', by simp [own_n1], N5, g_r', own_keep2 KP0 K5, E_a, F_a_modCount, F_a_size, F_a_elementData, V, O'⟩
theorem ef_rm6_2 (m : MethodId) (x0 : Addr) (x1 : Addr) : entryFrame m #[(.ref x0), (.ref x1)] 2 = mkF m 0 #[.val (.ref x0), .val (.ref x1)] [] := by first | (simp [entryFrame, mkF, argsToLocals, Value.category]; done) | rfl
theorem pn_rm6_2 : plainName "java/util/ArrayList" = true := by first | (simp [plainName, overriddenIn]; done) | decide +kernel
set_option maxRecDepth 65536 in
set_option maxHeartbeats 40000000 in
theorem rm6_2 (l : Launch) (Z : State) (a0 : Array Value) (hw : ∀ d ∈ tables_1, d.before a0 Z = true) (ws : List Jvm.Cond) (a : Addr) (x2 : Addr) (r : Addr) (mc : Int32) (kA : ClassId) (x0 x1 : Addr) (h0 : Heap) (n0 : Nat) (F_a_modCount : Fld Z h0 a "java/util/AbstractList" "modCount" "I" (.int mc)) (F_a_size : Fld Z h0 a "java/util/ArrayList" "size" "I" (.int 2)) (F_a_elementData : Fld Z h0 a "java/util/ArrayList" "elementData" "[Ljava/lang/Object;" (.ref r)) (E_a : Exa Z h0 a "java/util/ArrayList") (g_a : n0 ≤ a) (g_r : n0 ≤ r) (V : Arv Z h0 r kA (.object "java/lang/Object") 10 [(.ref x0), (.ref x1), .null, .null, .null, .null, .null, .null, .null, .null] .null) (O : Ovr Z kA "java/lang/Object") (E_x2 : Exa Z h0 x2 "java/lang/Long") :
    MetFree l (⟨"java/util/ArrayList", "add", "(Ljava/lang/Object;)Z"⟩ : MethodName) (head1 (Jvm.Cond.code (⟨"java/util/ArrayList", "add", "(Ljava/lang/Object;)Z"⟩ : MethodName) jdk_38_method_25_code 2 (some .boolean) :: ws) ({ frames := 1, cells := 0, slots := 0, locals := 15 } : Room)) (fun aa U => aa = #[(.ref a), (.ref x2)] ∧ Z.Warmed39 U.vm ∧ U.heap = h0) (fun _ _ _ _ _ => True) (fun _ U o U' => ∃ v L, o = .returned v ∧ AddQ Z a (mc + 1) 3 [(.ref x0), (.ref x1), (.ref x2), .null, .null, .null, .null, .null, .null, .null] (some (.int 1)) h0 n0 v U'.heap L ∧ FrameEnd U o U' L ({ frames := 1, cells := 0, slots := 0, locals := 15 } : Room).cells ({ frames := 1, cells := 0, slots := 0, locals := 15 } : Room).slots) := by
  refine MetFree.of_bodySF (plainFor_of_name pn_rm6_2) hisR ?_
  intro p e s m args below meth c s₁ Bd hml0 hP hK
  obtain ⟨rfl, hZ, hh⟩ := hP
  have hx := Bd.exec
  have hby := Bd.bytes
  have hml : c.maxLocals = 2 := hml0
  have hown : s.vm.findClass "java/util/ArrayList" = some m.cls := findClass_of_methodNamed Bd.named
  have hnm := (name_of_methodNamed Bd.named Bd.method).1
  have X0 : Stand p l e ({ frames := 1, cells := 0, slots := 0, locals := 15 } : Room) s m #[(.ref a), (.ref x2)] below meth c s₁ [] 0 0 := Stand.of_body Bd
  have e0 : s₁.heap = h0 := by rw [← hh, Bd.state]; rfl
  have N0 := Fr.nil n0
  have KP0 := Keep.refl h0 [a]
  have neE : a ≠ r := Exa.neArv E_a V (hw _ (List.mem_of_getElem? (i := 3) rfl))
  refine goIn (ef_rm6_2 m a x2) ?_
  refine Go.by (S' := s₁.setTop (mkF m 1 #[.val (.ref a), .val (.ref x2)] [(.ref a)])) (fun _ kt => XS.aloadN X0.here hx rfl (hb hby d6_0) rfl rfl  kt) ?_
  refine Go.by (S' := s₁.setTop (mkF m 2 #[.val (.ref a), .val (.ref x2)] [(.ref a), (.ref a)])) (fun _ kt => XS.dup X0.here hx rfl (hb hby d6_1) rfl rfl  kt) ?_
  obtain ⟨T1, X1, e1, st1⟩ := getF X0 hx hZ hown (host := "") (Or.inl (hw _ (List.mem_of_getElem? (i := 41) rfl))) (Via.of (hw _ (List.mem_of_getElem? (i := 42) rfl))) e0 F_a_modCount (g := (mkF m 2 #[.val (.ref a), .val (.ref x2)] [(.ref a), (.ref a)])) rfl rfl (hb hby d6_2)
  refine Go.by (S' := T1.setTop (mkF m 5 #[.val (.ref a), .val (.ref x2)] [(.int mc), (.ref a)])) st1 ?_
  refine Go.by (S' := T1.setTop (mkF m 6 #[.val (.ref a), .val (.ref x2)] [(.int (1 : Int32)), (.int mc), (.ref a)])) (fun _ kt => XT.iconstV X1.here hx rfl (1 : Int32) (hb hby d6_5) (by decide)  kt) ?_
  refine Go.by (S' := T1.setTop (mkF m 7 #[.val (.ref a), .val (.ref x2)] [(.int (mc + (1 : Int32))), (.ref a)])) (fun _ kt => XS.iadd X1.here hx rfl (hb hby d6_6) rfl  kt) ?_
  obtain ⟨T2, h2, X2, e2, W2, st2⟩ := putF X1 hx hZ hown (host := "") (Or.inl (hw _ (List.mem_of_getElem? (i := 41) rfl))) (Via.of (hw _ (List.mem_of_getElem? (i := 42) rfl))) e1 F_a_modCount E_a (Or.inl (hw _ (List.mem_of_getElem? (i := 24) rfl))) (hw _ (List.mem_of_getElem? (i := 3) rfl)) (ty := .int) (by decide) rfl rfl (g := (mkF m 7 #[.val (.ref a), .val (.ref x2)] [(.int (mc + (1 : Int32))), (.ref a)])) rfl rfl (hb hby d6_7)
  have F_a_modCount := F_a_modCount.same W2
  have E_a := E_a.wr W2
  have F_a_size := F_a_size.other W2 (Or.inr (slot_ne (Or.inl (hw _ (List.mem_of_getElem? (i := 44) rfl))) (Or.inl (hw _ (List.mem_of_getElem? (i := 24) rfl))) (by decide) (t := .int) (t' := .int) (by decide) (by decide)))
  have F_a_elementData := F_a_elementData.other W2 (Or.inr (slot_ne (Or.inl (hw _ (List.mem_of_getElem? (i := 27) rfl))) (Or.inl (hw _ (List.mem_of_getElem? (i := 24) rfl))) (by decide) (t := (.array (.object "java/lang/Object"))) (t' := .int) (by decide) (by decide)))
  have KP0 := KP0.wr W2 (Or.inl (List.mem_of_getElem? (i := 0) rfl))
  have N2 := Fr.snoc X2 N0 g_a
  refine Go.by (S' := T2.setTop (mkF m 10 #[.val (.ref a), .val (.ref x2)] [])) st2 ?_
  have V := V.other W2 (Ne.symm neE)
  have E_x2 := E_x2.wr W2
  refine Go.by (S' := T2.setTop (mkF m 11 #[.val (.ref a), .val (.ref x2)] [(.ref a)])) (fun _ kt => XS.aloadN X2.here hx rfl (hb hby d6_10) rfl rfl  kt) ?_
  refine Go.by (S' := T2.setTop (mkF m 12 #[.val (.ref a), .val (.ref x2)] [(.ref x2), (.ref a)])) (fun _ kt => XS.aloadN X2.here hx rfl (hb hby d6_11) rfl rfl  kt) ?_
  refine Go.by (S' := T2.setTop (mkF m 13 #[.val (.ref a), .val (.ref x2)] [(.ref a), (.ref x2), (.ref a)])) (fun _ kt => XS.aloadN X2.here hx rfl (hb hby d6_12) rfl rfl  kt) ?_
  obtain ⟨T3, X3, e3, st3⟩ := getF X2 hx hZ hown (host := "") (Or.inl (hw _ (List.mem_of_getElem? (i := 26) rfl))) Via.refl e2 F_a_elementData (g := (mkF m 13 #[.val (.ref a), .val (.ref x2)] [(.ref a), (.ref x2), (.ref a)])) rfl rfl (hb hby d6_13)
  refine Go.by (S' := T3.setTop (mkF m 16 #[.val (.ref a), .val (.ref x2)] [(.ref r), (.ref x2), (.ref a)])) st3 ?_
  refine Go.by (S' := T3.setTop (mkF m 17 #[.val (.ref a), .val (.ref x2)] [(.ref a), (.ref r), (.ref x2), (.ref a)])) (fun _ kt => XS.aloadN X3.here hx rfl (hb hby d6_16) rfl rfl  kt) ?_
  obtain ⟨T4, X4, e4, st4⟩ := getF X3 hx hZ hown (host := "") (Or.inl (hw _ (List.mem_of_getElem? (i := 43) rfl))) Via.refl e3 F_a_size (g := (mkF m 17 #[.val (.ref a), .val (.ref x2)] [(.ref a), (.ref r), (.ref x2), (.ref a)])) rfl rfl (hb hby d6_17)
  refine Go.by (S' := T4.setTop (mkF m 20 #[.val (.ref a), .val (.ref x2)] [(.int (2 : Int32)), (.ref r), (.ref x2), (.ref a)])) st4 ?_
  obtain ⟨cq5, q5, q5'⟩ := (E_a).cell
  obtain ⟨_, _, ⟨T5, L5, k5, n5⟩, -, X5, ⟨Lc5, hQ5, l5, y5, z5⟩, st5⟩ := X4.privateBack hx (y := (⟨"java/util/ArrayList", "add", "(Ljava/lang/Object;[Ljava/lang/Object;I)V"⟩ : MethodName)) hown (mvT hZ (hw _ (List.mem_of_getElem? (i := 45) rfl))) (mvT hZ (hw _ (List.mem_of_getElem? (i := 46) rfl))) (mvT hZ (hw _ (List.mem_of_getElem? (i := 48) rfl))) (Cond.privateMethod_at (mvP hZ (hw _ (List.mem_of_getElem? (i := 47) rfl)) (args := #[]))) (mvT hZ (hw _ (List.mem_of_getElem? (i := 49) rfl))) (by decide) (backOf (W := 0) (rm7_2 l Z a0 hw [] a x2 r (mc + (1 : Int32)) kA x0 x1 h2 n0 F_a_modCount F_a_size F_a_elementData E_a g_a g_r V O E_x2) hZ (hw _ (List.mem_of_getElem? (i := 49) rfl)) (hw _ (List.mem_of_getElem? (i := 4) rfl)) (by decide) (by decide)) (g := (mkF m 20 #[.val (.ref a), .val (.ref x2)] [(.int (2 : Int32)), (.ref r), (.ref x2), (.ref a)])) rfl (by rw [hml]; rfl) (Steps.refl _) (a := a) (by rw [e4]; exact q5) q5' (argsL := [(.ref x2), (.ref r), (.int (2 : Int32))]) (rest := []) (lenOf pd_3 rfl) rfl (by show 2 * 0 + _ ≤ _; exact Nat.le_of_eq rfl) (hb hby d6_20) (fun _ _ => ⟨rfl, e4, (by decide : 0 + 0 ≤ _), (by decide : 0 + 0 ≤ _)⟩)
  dsimp only [Pt.U, Pt.locs, Pt.cells, Pt.slots] at X5 l5 y5 z5 st5 hQ5
  subst l5 y5 z5
  obtain ⟨r', kA', rfl, N5q, g_r', K5, E_a, F_a_modCount, F_a_size, F_a_elementData, V, O'⟩ := hQ5
  have N5 := Fr.app N2 N5q
  refine Go.at (S' := T5.setTop (mkF m 23 #[.val (.ref a), .val (.ref x2)] [])) st5 ?_
  refine Go.by (S' := T5.setTop (mkF m 24 #[.val (.ref a), .val (.ref x2)] [(.int (1 : Int32))])) (fun _ kt => XT.iconstV X5.here hx rfl (1 : Int32) (hb hby d6_23) (by decide)  kt) ?_
  refine goRet X5 (v := some (.int (nar .boolean (1 : Int32)))) (fun h => by rw [Bd.returns] at h; cases h) Bd.notSynchronized (fun fs hr => retN X5 hx (t := .boolean) Bd.returns (by simp) (hb hby d6_24) hr) (by decide) (by decide) ?_
  exact ⟨r', kA', by simp [own_n1], N5, g_r', own_keep2 KP0 K5, E_a, F_a_modCount, F_a_size, F_a_elementData, V, O'⟩
theorem ef_rm16 (m : MethodId) (x0 : Int32) (x1 : Int32) : entryFrame m #[(.int x0), (.int x1), .null] 3 = mkF m 0 #[.val (.int x0), .val (.int x1), .val .null] [] := by first | (simp [entryFrame, mkF, argsToLocals, Value.category]; done) | rfl
theorem pn_rm16 : plainName "jdk/internal/util/Preconditions" = true := by first | (simp [plainName, overriddenIn]; done) | decide +kernel
theorem d16_0 : decode jdk_41_method_11_code 0 = .ok (.iload_n 0, 1) := by decide +kernel
theorem d16_1 : decode jdk_41_method_11_code 1 = .ok (.ifCond .lt 8, 3) := by decide +kernel
theorem d16_4 : decode jdk_41_method_11_code 4 = .ok (.iload_n 0, 1) := by decide +kernel
theorem d16_5 : decode jdk_41_method_11_code 5 = .ok (.iload_n 1, 1) := by decide +kernel
theorem d16_6 : decode jdk_41_method_11_code 6 = .ok (.if_icmp .lt 10, 3) := by decide +kernel
theorem d16_16 : decode jdk_41_method_11_code 16 = .ok (.iload_n 0, 1) := by decide +kernel
theorem d16_17 : decode jdk_41_method_11_code 17 = .ok (.ireturn, 1) := by decide +kernel
set_option maxRecDepth 65536 in
set_option maxHeartbeats 40000000 in
theorem rm16 (l : Launch) (Z : State) (a0 : Array Value) (hw : ∀ d ∈ tables_1, d.before a0 Z = true) (ws : List Jvm.Cond) (i : Int32) (n_ : Int32)  (h0 : Heap) (n0 : Nat) (hi0 : ¬ i < 0) (hin_ : i < n_) :
    MetFree l (⟨"jdk/internal/util/Preconditions", "checkIndex", "(IILjava/util/function/BiFunction;)I"⟩ : MethodName) (head1 (Jvm.Cond.code (⟨"jdk/internal/util/Preconditions", "checkIndex", "(IILjava/util/function/BiFunction;)I"⟩ : MethodName) jdk_41_method_11_code 3 (some .int) :: ws) ({ frames := 0, cells := 0, slots := 0, locals := 0 } : Room)) (fun aa U => aa = #[(.int i), (.int n_), .null] ∧ Z.Warmed39 U.vm ∧ U.heap = h0) (fun _ _ _ _ _ => True) (fun _ U o U' => ∃ v L, o = .returned v ∧ PureQ (some (.int i)) h0 n0 v U'.heap L ∧ FrameEnd U o U' L ({ frames := 0, cells := 0, slots := 0, locals := 0 } : Room).cells ({ frames := 0, cells := 0, slots := 0, locals := 0 } : Room).slots) := by
  refine MetFree.of_bodySF (plainFor_of_name pn_rm16) hisR ?_
  intro p e s m args below meth c s₁ Bd hml0 hP hK
  obtain ⟨rfl, hZ, hh⟩ := hP
  have hx := Bd.exec
  have hby := Bd.bytes
  have hml : c.maxLocals = 3 := hml0
  have hown : s.vm.findClass "jdk/internal/util/Preconditions" = some m.cls := findClass_of_methodNamed Bd.named
  have hnm := (name_of_methodNamed Bd.named Bd.method).1
  have X0 : Stand p l e ({ frames := 0, cells := 0, slots := 0, locals := 0 } : Room) s m #[(.int i), (.int n_), .null] below meth c s₁ [] 0 0 := Stand.of_body Bd
  have e0 : s₁.heap = h0 := by rw [← hh, Bd.state]; rfl
  have N0 := Fr.nil n0
  refine goIn (ef_rm16 m i n_) ?_
  refine Go.by (S' := s₁.setTop (mkF m 1 #[.val (.int i), .val (.int n_), .val .null] [(.int i)])) (fun _ kt => XS.iloadN X0.here hx rfl (hb hby d16_0) rfl  kt) ?_
  refine Go.by (S' := s₁.setTop (mkF m 4 #[.val (.int i), .val (.int n_), .val .null] [])) (fun _ kt => XS.ifNo X0.here hx rfl (hb hby d16_1) rfl (XT.i0_lt_f hi0)  kt) ?_
  refine Go.by (S' := s₁.setTop (mkF m 5 #[.val (.int i), .val (.int n_), .val .null] [(.int i)])) (fun _ kt => XS.iloadN X0.here hx rfl (hb hby d16_4) rfl  kt) ?_
  refine Go.by (S' := s₁.setTop (mkF m 6 #[.val (.int i), .val (.int n_), .val .null] [(.int n_), (.int i)])) (fun _ kt => XS.iloadN X0.here hx rfl (hb hby d16_5) rfl  kt) ?_
  refine Go.by (S' := s₁.setTop (mkF m 16 #[.val (.int i), .val (.int n_), .val .null] [])) (fun _ kt => XS.icmpYes X0.here hx rfl (pc0 := 6) (pc' := 16) rfl (hb hby d16_6) rfl (XT.ii_lt_t hin_) (by decide) (by decide)  kt) ?_
  refine Go.by (S' := s₁.setTop (mkF m 17 #[.val (.int i), .val (.int n_), .val .null] [(.int i)])) (fun _ kt => XS.iloadN X0.here hx rfl (hb hby d16_16) rfl  kt) ?_
  refine goRet X0 (v := some (.int i)) (fun h => by rw [Bd.returns] at h; cases h) Bd.notSynchronized (fun fs hr => retOut X0 hx Bd.returns rfl (Or.inl ⟨rfl, Or.inl rfl, _, rfl⟩) (hb hby d16_17) hr) (by decide) (by decide) ?_
  exact ⟨rfl, N0, e0⟩
theorem ef_rm15 (m : MethodId) (x0 : Int32) (x1 : Int32) : entryFrame m #[(.int x0), (.int x1)] 2 = mkF m 0 #[.val (.int x0), .val (.int x1)] [] := by first | (simp [entryFrame, mkF, argsToLocals, Value.category]; done) | rfl
theorem pn_rm15 : plainName "java/util/Objects" = true := by first | (simp [plainName, overriddenIn]; done) | decide +kernel
theorem d15_0 : decode jdk_31_method_17_code 0 = .ok (.iload_n 0, 1) := by decide +kernel
theorem d15_1 : decode jdk_31_method_17_code 1 = .ok (.iload_n 1, 1) := by decide +kernel
theorem d15_2 : decode jdk_31_method_17_code 2 = .ok (.aconst_null, 1) := by decide +kernel
theorem d15_3 : decode jdk_31_method_17_code 3 = .ok (.invokestatic 105, 3) := by decide +kernel
theorem d15_6 : decode jdk_31_method_17_code 6 = .ok (.ireturn, 1) := by decide +kernel
set_option maxRecDepth 65536 in
set_option maxHeartbeats 40000000 in
theorem rm15 (l : Launch) (Z : State) (a0 : Array Value) (hw : ∀ d ∈ tables_1, d.before a0 Z = true) (ws : List Jvm.Cond) (i : Int32) (n_ : Int32)  (h0 : Heap) (n0 : Nat) (hi0 : ¬ i < 0) (hin_ : i < n_) :
    MetFree l (⟨"java/util/Objects", "checkIndex", "(II)I"⟩ : MethodName) (head1 (Jvm.Cond.code (⟨"java/util/Objects", "checkIndex", "(II)I"⟩ : MethodName) jdk_31_method_17_code 2 (some .int) :: ws) ({ frames := 1, cells := 0, slots := 0, locals := 14 } : Room)) (fun aa U => aa = #[(.int i), (.int n_)] ∧ Z.Warmed39 U.vm ∧ U.heap = h0) (fun _ _ _ _ _ => True) (fun _ U o U' => ∃ v L, o = .returned v ∧ PureQ (some (.int i)) h0 n0 v U'.heap L ∧ FrameEnd U o U' L ({ frames := 1, cells := 0, slots := 0, locals := 14 } : Room).cells ({ frames := 1, cells := 0, slots := 0, locals := 14 } : Room).slots) := by
  refine MetFree.of_bodySF (plainFor_of_name pn_rm15) hisR ?_
  intro p e s m args below meth c s₁ Bd hml0 hP hK
  obtain ⟨rfl, hZ, hh⟩ := hP
  have hx := Bd.exec
  have hby := Bd.bytes
  have hml : c.maxLocals = 2 := hml0
  have hown : s.vm.findClass "java/util/Objects" = some m.cls := findClass_of_methodNamed Bd.named
  have hnm := (name_of_methodNamed Bd.named Bd.method).1
  have X0 : Stand p l e ({ frames := 1, cells := 0, slots := 0, locals := 14 } : Room) s m #[(.int i), (.int n_)] below meth c s₁ [] 0 0 := Stand.of_body Bd
  have e0 : s₁.heap = h0 := by rw [← hh, Bd.state]; rfl
  have N0 := Fr.nil n0
  refine goIn (ef_rm15 m i n_) ?_
  refine Go.by (S' := s₁.setTop (mkF m 1 #[.val (.int i), .val (.int n_)] [(.int i)])) (fun _ kt => XS.iloadN X0.here hx rfl (hb hby d15_0) rfl  kt) ?_
  refine Go.by (S' := s₁.setTop (mkF m 2 #[.val (.int i), .val (.int n_)] [(.int n_), (.int i)])) (fun _ kt => XS.iloadN X0.here hx rfl (hb hby d15_1) rfl  kt) ?_
  refine Go.by (S' := s₁.setTop (mkF m 3 #[.val (.int i), .val (.int n_)] [.null, (.int n_), (.int i)])) (fun _ kt => XS.aconstNull X0.here hx rfl (hb hby d15_2)  kt) ?_
  obtain ⟨_, _, ⟨T1, L1, k1, n1⟩, -, X1, ⟨Lc1, hQ1, l1, y1, z1⟩, st1⟩ := Jvm.LawKit.callS X0 hx (y := (⟨"jdk/internal/util/Preconditions", "checkIndex", "(IILjava/util/function/BiFunction;)I"⟩ : MethodName)) hown (mvT hZ (hw _ (List.mem_of_getElem? (i := 103) rfl))) (mvT hZ (hw _ (List.mem_of_getElem? (i := 104) rfl))) (mvT hZ (hw _ (List.mem_of_getElem? (i := 105) rfl))) (mvT hZ (hw _ (List.mem_of_getElem? (i := 106) rfl))) (by decide) (backOf (W := 0) (rm16 l Z a0 hw [] i n_ h0 n0 hi0 hin_) hZ (hw _ (List.mem_of_getElem? (i := 106) rfl)) (hw _ (List.mem_of_getElem? (i := 105) rfl)) (by decide) (by decide)) (g := (mkF m 3 #[.val (.int i), .val (.int n_)] [.null, (.int n_), (.int i)])) rfl (by rw [hml]; rfl) (argsL := [(.int i), (.int n_), .null]) (rest := []) (lenOf pd_10 rfl) rfl (by show 2 * 0 + _ ≤ _; exact Nat.le_of_eq rfl) (hb hby d15_3) (fun _ _ => ⟨rfl, e0, (by decide : 0 + 0 ≤ _), (by decide : 0 + 0 ≤ _)⟩)
  dsimp only [Pt.U, Pt.locs, Pt.cells, Pt.slots] at X1 l1 y1 z1 st1 hQ1
  subst l1 y1 z1
  obtain ⟨rfl, N1q, e1⟩ := hQ1
  have N1 := Fr.app N0 N1q
  refine Go.by (S' := T1.setTop (mkF m 6 #[.val (.int i), .val (.int n_)] [(.int i)])) st1 ?_
  refine goRet X1 (v := some (.int i)) (fun h => by rw [Bd.returns] at h; cases h) Bd.notSynchronized (fun fs hr => retOut X1 hx Bd.returns rfl (Or.inl ⟨rfl, Or.inl rfl, _, rfl⟩) (hb hby d15_6) hr) (by decide) (by decide) ?_
  exact ⟨rfl, N1, e1⟩
theorem ef_rm17 (m : MethodId) (x0 : Addr) (x1 : Int32) : entryFrame m #[(.ref x0), (.int x1)] 2 = mkF m 0 #[.val (.ref x0), .val (.int x1)] [] := by first | (simp [entryFrame, mkF, argsToLocals, Value.category]; done) | rfl
theorem pn_rm17 : plainName "java/util/ArrayList" = true := by first | (simp [plainName, overriddenIn]; done) | decide +kernel
theorem d17_0 : decode jdk_38_method_18_code 0 = .ok (.aload_n 0, 1) := by decide +kernel
theorem d17_1 : decode jdk_38_method_18_code 1 = .ok (.getfield 9, 3) := by decide +kernel
theorem d17_4 : decode jdk_38_method_18_code 4 = .ok (.iload_n 1, 1) := by decide +kernel
theorem d17_5 : decode jdk_38_method_18_code 5 = .ok (.aaload, 1) := by decide +kernel
theorem d17_6 : decode jdk_38_method_18_code 6 = .ok (.areturn, 1) := by decide +kernel
set_option maxRecDepth 65536 in
set_option maxHeartbeats 40000000 in
theorem rm17 (l : Launch) (Z : State) (a0 : Array Value) (hw : ∀ d ∈ tables_1, d.before a0 Z = true) (ws : List Jvm.Cond) (a : Addr) (i : Int32) (r x : Addr) (cl : Cell) (h0 : Heap) (n0 : Nat) (F_a_elementData : Fld Z h0 a "java/util/ArrayList" "elementData" "[Ljava/lang/Object;" (.ref r)) (A_ : Arr Z h0 r cl (.object "java/lang/Object")) (hin : ¬ (i < 0 ∨ cl.slots.size ≤ i.toNatClampNeg)) (hat : cl.slots[i.toNatClampNeg]? = some (.ref x)) :
    MetFree l (⟨"java/util/ArrayList", "elementData", "(I)Ljava/lang/Object;"⟩ : MethodName) (head1 (Jvm.Cond.code (⟨"java/util/ArrayList", "elementData", "(I)Ljava/lang/Object;"⟩ : MethodName) jdk_38_method_18_code 2 (some (.object "java/lang/Object")) :: ws) ({ frames := 0, cells := 0, slots := 0, locals := 0 } : Room)) (fun aa U => aa = #[(.ref a), (.int i)] ∧ Z.Warmed39 U.vm ∧ U.heap = h0) (fun _ _ _ _ _ => True) (fun _ U o U' => ∃ v L, o = .returned v ∧ PureQ (some (.ref x)) h0 n0 v U'.heap L ∧ FrameEnd U o U' L ({ frames := 0, cells := 0, slots := 0, locals := 0 } : Room).cells ({ frames := 0, cells := 0, slots := 0, locals := 0 } : Room).slots) := by
  refine MetFree.of_bodySF (plainFor_of_name pn_rm17) hisR ?_
  intro p e s m args below meth c s₁ Bd hml0 hP hK
  obtain ⟨rfl, hZ, hh⟩ := hP
  have hx := Bd.exec
  have hby := Bd.bytes
  have hml : c.maxLocals = 2 := hml0
  have hown : s.vm.findClass "java/util/ArrayList" = some m.cls := findClass_of_methodNamed Bd.named
  have hnm := (name_of_methodNamed Bd.named Bd.method).1
  have X0 : Stand p l e ({ frames := 0, cells := 0, slots := 0, locals := 0 } : Room) s m #[(.ref a), (.int i)] below meth c s₁ [] 0 0 := Stand.of_body Bd
  have e0 : s₁.heap = h0 := by rw [← hh, Bd.state]; rfl
  have N0 := Fr.nil n0
  refine goIn (ef_rm17 m a i) ?_
  refine Go.by (S' := s₁.setTop (mkF m 1 #[.val (.ref a), .val (.int i)] [(.ref a)])) (fun _ kt => XS.aloadN X0.here hx rfl (hb hby d17_0) rfl rfl  kt) ?_
  obtain ⟨T1, X1, e1, st1⟩ := getF X0 hx hZ hown (host := "") (Or.inl (hw _ (List.mem_of_getElem? (i := 26) rfl))) Via.refl e0 F_a_elementData (g := (mkF m 1 #[.val (.ref a), .val (.int i)] [(.ref a)])) rfl rfl (hb hby d17_1)
  refine Go.by (S' := T1.setTop (mkF m 4 #[.val (.ref a), .val (.int i)] [(.ref r)])) st1 ?_
  refine Go.by (S' := T1.setTop (mkF m 5 #[.val (.ref a), .val (.int i)] [(.int i), (.ref r)])) (fun _ kt => XS.iloadN X1.here hx rfl (hb hby d17_4) rfl  kt) ?_
  refine Go.by (S' := T1.setTop (mkF m 6 #[.val (.ref a), .val (.int i)] [(.ref x)])) (fun _ kt => X1.aaload hx (j := i) (v := .ref x) (by rw [e1]; exact A_.1) (State.isArrayOf_alike hZ.alike A_.2.1) rfl A_.2.2 hin hat (g := (mkF m 5 #[.val (.ref a), .val (.int i)] [(.int i), (.ref r)])) rfl rfl (hb hby d17_5) _ kt) ?_
  refine goRet X1 (v := some (.ref x)) (fun h => by rw [Bd.returns] at h; cases h) Bd.notSynchronized (fun fs hr => retOut X1 hx Bd.returns rfl (Or.inr (Or.inr (Or.inr (Or.inr ⟨rfl, rfl, rfl⟩)))) (hb hby d17_6) hr) (by decide) (by decide) ?_
  exact ⟨rfl, N0, e1⟩
theorem ef_rm14 (m : MethodId) (x0 : Addr) (x1 : Int32) : entryFrame m #[(.ref x0), (.int x1)] 2 = mkF m 0 #[.val (.ref x0), .val (.int x1)] [] := by first | (simp [entryFrame, mkF, argsToLocals, Value.category]; done) | rfl
theorem pn_rm14 : plainName "java/util/ArrayList" = true := by first | (simp [plainName, overriddenIn]; done) | decide +kernel
theorem d14_0 : decode jdk_38_method_20_code 0 = .ok (.iload_n 1, 1) := by decide +kernel
theorem d14_1 : decode jdk_38_method_20_code 1 = .ok (.aload_n 0, 1) := by decide +kernel
theorem d14_2 : decode jdk_38_method_20_code 2 = .ok (.getfield 48, 3) := by decide +kernel
theorem d14_5 : decode jdk_38_method_20_code 5 = .ok (.invokestatic 118, 3) := by decide +kernel
theorem d14_8 : decode jdk_38_method_20_code 8 = .ok (.pop, 1) := by decide +kernel
theorem d14_9 : decode jdk_38_method_20_code 9 = .ok (.aload_n 0, 1) := by decide +kernel
theorem d14_10 : decode jdk_38_method_20_code 10 = .ok (.iload_n 1, 1) := by decide +kernel
theorem d14_11 : decode jdk_38_method_20_code 11 = .ok (.invokevirtual 123, 3) := by decide +kernel
theorem d14_14 : decode jdk_38_method_20_code 14 = .ok (.areturn, 1) := by decide +kernel
set_option maxRecDepth 65536 in
set_option maxHeartbeats 40000000 in
theorem rm14 (l : Launch) (Z : State) (a0 : Array Value) (hw : ∀ d ∈ tables_1, d.before a0 Z = true) (ws : List Jvm.Cond) (a : Addr) (i : Int32) (n_ : Int32) (r x : Addr) (cl : Cell) (h0 : Heap) (n0 : Nat) (F_a_size : Fld Z h0 a "java/util/ArrayList" "size" "I" (.int n_)) (E_a : Exa Z h0 a "java/util/ArrayList") (F_a_elementData : Fld Z h0 a "java/util/ArrayList" "elementData" "[Ljava/lang/Object;" (.ref r)) (A_ : Arr Z h0 r cl (.object "java/lang/Object")) (hin : ¬ (i < 0 ∨ cl.slots.size ≤ i.toNatClampNeg)) (hat : cl.slots[i.toNatClampNeg]? = some (.ref x)) (hin_ : i < n_) :
    MetFree l (⟨"java/util/ArrayList", "get", "(I)Ljava/lang/Object;"⟩ : MethodName) (head1 (Jvm.Cond.code (⟨"java/util/ArrayList", "get", "(I)Ljava/lang/Object;"⟩ : MethodName) jdk_38_method_20_code 2 (some (.object "java/lang/Object")) :: ws) ({ frames := 2, cells := 0, slots := 0, locals := 27 } : Room)) (fun aa U => aa = #[(.ref a), (.int i)] ∧ Z.Warmed39 U.vm ∧ U.heap = h0) (fun _ _ _ _ _ => True) (fun _ U o U' => ∃ v L, o = .returned v ∧ PureQ (some (.ref x)) h0 n0 v U'.heap L ∧ FrameEnd U o U' L ({ frames := 2, cells := 0, slots := 0, locals := 27 } : Room).cells ({ frames := 2, cells := 0, slots := 0, locals := 27 } : Room).slots) := by
  refine MetFree.of_bodySF (plainFor_of_name pn_rm14) hisR ?_
  intro p e s m args below meth c s₁ Bd hml0 hP hK
  obtain ⟨rfl, hZ, hh⟩ := hP
  have hx := Bd.exec
  have hby := Bd.bytes
  have hml : c.maxLocals = 2 := hml0
  have hown : s.vm.findClass "java/util/ArrayList" = some m.cls := findClass_of_methodNamed Bd.named
  have hnm := (name_of_methodNamed Bd.named Bd.method).1
  have X0 : Stand p l e ({ frames := 2, cells := 0, slots := 0, locals := 27 } : Room) s m #[(.ref a), (.int i)] below meth c s₁ [] 0 0 := Stand.of_body Bd
  have e0 : s₁.heap = h0 := by rw [← hh, Bd.state]; rfl
  have N0 := Fr.nil n0
  refine goIn (ef_rm14 m a i) ?_
  refine Go.by (S' := s₁.setTop (mkF m 1 #[.val (.ref a), .val (.int i)] [(.int i)])) (fun _ kt => XS.iloadN X0.here hx rfl (hb hby d14_0) rfl  kt) ?_
  refine Go.by (S' := s₁.setTop (mkF m 2 #[.val (.ref a), .val (.int i)] [(.ref a), (.int i)])) (fun _ kt => XS.aloadN X0.here hx rfl (hb hby d14_1) rfl rfl  kt) ?_
  obtain ⟨T1, X1, e1, st1⟩ := getF X0 hx hZ hown (host := "") (Or.inl (hw _ (List.mem_of_getElem? (i := 43) rfl))) Via.refl e0 F_a_size (g := (mkF m 2 #[.val (.ref a), .val (.int i)] [(.ref a), (.int i)])) rfl rfl (hb hby d14_2)
  refine Go.by (S' := T1.setTop (mkF m 5 #[.val (.ref a), .val (.int i)] [(.int n_), (.int i)])) st1 ?_
  obtain ⟨_, _, ⟨T2, L2, k2, n2⟩, -, X2, ⟨Lc2, hQ2, l2, y2, z2⟩, st2⟩ := Jvm.LawKit.callS X1 hx (y := (⟨"java/util/Objects", "checkIndex", "(II)I"⟩ : MethodName)) hown (mvT hZ (hw _ (List.mem_of_getElem? (i := 99) rfl))) (mvT hZ (hw _ (List.mem_of_getElem? (i := 100) rfl))) (mvT hZ (hw _ (List.mem_of_getElem? (i := 101) rfl))) (mvT hZ (hw _ (List.mem_of_getElem? (i := 102) rfl))) (by decide) (backOf (W := 0) (rm15 l Z a0 hw [] i n_ h0 n0 (fun q => hin (Or.inl q)) hin_) hZ (hw _ (List.mem_of_getElem? (i := 102) rfl)) (hw _ (List.mem_of_getElem? (i := 101) rfl)) (by decide) (by decide)) (g := (mkF m 5 #[.val (.ref a), .val (.int i)] [(.int n_), (.int i)])) rfl (by rw [hml]; rfl) (argsL := [(.int i), (.int n_)]) (rest := []) (lenOf pd_6 rfl) rfl (by show 2 * 0 + _ ≤ _; exact Nat.le_of_eq rfl) (hb hby d14_5) (fun _ _ => ⟨rfl, e1, (by decide : 0 + 0 ≤ _), (by decide : 0 + 0 ≤ _)⟩)
  dsimp only [Pt.U, Pt.locs, Pt.cells, Pt.slots] at X2 l2 y2 z2 st2 hQ2
  subst l2 y2 z2
  obtain ⟨rfl, N2q, e2⟩ := hQ2
  have N2 := Fr.app N0 N2q
  refine Go.by (S' := T2.setTop (mkF m 8 #[.val (.ref a), .val (.int i)] [(.int i)])) st2 ?_
  refine Go.by (S' := T2.setTop (mkF m 9 #[.val (.ref a), .val (.int i)] [])) (fun _ kt => XS.pop X2.here hx rfl (hb hby d14_8) rfl rfl  kt) ?_
  refine Go.by (S' := T2.setTop (mkF m 10 #[.val (.ref a), .val (.int i)] [(.ref a)])) (fun _ kt => XS.aloadN X2.here hx rfl (hb hby d14_9) rfl rfl  kt) ?_
  refine Go.by (S' := T2.setTop (mkF m 11 #[.val (.ref a), .val (.int i)] [(.int i), (.ref a)])) (fun _ kt => XS.iloadN X2.here hx rfl (hb hby d14_10) rfl  kt) ?_
  obtain ⟨cq3, kq3, q3a, q3b, q3c⟩ := isOf hZ e2 (E_a)
  obtain ⟨_, _, ⟨T3, L3, k3, n3⟩, -, X3, ⟨Lc3, hQ3, l3, y3, z3⟩, st3⟩ := X2.virtualBack hx (y := (⟨"java/util/ArrayList", "elementData", "(I)Ljava/lang/Object;"⟩ : MethodName)) (z := (⟨"java/util/ArrayList", "elementData", "(I)Ljava/lang/Object;"⟩ : MethodName)) hown (mvT hZ (hw _ (List.mem_of_getElem? (i := 107) rfl))) (mvT hZ (hw _ (List.mem_of_getElem? (i := 108) rfl))) (notFace_of_selects (args := #[]) (mvT hZ (hw _ (List.mem_of_getElem? (i := 110) rfl)))) (mvT hZ (hw _ (List.mem_of_getElem? (i := 110) rfl))) (mvT hZ (hw _ (List.mem_of_getElem? (i := 109) rfl))) (by decide) (backOf (W := 0) (rm17 l Z a0 hw [] a i r x cl h0 n0 F_a_elementData A_ hin hat) hZ (hw _ (List.mem_of_getElem? (i := 111) rfl)) (hw _ (List.mem_of_getElem? (i := 4) rfl)) (by decide) (by decide)) q3a q3c (g := (mkF m 11 #[.val (.ref a), .val (.int i)] [(.int i), (.ref a)])) rfl (by rw [hml]; rfl) (Steps.refl _) (argsL := [(.int i)]) (rest := []) (lenOf pd_9 rfl) rfl (by show 2 * 0 + _ ≤ _; exact Nat.le_of_eq rfl) (hb hby d14_11) (fun _ _ => ⟨rfl, e2, (by decide : 0 + 0 ≤ _), (by decide : 0 + 0 ≤ _)⟩)
  dsimp only [Pt.U, Pt.locs, Pt.cells, Pt.slots] at X3 l3 y3 z3 st3 hQ3
  subst l3 y3 z3
  obtain ⟨rfl, N3q, e3⟩ := hQ3
  have N3 := Fr.app N2 N3q
  refine Go.at (S' := T3.setTop (mkF m 14 #[.val (.ref a), .val (.int i)] [(.ref x)])) st3 ?_
  refine goRet X3 (v := some (.ref x)) (fun h => by rw [Bd.returns] at h; cases h) Bd.notSynchronized (fun fs hr => retOut X3 hx Bd.returns rfl (Or.inr (Or.inr (Or.inr (Or.inr ⟨rfl, rfl, rfl⟩)))) (hb hby d14_14) hr) (by decide) (by decide) ?_
  exact ⟨rfl, N3, e3⟩
theorem ef_rm19 (m : MethodId) (x0 : Addr) : entryFrame m #[(.ref x0)] 1 = mkF m 0 #[.val (.ref x0)] [] := by first | (simp [entryFrame, mkF, argsToLocals, Value.category]; done) | rfl
theorem pn_rm19 : plainName "java/lang/Long" = true := by first | (simp [plainName, overriddenIn]; done) | decide +kernel
theorem d19_0 : decode jdk_35_method_31_code 0 = .ok (.aload_n 0, 1) := by decide +kernel
theorem d19_1 : decode jdk_35_method_31_code 1 = .ok (.getfield 273, 3) := by decide +kernel
theorem d19_4 : decode jdk_35_method_31_code 4 = .ok (.lreturn, 1) := by decide +kernel
set_option maxRecDepth 65536 in
set_option maxHeartbeats 40000000 in
theorem rm19 (l : Launch) (Z : State) (a0 : Array Value) (hw : ∀ d ∈ tables_1, d.before a0 Z = true) (ws : List Jvm.Cond) (a : Addr) (q : Int64) (h0 : Heap) (n0 : Nat) (F_a_value : Fld Z h0 a "java/lang/Long" "value" "J" (.long q)) :
    MetFree l (⟨"java/lang/Long", "longValue", "()J"⟩ : MethodName) (head1 (Jvm.Cond.code (⟨"java/lang/Long", "longValue", "()J"⟩ : MethodName) jdk_35_method_31_code 1 (some .long) :: ws) ({ frames := 0, cells := 0, slots := 0, locals := 0 } : Room)) (fun aa U => aa = #[(.ref a)] ∧ Z.Warmed39 U.vm ∧ U.heap = h0) (fun _ _ _ _ _ => True) (fun _ U o U' => ∃ v L, o = .returned v ∧ PureQ (some (.long q)) h0 n0 v U'.heap L ∧ FrameEnd U o U' L ({ frames := 0, cells := 0, slots := 0, locals := 0 } : Room).cells ({ frames := 0, cells := 0, slots := 0, locals := 0 } : Room).slots) := by
  refine MetFree.of_bodySF (plainFor_of_name pn_rm19) hisR ?_
  intro p e s m args below meth c s₁ Bd hml0 hP hK
  obtain ⟨rfl, hZ, hh⟩ := hP
  have hx := Bd.exec
  have hby := Bd.bytes
  have hml : c.maxLocals = 1 := hml0
  have hown : s.vm.findClass "java/lang/Long" = some m.cls := findClass_of_methodNamed Bd.named
  have hnm := (name_of_methodNamed Bd.named Bd.method).1
  have X0 : Stand p l e ({ frames := 0, cells := 0, slots := 0, locals := 0 } : Room) s m #[(.ref a)] below meth c s₁ [] 0 0 := Stand.of_body Bd
  have e0 : s₁.heap = h0 := by rw [← hh, Bd.state]; rfl
  have N0 := Fr.nil n0
  refine goIn (ef_rm19 m a) ?_
  refine Go.by (S' := s₁.setTop (mkF m 1 #[.val (.ref a)] [(.ref a)])) (fun _ kt => XS.aloadN X0.here hx rfl (hb hby d19_0) rfl rfl  kt) ?_
  obtain ⟨T1, X1, e1, st1⟩ := getF X0 hx hZ hown (host := "") (Or.inl (hw _ (List.mem_of_getElem? (i := 80) rfl))) Via.refl e0 F_a_value (g := (mkF m 1 #[.val (.ref a)] [(.ref a)])) rfl rfl (hb hby d19_1)
  refine Go.by (S' := T1.setTop (mkF m 4 #[.val (.ref a)] [(.long q)])) st1 ?_
  refine goRet X1 (v := some (.long q)) (fun h => by rw [Bd.returns] at h; cases h) Bd.notSynchronized (fun fs hr => retOut X1 hx Bd.returns rfl (Or.inr (Or.inl ⟨rfl, rfl, _, rfl⟩)) (hb hby d19_4) hr) (by decide) (by decide) ?_
  exact ⟨rfl, N0, e1⟩
theorem ef_rm18 (m : MethodId) (x0 : Addr) (x1 : Addr) : entryFrame m #[(.ref x0), (.ref x1)] 2 = mkF m 0 #[.val (.ref x0), .val (.ref x1)] [] := by first | (simp [entryFrame, mkF, argsToLocals, Value.category]; done) | rfl
theorem pn_rm18 : plainName "java/lang/Long" = true := by first | (simp [plainName, overriddenIn]; done) | decide +kernel
theorem d18_0 : decode jdk_35_method_37_code 0 = .ok (.aload_n 1, 1) := by decide +kernel
theorem d18_1 : decode jdk_35_method_37_code 1 = .ok (.instanceof 1, 3) := by decide +kernel
theorem d18_4 : decode jdk_35_method_37_code 4 = .ok (.ifCond .eq 24, 3) := by decide +kernel
theorem d18_7 : decode jdk_35_method_37_code 7 = .ok (.aload_n 0, 1) := by decide +kernel
theorem d18_8 : decode jdk_35_method_37_code 8 = .ok (.getfield 273, 3) := by decide +kernel
theorem d18_11 : decode jdk_35_method_37_code 11 = .ok (.aload_n 1, 1) := by decide +kernel
theorem d18_12 : decode jdk_35_method_37_code 12 = .ok (.checkcast 1, 3) := by decide +kernel
theorem d18_15 : decode jdk_35_method_37_code 15 = .ok (.invokevirtual 280, 3) := by decide +kernel
theorem d18_18 : decode jdk_35_method_37_code 18 = .ok (.lcmp, 1) := by decide +kernel
theorem d18_19 : decode jdk_35_method_37_code 19 = .ok (.ifCond .ne 7, 3) := by decide +kernel
theorem d18_22 : decode jdk_35_method_37_code 22 = .ok (.iconst 1, 1) := by decide +kernel
theorem d18_23 : decode jdk_35_method_37_code 23 = .ok (.goto 4, 3) := by decide +kernel
theorem d18_26 : decode jdk_35_method_37_code 26 = .ok (.iconst 0, 1) := by decide +kernel
theorem d18_27 : decode jdk_35_method_37_code 27 = .ok (.ireturn, 1) := by decide +kernel
set_option maxRecDepth 65536 in
set_option maxHeartbeats 40000000 in
theorem rm18 (l : Launch) (Z : State) (a0 : Array Value) (hw : ∀ d ∈ tables_1, d.before a0 Z = true) (ws : List Jvm.Cond) (a : Addr) (b : Addr) (q1 q2 : Int64) (h0 : Heap) (n0 : Nat) (F_a_value : Fld Z h0 a "java/lang/Long" "value" "J" (.long q1)) (F_b_value : Fld Z h0 b "java/lang/Long" "value" "J" (.long q2)) (E_b : Exa Z h0 b "java/lang/Long") :
    MetFree l (⟨"java/lang/Long", "equals", "(Ljava/lang/Object;)Z"⟩ : MethodName) (head1 (Jvm.Cond.code (⟨"java/lang/Long", "equals", "(Ljava/lang/Object;)Z"⟩ : MethodName) jdk_35_method_37_code 2 (some .boolean) :: ws) ({ frames := 1, cells := 0, slots := 0, locals := 14 } : Room)) (fun aa U => aa = #[(.ref a), (.ref b)] ∧ Z.Warmed39 U.vm ∧ U.heap = h0) (fun _ _ _ _ _ => True) (fun _ U o U' => ∃ v L, o = .returned v ∧ PureQ (some (.int (if q1 = q2 then 1 else 0))) h0 n0 v U'.heap L ∧ FrameEnd U o U' L ({ frames := 1, cells := 0, slots := 0, locals := 14 } : Room).cells ({ frames := 1, cells := 0, slots := 0, locals := 14 } : Room).slots) := by
  refine MetFree.of_bodySF (plainFor_of_name pn_rm18) hisR ?_
  intro p e s m args below meth c s₁ Bd hml0 hP hK
  obtain ⟨rfl, hZ, hh⟩ := hP
  have hx := Bd.exec
  have hby := Bd.bytes
  have hml : c.maxLocals = 2 := hml0
  have hown : s.vm.findClass "java/lang/Long" = some m.cls := findClass_of_methodNamed Bd.named
  have hnm := (name_of_methodNamed Bd.named Bd.method).1
  have X0 : Stand p l e ({ frames := 1, cells := 0, slots := 0, locals := 14 } : Room) s m #[(.ref a), (.ref b)] below meth c s₁ [] 0 0 := Stand.of_body Bd
  have e0 : s₁.heap = h0 := by rw [← hh, Bd.state]; rfl
  have N0 := Fr.nil n0
  refine goIn (ef_rm18 m a b) ?_
  refine Go.by (S' := s₁.setTop (mkF m 1 #[.val (.ref a), .val (.ref b)] [(.ref b)])) (fun _ kt => XS.aloadN X0.here hx rfl (hb hby d18_0) rfl rfl  kt) ?_
  obtain ⟨T1, X1, e1, st1⟩ := instY X0 hx hZ hown (hw _ (List.mem_of_getElem? (i := 67) rfl)) e0 (Ins.self E_b) (g := (mkF m 1 #[.val (.ref a), .val (.ref b)] [(.ref b)])) rfl rfl (hb hby d18_1)
  refine Go.by (S' := T1.setTop (mkF m 4 #[.val (.ref a), .val (.ref b)] [(.int (1 : Int32))])) st1 ?_
  refine Go.by (S' := T1.setTop (mkF m 7 #[.val (.ref a), .val (.ref b)] [])) (fun _ kt => XS.ifNo X1.here hx rfl (hb hby d18_4) rfl (XT.i0_eq_f (by decide))  kt) ?_
  refine Go.by (S' := T1.setTop (mkF m 8 #[.val (.ref a), .val (.ref b)] [(.ref a)])) (fun _ kt => XS.aloadN X1.here hx rfl (hb hby d18_7) rfl rfl  kt) ?_
  obtain ⟨T2, X2, e2, st2⟩ := getF X1 hx hZ hown (host := "") (Or.inl (hw _ (List.mem_of_getElem? (i := 80) rfl))) Via.refl e1 F_a_value (g := (mkF m 8 #[.val (.ref a), .val (.ref b)] [(.ref a)])) rfl rfl (hb hby d18_8)
  refine Go.by (S' := T2.setTop (mkF m 11 #[.val (.ref a), .val (.ref b)] [(.long q1)])) st2 ?_
  refine Go.by (S' := T2.setTop (mkF m 12 #[.val (.ref a), .val (.ref b)] [(.ref b), (.long q1)])) (fun _ kt => XS.aloadN X2.here hx rfl (hb hby d18_11) rfl rfl  kt) ?_
  obtain ⟨T3, X3, e3, st3⟩ := castY X2 hx hZ hown (hw _ (List.mem_of_getElem? (i := 67) rfl)) e2 (Ins.self E_b) (g := (mkF m 12 #[.val (.ref a), .val (.ref b)] [(.ref b), (.long q1)])) rfl rfl (hb hby d18_12)
  refine Go.by (S' := T3.setTop (mkF m 15 #[.val (.ref a), .val (.ref b)] [(.ref b), (.long q1)])) st3 ?_
  obtain ⟨cq4, kq4, q4a, q4b, q4c⟩ := isOf hZ e3 (E_b)
  obtain ⟨_, _, ⟨T4, L4, k4, n4⟩, -, X4, ⟨Lc4, hQ4, l4, y4, z4⟩, st4⟩ := X3.virtualBack hx (y := (⟨"java/lang/Long", "longValue", "()J"⟩ : MethodName)) (z := (⟨"java/lang/Long", "longValue", "()J"⟩ : MethodName)) hown (mvT hZ (hw _ (List.mem_of_getElem? (i := 117) rfl))) (mvT hZ (hw _ (List.mem_of_getElem? (i := 118) rfl))) (notFace_of_selects (args := #[]) (mvT hZ (hw _ (List.mem_of_getElem? (i := 120) rfl)))) (mvT hZ (hw _ (List.mem_of_getElem? (i := 120) rfl))) (mvT hZ (hw _ (List.mem_of_getElem? (i := 119) rfl))) (by decide) (backOf (W := 2) (rm19 l Z a0 hw [] b q2 h0 n0 F_b_value) hZ (hw _ (List.mem_of_getElem? (i := 121) rfl)) (hw _ (List.mem_of_getElem? (i := 30) rfl)) (by decide) (by decide)) q4a q4c (g := (mkF m 15 #[.val (.ref a), .val (.ref b)] [(.ref b), (.long q1)])) rfl (by rw [hml]; rfl) (Steps.refl _) (argsL := []) (rest := [(.long q1)]) (lenOf pd_11 rfl) rfl (by show 2 * 0 + _ ≤ _; exact Nat.le_of_eq rfl) (hb hby d18_15) (fun _ _ => ⟨rfl, e3, (by decide : 0 + 0 ≤ _), (by decide : 0 + 0 ≤ _)⟩)
  dsimp only [Pt.U, Pt.locs, Pt.cells, Pt.slots] at X4 l4 y4 z4 st4 hQ4
  subst l4 y4 z4
  obtain ⟨rfl, N4q, e4⟩ := hQ4
  have N4 := Fr.app N0 N4q
  refine Go.at (S' := T4.setTop (mkF m 18 #[.val (.ref a), .val (.ref b)] [(.long q2), (.long q1)])) st4 ?_
  refine Go.by (S' := T4.setTop (mkF m 19 #[.val (.ref a), .val (.ref b)] [(.int (XT.cmpL q1 q2))])) (fun _ kt => XT.lcmp X4.here hx rfl (hb hby d18_18) rfl  kt) ?_
  by_cases hc19_5 : q1 = q2
  · refine Go.by (S' := T4.setTop (mkF m 22 #[.val (.ref a), .val (.ref b)] [])) (fun _ kt => XS.ifNo X4.here hx rfl (hb hby d18_19) rfl (XT.ll_ne_f hc19_5)  kt) ?_
    refine Go.by (S' := T4.setTop (mkF m 23 #[.val (.ref a), .val (.ref b)] [(.int (1 : Int32))])) (fun _ kt => XT.iconstV X4.here hx rfl (1 : Int32) (hb hby d18_22) (by decide)  kt) ?_
    refine Go.by (S' := T4.setTop (mkF m 27 #[.val (.ref a), .val (.ref b)] [(.int (1 : Int32))])) (fun _ kt => XS.goto X4.here hx rfl (pc0 := 23) (pc' := 27) rfl (hb hby d18_23) (by decide) (by decide)  kt) ?_
    refine goRet X4 (v := some (.int (nar .boolean (1 : Int32)))) (fun h => by rw [Bd.returns] at h; cases h) Bd.notSynchronized (fun fs hr => retN X4 hx (t := .boolean) Bd.returns (by simp) (hb hby d18_27) hr) (by decide) (by decide) ?_
    exact ⟨by simp [own_n1, own_n0, hc19_5], N4, e4⟩
  · refine Go.by (S' := T4.setTop (mkF m 26 #[.val (.ref a), .val (.ref b)] [])) (fun _ kt => XS.ifYes X4.here hx rfl (pc0 := 19) (pc' := 26) rfl (hb hby d18_19) rfl (XT.ll_ne_t hc19_5) (by decide) (by decide)  kt) ?_
    refine Go.by (S' := T4.setTop (mkF m 27 #[.val (.ref a), .val (.ref b)] [(.int (0 : Int32))])) (fun _ kt => XT.iconstV X4.here hx rfl (0 : Int32) (hb hby d18_26) (by decide)  kt) ?_
    refine goRet X4 (v := some (.int (nar .boolean (0 : Int32)))) (fun h => by rw [Bd.returns] at h; cases h) Bd.notSynchronized (fun fs hr => retN X4 hx (t := .boolean) Bd.returns (by simp) (hb hby d18_27) hr) (by decide) (by decide) ?_
    exact ⟨by simp [own_n1, own_n0, hc19_5], N4, e4⟩
theorem ef_rm20 (m : MethodId) (x0 : Int64) : entryFrame m #[(.long x0)] 2 = mkF m 0 #[.val (.long x0), .second] [] := by first | (simp [entryFrame, mkF, argsToLocals, Value.category]; done) | rfl
theorem d20_0 : decode jdk_29_method_43_code 0 = .ok (.lload_n 0, 1) := by decide +kernel
theorem d20_1 : decode jdk_29_method_43_code 1 = .ok (.l2i, 1) := by decide +kernel
theorem d20_2 : decode jdk_29_method_43_code 2 = .ok (.i2l, 1) := by decide +kernel
theorem d20_3 : decode jdk_29_method_43_code 3 = .ok (.lload_n 0, 1) := by decide +kernel
theorem d20_4 : decode jdk_29_method_43_code 4 = .ok (.lcmp, 1) := by decide +kernel
theorem d20_5 : decode jdk_29_method_43_code 5 = .ok (.ifCond .eq 13, 3) := by decide +kernel
theorem d20_18 : decode jdk_29_method_43_code 18 = .ok (.lload_n 0, 1) := by decide +kernel
theorem d20_19 : decode jdk_29_method_43_code 19 = .ok (.l2i, 1) := by decide +kernel
theorem d20_20 : decode jdk_29_method_43_code 20 = .ok (.ireturn, 1) := by decide +kernel
set_option maxRecDepth 65536 in
set_option maxHeartbeats 40000000 in
theorem rm20 (l : Launch) (Z : State) (a0 : Array Value) (hw : ∀ d ∈ tables_1, d.before a0 Z = true) (ws : List Jvm.Cond) (q : Int64)  (h0 : Heap) (n0 : Nat) (hq : q.toInt32.toInt64 = q) :
    MetFree l (⟨"java/lang/Math", "toIntExact", "(J)I"⟩ : MethodName) (head1 (Jvm.Cond.code (⟨"java/lang/Math", "toIntExact", "(J)I"⟩ : MethodName) jdk_29_method_43_code 2 (some .int) :: ws) ({ frames := 0, cells := 0, slots := 0, locals := 0 } : Room)) (fun aa U => aa = #[(.long q)] ∧ Z.Warmed39 U.vm ∧ U.heap = h0) (fun _ _ _ _ _ => True) (fun _ U o U' => ∃ v L, o = .returned v ∧ PureQ (some (.int q.toInt32)) h0 n0 v U'.heap L ∧ FrameEnd U o U' L ({ frames := 0, cells := 0, slots := 0, locals := 0 } : Room).cells ({ frames := 0, cells := 0, slots := 0, locals := 0 } : Room).slots) := by
  refine MetFree.of_bodySF (Jvm.Free.JP.mathPlain rfl (by decide +kernel)) hisR ?_
  intro p e s m args below meth c s₁ Bd hml0 hP hK
  obtain ⟨rfl, hZ, hh⟩ := hP
  have hx := Bd.exec
  have hby := Bd.bytes
  have hml : c.maxLocals = 2 := hml0
  have hown : s.vm.findClass "java/lang/Math" = some m.cls := findClass_of_methodNamed Bd.named
  have hnm := (name_of_methodNamed Bd.named Bd.method).1
  have X0 : Stand p l e ({ frames := 0, cells := 0, slots := 0, locals := 0 } : Room) s m #[(.long q)] below meth c s₁ [] 0 0 := Stand.of_body Bd
  have e0 : s₁.heap = h0 := by rw [← hh, Bd.state]; rfl
  have N0 := Fr.nil n0
  refine goIn (ef_rm20 m q) ?_
  refine Go.by (S' := s₁.setTop (mkF m 1 #[.val (.long q), .second] [(.long q)])) (fun _ kt => XS.lloadN X0.here hx rfl (hb hby d20_0) rfl  kt) ?_
  refine Go.by (S' := s₁.setTop (mkF m 2 #[.val (.long q), .second] [(.int (q.toInt32))])) (fun _ kt => XS.l2i X0.here hx rfl (hb hby d20_1) rfl  kt) ?_
  refine Go.by (S' := s₁.setTop (mkF m 3 #[.val (.long q), .second] [(.long ((q.toInt32).toInt64))])) (fun _ kt => XS.i2l X0.here hx rfl (hb hby d20_2) rfl  kt) ?_
  refine Go.by (S' := s₁.setTop (mkF m 4 #[.val (.long q), .second] [(.long q), (.long ((q.toInt32).toInt64))])) (fun _ kt => XS.lloadN X0.here hx rfl (hb hby d20_3) rfl  kt) ?_
  refine Go.by (S' := s₁.setTop (mkF m 5 #[.val (.long q), .second] [(.int (XT.cmpL ((q.toInt32).toInt64) q))])) (fun _ kt => XT.lcmp X0.here hx rfl (hb hby d20_4) rfl  kt) ?_
  refine Go.by (S' := s₁.setTop (mkF m 18 #[.val (.long q), .second] [])) (fun _ kt => XS.ifYes X0.here hx rfl (pc0 := 5) (pc' := 18) rfl (hb hby d20_5) rfl (XT.ll_eq_t hq) (by decide) (by decide)  kt) ?_
  refine Go.by (S' := s₁.setTop (mkF m 19 #[.val (.long q), .second] [(.long q)])) (fun _ kt => XS.lloadN X0.here hx rfl (hb hby d20_18) rfl  kt) ?_
  refine Go.by (S' := s₁.setTop (mkF m 20 #[.val (.long q), .second] [(.int (q.toInt32))])) (fun _ kt => XS.l2i X0.here hx rfl (hb hby d20_19) rfl  kt) ?_
  refine goRet X0 (v := some (.int (q.toInt32))) (fun h => by rw [Bd.returns] at h; cases h) Bd.notSynchronized (fun fs hr => retOut X0 hx Bd.returns rfl (Or.inl ⟨rfl, Or.inl rfl, _, rfl⟩) (hb hby d20_20) hr) (by decide) (by decide) ?_
  exact ⟨rfl, N0, e0⟩
theorem ef_rm23 (m : MethodId) (x0 : Addr) (x1 : Int64) (x2 : Int32) : entryFrame m #[(.ref x0), (.long x1), (.int x2)] 4 = mkF m 0 #[.val (.ref x0), .val (.long x1), .second, .val (.int x2)] [] := by first | (simp [entryFrame, mkF, argsToLocals, Value.category]; done) | rfl
theorem pn_rm23 : plainName "java/time/Duration" = true := by first | (simp [plainName, overriddenIn]; done) | decide +kernel
theorem d23_0 : decode jdk_2316_method_17_code 0 = .ok (.aload_n 0, 1) := by decide +kernel
theorem d23_1 : decode jdk_2316_method_17_code 1 = .ok (.invokespecial 218, 3) := by decide +kernel
theorem d23_4 : decode jdk_2316_method_17_code 4 = .ok (.aload_n 0, 1) := by decide +kernel
theorem d23_5 : decode jdk_2316_method_17_code 5 = .ok (.lload_n 1, 1) := by decide +kernel
theorem d23_6 : decode jdk_2316_method_17_code 6 = .ok (.putfield 221, 3) := by decide +kernel
theorem d23_9 : decode jdk_2316_method_17_code 9 = .ok (.aload_n 0, 1) := by decide +kernel
theorem d23_10 : decode jdk_2316_method_17_code 10 = .ok (.iload_n 3, 1) := by decide +kernel
theorem d23_11 : decode jdk_2316_method_17_code 11 = .ok (.putfield 224, 3) := by decide +kernel
theorem d23_14 : decode jdk_2316_method_17_code 14 = .ok (.return_, 1) := by decide +kernel
set_option maxRecDepth 65536 in
set_option maxHeartbeats 40000000 in
theorem rm23 (l : Launch) (Z : State) (a0 : Array Value) (hw : ∀ d ∈ tables_1, d.before a0 Z = true) (ws : List Jvm.Cond) (a : Addr) (q : Int64) (pn : Int32)  (h0 : Heap) (n0 : Nat) (F_a_seconds : Fld Z h0 a "java/time/Duration" "seconds" "J" (.long 0)) (F_a_nanos : Fld Z h0 a "java/time/Duration" "nanos" "I" (.int 0)) (E_a : Exa Z h0 a "java/time/Duration") (g_a : n0 ≤ a) :
    MetFree l (⟨"java/time/Duration", "<init>", "(JI)V"⟩ : MethodName) (head1 (Jvm.Cond.code (⟨"java/time/Duration", "<init>", "(JI)V"⟩ : MethodName) jdk_2316_method_17_code 4 none :: ws) ({ frames := 1, cells := 0, slots := 0, locals := 12 } : Room)) (fun aa U => aa = #[(.ref a), (.long q), (.int pn)] ∧ Z.Warmed39 U.vm ∧ U.heap = h0) (fun _ _ _ _ _ => True) (fun _ U o U' => ∃ v L, o = .returned v ∧ DIniQ Z a q pn h0 n0 v U'.heap L ∧ FrameEnd U o U' L ({ frames := 1, cells := 0, slots := 0, locals := 12 } : Room).cells ({ frames := 1, cells := 0, slots := 0, locals := 12 } : Room).slots) := by
  refine MetFree.of_bodySF (plainFor_of_name pn_rm23) hisR ?_
  intro p e s m args below meth c s₁ Bd hml0 hP hK
  obtain ⟨rfl, hZ, hh⟩ := hP
  have hx := Bd.exec
  have hby := Bd.bytes
  have hml : c.maxLocals = 4 := hml0
  have hown : s.vm.findClass "java/time/Duration" = some m.cls := findClass_of_methodNamed Bd.named
  have hnm := (name_of_methodNamed Bd.named Bd.method).1
  have X0 : Stand p l e ({ frames := 1, cells := 0, slots := 0, locals := 12 } : Room) s m #[(.ref a), (.long q), (.int pn)] below meth c s₁ [] 0 0 := Stand.of_body Bd
  have e0 : s₁.heap = h0 := by rw [← hh, Bd.state]; rfl
  have N0 := Fr.nil n0
  have KP := Keep.refl h0 [a]
  refine goIn (ef_rm23 m a q pn) ?_
  refine Go.by (S' := s₁.setTop (mkF m 1 #[.val (.ref a), .val (.long q), .second, .val (.int pn)] [(.ref a)])) (fun _ kt => XS.aloadN X0.here hx rfl (hb hby d23_0) rfl rfl  kt) ?_
  obtain ⟨T1, X1, e1, st1⟩ := initO X0 hx hZ hown (hw _ (List.mem_of_getElem? (i := 142) rfl)) (hw _ (List.mem_of_getElem? (i := 21) rfl)) (hw _ (List.mem_of_getElem? (i := 22) rfl)) e0 (g := (mkF m 1 #[.val (.ref a), .val (.long q), .second, .val (.int pn)] [(.ref a)])) rfl (by rw [hml]; rfl) rfl (hb hby d23_1) (by decide) (W := 0) (by show 2 * 0 + _ ≤ _; exact Nat.le_of_eq rfl) (by decide)
  refine Go.by (S' := T1.setTop (mkF m 4 #[.val (.ref a), .val (.long q), .second, .val (.int pn)] [])) st1 ?_
  refine Go.by (S' := T1.setTop (mkF m 5 #[.val (.ref a), .val (.long q), .second, .val (.int pn)] [(.ref a)])) (fun _ kt => XS.aloadN X1.here hx rfl (hb hby d23_4) rfl rfl  kt) ?_
  refine Go.by (S' := T1.setTop (mkF m 6 #[.val (.ref a), .val (.long q), .second, .val (.int pn)] [(.long q), (.ref a)])) (fun _ kt => XS.lloadN X1.here hx rfl (hb hby d23_5) rfl  kt) ?_
  obtain ⟨T2, h2, X2, e2, W2, st2⟩ := putF X1 hx hZ hown (host := "") (Or.inl (hw _ (List.mem_of_getElem? (i := 143) rfl))) Via.refl e1 F_a_seconds E_a (Or.inr ⟨(hw _ (List.mem_of_getElem? (i := 144) rfl)), rfl, hnm⟩) (hw _ (List.mem_of_getElem? (i := 137) rfl)) (ty := .long) (by decide) rfl rfl (g := (mkF m 6 #[.val (.ref a), .val (.long q), .second, .val (.int pn)] [(.long q), (.ref a)])) rfl rfl (hb hby d23_6)
  have F_a_seconds := F_a_seconds.same W2
  have E_a := E_a.wr W2
  have F_a_nanos := F_a_nanos.other W2 (Or.inr (slot_ne (Or.inr (hw _ (List.mem_of_getElem? (i := 146) rfl))) (Or.inr (hw _ (List.mem_of_getElem? (i := 144) rfl))) (by decide) (t := .int) (t' := .long) (by decide) (by decide)))
  have KP := KP.wr W2 (Or.inl (List.mem_of_getElem? (i := 0) rfl))
  have N2 := Fr.snoc X2 N0 g_a
  refine Go.by (S' := T2.setTop (mkF m 9 #[.val (.ref a), .val (.long q), .second, .val (.int pn)] [])) st2 ?_
  refine Go.by (S' := T2.setTop (mkF m 10 #[.val (.ref a), .val (.long q), .second, .val (.int pn)] [(.ref a)])) (fun _ kt => XS.aloadN X2.here hx rfl (hb hby d23_9) rfl rfl  kt) ?_
  refine Go.by (S' := T2.setTop (mkF m 11 #[.val (.ref a), .val (.long q), .second, .val (.int pn)] [(.int pn), (.ref a)])) (fun _ kt => XS.iloadN X2.here hx rfl (hb hby d23_10) rfl  kt) ?_
  obtain ⟨T3, h3, X3, e3, W3, st3⟩ := putF X2 hx hZ hown (host := "") (Or.inl (hw _ (List.mem_of_getElem? (i := 145) rfl))) Via.refl e2 F_a_nanos E_a (Or.inr ⟨(hw _ (List.mem_of_getElem? (i := 146) rfl)), rfl, hnm⟩) (hw _ (List.mem_of_getElem? (i := 137) rfl)) (ty := .int) (by decide) rfl rfl (g := (mkF m 11 #[.val (.ref a), .val (.long q), .second, .val (.int pn)] [(.int pn), (.ref a)])) rfl rfl (hb hby d23_11)
  have F_a_nanos := F_a_nanos.same W3
  have E_a := E_a.wr W3
  have F_a_seconds := F_a_seconds.other W3 (Or.inr (slot_ne (Or.inr (hw _ (List.mem_of_getElem? (i := 144) rfl))) (Or.inr (hw _ (List.mem_of_getElem? (i := 146) rfl))) (by decide) (t := .long) (t' := .int) (by decide) (by decide)))
  have KP := KP.wr W3 (Or.inl (List.mem_of_getElem? (i := 0) rfl))
  have N3 := Fr.snoc X3 N2 g_a
  refine Go.by (S' := T3.setTop (mkF m 14 #[.val (.ref a), .val (.long q), .second, .val (.int pn)] [])) st3 ?_
  refine goRet X3 (v := none) (fun _ => rfl) Bd.notSynchronized (fun fs hr => X3.returnOut hx Bd.returns (hb hby d23_14) hr) (by decide) (by decide) ?_
  rw [e3]
  exact ⟨rfl, N3, KP, E_a, F_a_seconds, F_a_nanos⟩
theorem own_or0 {x : Int64} {y : Int32} (h : x ||| y.toInt64 = 0) : x = 0 ∧ y = 0 := by
  have h' : x.toBitVec ||| y.toInt64.toBitVec = 0#64 := by rw [← Int64.toBitVec_or, h]; rfl
  have hx : x.toBitVec = 0#64 := by
    apply BitVec.eq_of_getLsbD_eq; intro i hi
    have := congrArg (fun b => b.getLsbD i) h'
    simp only [BitVec.getLsbD_or, BitVec.getLsbD_zero, Bool.or_eq_false_iff] at this
    rw [this.1]; simp
  have hy : y.toInt64.toBitVec = 0#64 := by rw [hx] at h'; simpa using h'
  refine ⟨Int64.toBitVec_inj.mp hx, ?_⟩
  have e : y.toInt64 = 0 := Int64.toBitVec_inj.mp hy
  apply Int32.toInt_inj.mp
  have e2 := congrArg Int64.toInt e
  rw [Int32.toInt_toInt64] at e2
  exact e2
theorem ef_rm22 (m : MethodId) (x0 : Int64) (x1 : Int32) : entryFrame m #[(.long x0), (.int x1)] 3 = mkF m 0 #[.val (.long x0), .second, .val (.int x1)] [] := by first | (simp [entryFrame, mkF, argsToLocals, Value.category]; done) | rfl
theorem pn_rm22 : plainName "java/time/Duration" = true := by first | (simp [plainName, overriddenIn]; done) | decide +kernel
theorem d22_0 : decode jdk_2316_method_16_code 0 = .ok (.lload_n 0, 1) := by decide +kernel
theorem d22_1 : decode jdk_2316_method_16_code 1 = .ok (.iload_n 2, 1) := by decide +kernel
theorem d22_2 : decode jdk_2316_method_16_code 2 = .ok (.i2l, 1) := by decide +kernel
theorem d22_3 : decode jdk_2316_method_16_code 3 = .ok (.lor, 1) := by decide +kernel
theorem d22_4 : decode jdk_2316_method_16_code 4 = .ok (.lconst 0, 1) := by decide +kernel
theorem d22_5 : decode jdk_2316_method_16_code 5 = .ok (.lcmp, 1) := by decide +kernel
theorem d22_6 : decode jdk_2316_method_16_code 6 = .ok (.ifCond .ne 7, 3) := by decide +kernel
theorem d22_9 : decode jdk_2316_method_16_code 9 = .ok (.getstatic 32, 3) := by decide +kernel
theorem d22_12 : decode jdk_2316_method_16_code 12 = .ok (.areturn, 1) := by decide +kernel
theorem d22_13 : decode jdk_2316_method_16_code 13 = .ok (.new 11, 3) := by decide +kernel
theorem d22_16 : decode jdk_2316_method_16_code 16 = .ok (.dup, 1) := by decide +kernel
theorem d22_17 : decode jdk_2316_method_16_code 17 = .ok (.lload_n 0, 1) := by decide +kernel
theorem d22_18 : decode jdk_2316_method_16_code 18 = .ok (.iload_n 2, 1) := by decide +kernel
theorem d22_19 : decode jdk_2316_method_16_code 19 = .ok (.invokespecial 215, 3) := by decide +kernel
theorem d22_22 : decode jdk_2316_method_16_code 22 = .ok (.areturn, 1) := by decide +kernel
set_option maxRecDepth 65536 in
set_option maxHeartbeats 40000000 in
theorem rm22 (l : Launch) (Z : State) (a0 : Array Value) (hw : ∀ d ∈ tables_1, d.before a0 Z = true) (ws : List Jvm.Cond) (q : Int64) (pn : Int32) (tz : Addr) (h0 : Heap) (n0 : Nat) (Z0 : n0 ≤ h0.size) (SZ : Sta Z h0 "java/time/Duration" "ZERO" "Ljava/time/Duration;" (.ref tz)) (E_tz : Exa Z h0 tz "java/time/Duration") (F_tz_seconds : Fld Z h0 tz "java/time/Duration" "seconds" "J" (.long 0)) (F_tz_nanos : Fld Z h0 tz "java/time/Duration" "nanos" "I" (.int 0)) :
    MetFree l (⟨"java/time/Duration", "create", "(JI)Ljava/time/Duration;"⟩ : MethodName) (head1 (Jvm.Cond.code (⟨"java/time/Duration", "create", "(JI)Ljava/time/Duration;"⟩ : MethodName) jdk_2316_method_16_code 3 (some (.object "java/time/Duration")) :: ws) ({ frames := 2, cells := 1, slots := 2, locals := 28 } : Room)) (fun aa U => aa = #[(.long q), (.int pn)] ∧ Z.Warmed39 U.vm ∧ U.heap = h0) (fun _ _ _ _ _ => True) (fun _ U o U' => ∃ v L, o = .returned v ∧ DurQ Z q pn h0 n0 v U'.heap L ∧ FrameEnd U o U' L ({ frames := 2, cells := 1, slots := 2, locals := 28 } : Room).cells ({ frames := 2, cells := 1, slots := 2, locals := 28 } : Room).slots) := by
  refine MetFree.of_bodySF (plainFor_of_name pn_rm22) hisR ?_
  intro p e s m args below meth c s₁ Bd hml0 hP hK
  obtain ⟨rfl, hZ, hh⟩ := hP
  have hx := Bd.exec
  have hby := Bd.bytes
  have hml : c.maxLocals = 3 := hml0
  have hown : s.vm.findClass "java/time/Duration" = some m.cls := findClass_of_methodNamed Bd.named
  have hnm := (name_of_methodNamed Bd.named Bd.method).1
  have X0 : Stand p l e ({ frames := 2, cells := 1, slots := 2, locals := 28 } : Room) s m #[(.long q), (.int pn)] below meth c s₁ [] 0 0 := Stand.of_body Bd
  have e0 : s₁.heap = h0 := by rw [← hh, Bd.state]; rfl
  have N0 := Fr.nil n0
  refine goIn (ef_rm22 m q pn) ?_
  refine Go.by (S' := s₁.setTop (mkF m 1 #[.val (.long q), .second, .val (.int pn)] [(.long q)])) (fun _ kt => XS.lloadN X0.here hx rfl (hb hby d22_0) rfl  kt) ?_
  refine Go.by (S' := s₁.setTop (mkF m 2 #[.val (.long q), .second, .val (.int pn)] [(.int pn), (.long q)])) (fun _ kt => XS.iloadN X0.here hx rfl (hb hby d22_1) rfl  kt) ?_
  refine Go.by (S' := s₁.setTop (mkF m 3 #[.val (.long q), .second, .val (.int pn)] [(.long (pn.toInt64)), (.long q)])) (fun _ kt => XS.i2l X0.here hx rfl (hb hby d22_2) rfl  kt) ?_
  refine Go.by (S' := s₁.setTop (mkF m 4 #[.val (.long q), .second, .val (.int pn)] [(.long (q ||| (pn.toInt64)))])) (fun _ kt => XS.lor X0.here hx rfl (hb hby d22_3) rfl  kt) ?_
  refine Go.by (S' := s₁.setTop (mkF m 5 #[.val (.long q), .second, .val (.int pn)] [(.long (0 : Int64)), (.long (q ||| (pn.toInt64)))])) (fun _ kt => XT.lconstV X0.here hx rfl (0 : Int64) (hb hby d22_4) (by decide)  kt) ?_
  refine Go.by (S' := s₁.setTop (mkF m 6 #[.val (.long q), .second, .val (.int pn)] [(.int (XT.cmpL (q ||| (pn.toInt64)) (0 : Int64)))])) (fun _ kt => XT.lcmp X0.here hx rfl (hb hby d22_5) rfl  kt) ?_
  by_cases hc6_1 : (q ||| (pn.toInt64)) = (0 : Int64)
  · refine Go.by (S' := s₁.setTop (mkF m 9 #[.val (.long q), .second, .val (.int pn)] [])) (fun _ kt => XS.ifNo X0.here hx rfl (hb hby d22_6) rfl (XT.ll_ne_f hc6_1)  kt) ?_
    obtain ⟨T2, X2, e2, st2⟩ := getS2 X0 hx hZ hown (host := "") (Or.inl (hw _ (List.mem_of_getElem? (i := 199) rfl))) Via.refl e0 SZ (g := (mkF m 9 #[.val (.long q), .second, .val (.int pn)] [])) rfl (hb hby d22_9)
    refine Go.by (S' := T2.setTop (mkF m 12 #[.val (.long q), .second, .val (.int pn)] [(.ref tz)])) st2 ?_
    refine goRet X2 (v := some (.ref tz)) (fun h => by rw [Bd.returns] at h; cases h) Bd.notSynchronized (fun fs hr => retOut X2 hx Bd.returns rfl (Or.inr (Or.inr (Or.inr (Or.inr ⟨rfl, rfl, rfl⟩)))) (hb hby d22_12) hr) (by decide) (by decide) ?_
    rw [e2]
    obtain ⟨rfl, rfl⟩ := own_or0 hc6_1
    exact ⟨tz, rfl, N0, own_ext_refl _, E_tz, F_tz_seconds, F_tz_nanos⟩
  · refine Go.by (S' := s₁.setTop (mkF m 13 #[.val (.long q), .second, .val (.int pn)] [])) (fun _ kt => XS.ifYes X0.here hx rfl (pc0 := 6) (pc' := 13) rfl (hb hby d22_6) rfl (XT.ll_ne_t hc6_1) (by decide) (by decide)  kt) ?_
    obtain ⟨T3, h3, X3, e3, Ex3, A3, D3, -, st3⟩ := newO X0 hx hZ hown (hw _ (List.mem_of_getElem? (i := 136) rfl)) (hw _ (List.mem_of_getElem? (i := 137) rfl)) (hw _ (List.mem_of_getElem? (i := 129) rfl)) e0 (g := (mkF m 13 #[.val (.long q), .second, .val (.int pn)] [])) rfl (hb hby d22_13) (by decide) (by decide)
    obtain ⟨b, gg_b⟩ : ∃ z, z = h0.size := ⟨_, rfl⟩
    rw [← gg_b] at A3 D3 st3
    have sz_b : h0.size ≤ b := by rw [gg_b]; exact (own_ext_refl h0).1
    have g_b : n0 ≤ b := Nat.le_trans Z0 sz_b
    have EX := own_ext_trans (own_ext_refl h0) Ex3
    have E_b := A3
    have F_b_seconds : Fld Z h3 b "java/time/Duration" "seconds" "J" (.long (0 : Int64)) := D3 (Or.inr (hw _ (List.mem_of_getElem? (i := 144) rfl))) (ty := .long) (by decide)
    have F_b_nanos : Fld Z h3 b "java/time/Duration" "nanos" "I" (.int (0 : Int32)) := D3 (Or.inr (hw _ (List.mem_of_getElem? (i := 146) rfl))) (ty := .int) (by decide)
    refine Go.by (S' := T3.setTop (mkF m 16 #[.val (.long q), .second, .val (.int pn)] [(.ref b)])) st3 ?_
    refine Go.by (S' := T3.setTop (mkF m 17 #[.val (.long q), .second, .val (.int pn)] [(.ref b), (.ref b)])) (fun _ kt => XS.dup X3.here hx rfl (hb hby d22_16) rfl rfl  kt) ?_
    refine Go.by (S' := T3.setTop (mkF m 18 #[.val (.long q), .second, .val (.int pn)] [(.long q), (.ref b), (.ref b)])) (fun _ kt => XS.lloadN X3.here hx rfl (hb hby d22_17) rfl  kt) ?_
    refine Go.by (S' := T3.setTop (mkF m 19 #[.val (.long q), .second, .val (.int pn)] [(.int pn), (.long q), (.ref b), (.ref b)])) (fun _ kt => XS.iloadN X3.here hx rfl (hb hby d22_18) rfl  kt) ?_
    obtain ⟨_, _, ⟨T4, L4, k4, n4⟩, -, X4, ⟨Lc4, hQ4, l4, y4, z4⟩, st4⟩ := X3.specialBack hx (y := (⟨"java/time/Duration", "<init>", "(JI)V"⟩ : MethodName)) rfl hown (mvT hZ (hw _ (List.mem_of_getElem? (i := 138) rfl))) (mvT hZ (hw _ (List.mem_of_getElem? (i := 139) rfl))) (mvT hZ (hw _ (List.mem_of_getElem? (i := 141) rfl))) (by decide) (backOf (W := 1) (rm23 l Z a0 hw [] b q pn h3 n0 F_b_seconds F_b_nanos E_b g_b) hZ (hw _ (List.mem_of_getElem? (i := 141) rfl)) (hw _ (List.mem_of_getElem? (i := 129) rfl)) (by decide) (by decide)) (g := (mkF m 19 #[.val (.long q), .second, .val (.int pn)] [(.int pn), (.long q), (.ref b), (.ref b)])) rfl (by rw [hml]; rfl) (Steps.refl _) (a := b) (argsL := [(.long q), (.int pn)]) (rest := [(.ref b)]) (lenOf pd_15 rfl) rfl (by show 2 * 0 + _ ≤ _; exact Nat.le_of_eq rfl) (hb hby d22_19) (fun _ _ => ⟨rfl, e3, (by decide : (0 + 1) + 0 ≤ _), (by decide : (0 + 2) + 0 ≤ _)⟩)
    dsimp only [Pt.U, Pt.locs, Pt.cells, Pt.slots] at X4 l4 y4 z4 st4 hQ4
    subst l4 y4 z4
    obtain ⟨rfl, N4q, K4, E_b, F_b_seconds, F_b_nanos⟩ := hQ4
    have N4 := Fr.app N0 N4q
    have EX := own_ext_keep EX K4 (allS sz_b all0)
    refine Go.at (S' := T4.setTop (mkF m 22 #[.val (.long q), .second, .val (.int pn)] [(.ref b)])) st4 ?_
    refine goRet X4 (v := some (.ref b)) (fun h => by rw [Bd.returns] at h; cases h) Bd.notSynchronized (fun fs hr => retOut X4 hx Bd.returns rfl (Or.inr (Or.inr (Or.inr (Or.inr ⟨rfl, rfl, rfl⟩)))) (hb hby d22_22) hr) (by decide) (by decide) ?_
    exact ⟨b, rfl, N4, EX, E_b, F_b_seconds, F_b_nanos⟩
theorem ef_rm21 (m : MethodId) (x0 : Int64) : entryFrame m #[(.long x0)] 5 = mkF m 0 #[.val (.long x0), .second, .unset, .unset, .unset] [] := by first | (simp [entryFrame, mkF, argsToLocals, Value.category]; done) | rfl
theorem pn_rm21 : plainName "java/time/Duration" = true := by first | (simp [plainName, overriddenIn]; done) | decide +kernel
theorem d21_0 : decode jdk_2316_method_6_code 0 = .ok (.lload_n 0, 1) := by decide +kernel
theorem d21_1 : decode jdk_2316_method_6_code 1 = .ok (.ldc2_w 28, 3) := by decide +kernel
theorem d21_4 : decode jdk_2316_method_6_code 4 = .ok (.ldiv, 1) := by decide +kernel
theorem d21_5 : decode jdk_2316_method_6_code 5 = .ok (.lstore_n 2, 1) := by decide +kernel
theorem d21_6 : decode jdk_2316_method_6_code 6 = .ok (.lload_n 0, 1) := by decide +kernel
theorem d21_7 : decode jdk_2316_method_6_code 7 = .ok (.ldc2_w 28, 3) := by decide +kernel
theorem d21_10 : decode jdk_2316_method_6_code 10 = .ok (.lrem, 1) := by decide +kernel
theorem d21_11 : decode jdk_2316_method_6_code 11 = .ok (.l2i, 1) := by decide +kernel
theorem d21_12 : decode jdk_2316_method_6_code 12 = .ok (.istore 4, 2) := by decide +kernel
theorem d21_14 : decode jdk_2316_method_6_code 14 = .ok (.iload 4, 2) := by decide +kernel
theorem d21_16 : decode jdk_2316_method_6_code 16 = .ok (.ifCond .ge 13, 3) := by decide +kernel
theorem d21_29 : decode jdk_2316_method_6_code 29 = .ok (.lload_n 2, 1) := by decide +kernel
theorem d21_30 : decode jdk_2316_method_6_code 30 = .ok (.iload 4, 2) := by decide +kernel
theorem d21_32 : decode jdk_2316_method_6_code 32 = .ok (.ldc 30, 2) := by decide +kernel
theorem d21_34 : decode jdk_2316_method_6_code 34 = .ok (.imul, 1) := by decide +kernel
theorem d21_35 : decode jdk_2316_method_6_code 35 = .ok (.invokestatic 10, 3) := by decide +kernel
theorem d21_38 : decode jdk_2316_method_6_code 38 = .ok (.areturn, 1) := by decide +kernel
set_option maxRecDepth 65536 in
set_option maxHeartbeats 40000000 in
theorem rm21 (l : Launch) (Z : State) (a0 : Array Value) (hw : ∀ d ∈ tables_1, d.before a0 Z = true) (ws : List Jvm.Cond) (q : Int64) (tz : Addr) (h0 : Heap) (n0 : Nat) (Z0 : n0 ≤ h0.size) (SZ : Sta Z h0 "java/time/Duration" "ZERO" "Ljava/time/Duration;" (.ref tz)) (E_tz : Exa Z h0 tz "java/time/Duration") (F_tz_seconds : Fld Z h0 tz "java/time/Duration" "seconds" "J" (.long 0)) (F_tz_nanos : Fld Z h0 tz "java/time/Duration" "nanos" "I" (.int 0)) (hn : ¬ (q - (q / (1000 : Int64)) * (1000 : Int64)).toInt32 < 0) :
    MetFree l (⟨"java/time/Duration", "ofMillis", "(J)Ljava/time/Duration;"⟩ : MethodName) (head1 (Jvm.Cond.code (⟨"java/time/Duration", "ofMillis", "(J)Ljava/time/Duration;"⟩ : MethodName) jdk_2316_method_6_code 5 (some (.object "java/time/Duration")) :: ws) ({ frames := 3, cells := 1, slots := 2, locals := 42 } : Room)) (fun aa U => aa = #[(.long q)] ∧ Z.Warmed39 U.vm ∧ U.heap = h0) (fun _ _ _ _ _ => True) (fun _ U o U' => ∃ v L, o = .returned v ∧ DurQ Z (secF q) (nanF q) h0 n0 v U'.heap L ∧ FrameEnd U o U' L ({ frames := 3, cells := 1, slots := 2, locals := 42 } : Room).cells ({ frames := 3, cells := 1, slots := 2, locals := 42 } : Room).slots) := by
  refine MetFree.of_bodySF (plainFor_of_name pn_rm21) hisR ?_
  intro p e s m args below meth c s₁ Bd hml0 hP hK
  obtain ⟨rfl, hZ, hh⟩ := hP
  have hx := Bd.exec
  have hby := Bd.bytes
  have hml : c.maxLocals = 5 := hml0
  have hown : s.vm.findClass "java/time/Duration" = some m.cls := findClass_of_methodNamed Bd.named
  have hnm := (name_of_methodNamed Bd.named Bd.method).1
  have X0 : Stand p l e ({ frames := 3, cells := 1, slots := 2, locals := 42 } : Room) s m #[(.long q)] below meth c s₁ [] 0 0 := Stand.of_body Bd
  have e0 : s₁.heap = h0 := by rw [← hh, Bd.state]; rfl
  have N0 := Fr.nil n0
  refine goIn (ef_rm21 m q) ?_
  refine Go.by (S' := s₁.setTop (mkF m 1 #[.val (.long q), .second, .unset, .unset, .unset] [(.long q)])) (fun _ kt => XS.lloadN X0.here hx rfl (hb hby d21_0) rfl  kt) ?_
  refine Go.by (S' := s₁.setTop (mkF m 4 #[.val (.long q), .second, .unset, .unset, .unset] [(.long (1000 : Int64)), (.long q)])) (X0.ldc2Long hx hown (mvT hZ (hw _ (List.mem_of_getElem? (i := 131) rfl))) (g := (mkF m 1 #[.val (.long q), .second, .unset, .unset, .unset] [(.long q)])) rfl (hb hby d21_1)) ?_
  refine Go.by (S' := s₁.setTop (mkF m 5 #[.val (.long q), .second, .unset, .unset, .unset] [(.long (q / (1000 : Int64)))])) (fun _ kt => XS.ldiv X0.here hx rfl (hb hby d21_4) rfl (by decide)  kt) ?_
  refine Go.by (S' := s₁.setTop (mkF m 6 #[.val (.long q), .second, .val (.long (q / (1000 : Int64))), .second, .unset] [])) (fun _ kt => XS.lstoreN X0.here hx rfl (hb hby d21_5) rfl (l' := #[.val (.long q), .second, .val (.long (q / (1000 : Int64))), .second, .unset]) rfl  kt) ?_
  refine Go.by (S' := s₁.setTop (mkF m 7 #[.val (.long q), .second, .val (.long (q / (1000 : Int64))), .second, .unset] [(.long q)])) (fun _ kt => XS.lloadN X0.here hx rfl (hb hby d21_6) rfl  kt) ?_
  refine Go.by (S' := s₁.setTop (mkF m 10 #[.val (.long q), .second, .val (.long (q / (1000 : Int64))), .second, .unset] [(.long (1000 : Int64)), (.long q)])) (X0.ldc2Long hx hown (mvT hZ (hw _ (List.mem_of_getElem? (i := 131) rfl))) (g := (mkF m 7 #[.val (.long q), .second, .val (.long (q / (1000 : Int64))), .second, .unset] [(.long q)])) rfl (hb hby d21_7)) ?_
  refine Go.by (S' := s₁.setTop (mkF m 11 #[.val (.long q), .second, .val (.long (q / (1000 : Int64))), .second, .unset] [(.long (q - (q / (1000 : Int64)) * (1000 : Int64)))])) (fun _ kt => XS.lrem X0.here hx rfl (hb hby d21_10) rfl (by decide)  kt) ?_
  refine Go.by (S' := s₁.setTop (mkF m 12 #[.val (.long q), .second, .val (.long (q / (1000 : Int64))), .second, .unset] [(.int ((q - (q / (1000 : Int64)) * (1000 : Int64)).toInt32))])) (fun _ kt => XS.l2i X0.here hx rfl (hb hby d21_11) rfl  kt) ?_
  refine Go.by (S' := s₁.setTop (mkF m 14 #[.val (.long q), .second, .val (.long (q / (1000 : Int64))), .second, .val (.int ((q - (q / (1000 : Int64)) * (1000 : Int64)).toInt32))] [])) (fun _ kt => XS.istore X0.here hx rfl (hb hby d21_12) rfl (l' := #[.val (.long q), .second, .val (.long (q / (1000 : Int64))), .second, .val (.int ((q - (q / (1000 : Int64)) * (1000 : Int64)).toInt32))]) rfl  kt) ?_
  refine Go.by (S' := s₁.setTop (mkF m 16 #[.val (.long q), .second, .val (.long (q / (1000 : Int64))), .second, .val (.int ((q - (q / (1000 : Int64)) * (1000 : Int64)).toInt32))] [(.int ((q - (q / (1000 : Int64)) * (1000 : Int64)).toInt32))])) (fun _ kt => XS.iload X0.here hx rfl (hb hby d21_14) rfl  kt) ?_
  refine Go.by (S' := s₁.setTop (mkF m 29 #[.val (.long q), .second, .val (.long (q / (1000 : Int64))), .second, .val (.int ((q - (q / (1000 : Int64)) * (1000 : Int64)).toInt32))] [])) (fun _ kt => XS.ifYes X0.here hx rfl (pc0 := 16) (pc' := 29) rfl (hb hby d21_16) rfl (XT.i0_ge_t hn) (by decide) (by decide)  kt) ?_
  refine Go.by (S' := s₁.setTop (mkF m 30 #[.val (.long q), .second, .val (.long (q / (1000 : Int64))), .second, .val (.int ((q - (q / (1000 : Int64)) * (1000 : Int64)).toInt32))] [(.long (q / (1000 : Int64)))])) (fun _ kt => XS.lloadN X0.here hx rfl (hb hby d21_29) rfl  kt) ?_
  refine Go.by (S' := s₁.setTop (mkF m 32 #[.val (.long q), .second, .val (.long (q / (1000 : Int64))), .second, .val (.int ((q - (q / (1000 : Int64)) * (1000 : Int64)).toInt32))] [(.int ((q - (q / (1000 : Int64)) * (1000 : Int64)).toInt32)), (.long (q / (1000 : Int64)))])) (fun _ kt => XS.iload X0.here hx rfl (hb hby d21_30) rfl  kt) ?_
  refine Go.by (S' := s₁.setTop (mkF m 34 #[.val (.long q), .second, .val (.long (q / (1000 : Int64))), .second, .val (.int ((q - (q / (1000 : Int64)) * (1000 : Int64)).toInt32))] [(.int (1000000 : Int32)), (.int ((q - (q / (1000 : Int64)) * (1000 : Int64)).toInt32)), (.long (q / (1000 : Int64)))])) (X0.ldcInt hx hown (mvT hZ (hw _ (List.mem_of_getElem? (i := 132) rfl))) (g := (mkF m 32 #[.val (.long q), .second, .val (.long (q / (1000 : Int64))), .second, .val (.int ((q - (q / (1000 : Int64)) * (1000 : Int64)).toInt32))] [(.int ((q - (q / (1000 : Int64)) * (1000 : Int64)).toInt32)), (.long (q / (1000 : Int64)))])) rfl (hb hby d21_32)) ?_
  refine Go.by (S' := s₁.setTop (mkF m 35 #[.val (.long q), .second, .val (.long (q / (1000 : Int64))), .second, .val (.int ((q - (q / (1000 : Int64)) * (1000 : Int64)).toInt32))] [(.int (((q - (q / (1000 : Int64)) * (1000 : Int64)).toInt32) * (1000000 : Int32))), (.long (q / (1000 : Int64)))])) (fun _ kt => XS.imul X0.here hx rfl (hb hby d21_34) rfl  kt) ?_
  obtain ⟨_, _, ⟨T1, L1, k1, n1⟩, -, X1, ⟨Lc1, hQ1, l1, y1, z1⟩, st1⟩ := Jvm.LawKit.callS X0 hx (y := (⟨"java/time/Duration", "create", "(JI)Ljava/time/Duration;"⟩ : MethodName)) hown (mvT hZ (hw _ (List.mem_of_getElem? (i := 133) rfl))) (mvT hZ (hw _ (List.mem_of_getElem? (i := 134) rfl))) (mvT hZ (hw _ (List.mem_of_getElem? (i := 129) rfl))) (mvT hZ (hw _ (List.mem_of_getElem? (i := 135) rfl))) (by decide) (backOf (W := 0) (rm22 l Z a0 hw [] (secF q) (nanF q) tz h0 n0 Z0 SZ E_tz F_tz_seconds F_tz_nanos) hZ (hw _ (List.mem_of_getElem? (i := 135) rfl)) (hw _ (List.mem_of_getElem? (i := 129) rfl)) (by decide) (by decide)) (g := (mkF m 35 #[.val (.long q), .second, .val (.long (q / (1000 : Int64))), .second, .val (.int ((q - (q / (1000 : Int64)) * (1000 : Int64)).toInt32))] [(.int (((q - (q / (1000 : Int64)) * (1000 : Int64)).toInt32) * (1000000 : Int32))), (.long (q / (1000 : Int64)))])) rfl (by rw [hml]; rfl) (argsL := [(.long (q / (1000 : Int64))), (.int (((q - (q / (1000 : Int64)) * (1000 : Int64)).toInt32) * (1000000 : Int32)))]) (rest := []) (lenOf pd_14 rfl) rfl (by show 2 * 0 + _ ≤ _; exact Nat.le_of_eq rfl) (hb hby d21_35) (fun _ _ => ⟨rfl, e0, (by decide : 0 + 1 ≤ _), (by decide : 0 + 2 ≤ _)⟩)
  dsimp only [Pt.U, Pt.locs, Pt.cells, Pt.slots] at X1 l1 y1 z1 st1 hQ1
  subst l1 y1 z1
  obtain ⟨d, rfl, N1q, Ex1, E_d, F_d_seconds, F_d_nanos⟩ := hQ1
  have N1 := Fr.app N0 N1q
  refine Go.by (S' := T1.setTop (mkF m 38 #[.val (.long q), .second, .val (.long (q / (1000 : Int64))), .second, .val (.int ((q - (q / (1000 : Int64)) * (1000 : Int64)).toInt32))] [(.ref d)])) st1 ?_
  refine goRet X1 (v := some (.ref d)) (fun h => by rw [Bd.returns] at h; cases h) Bd.notSynchronized (fun fs hr => retOut X1 hx Bd.returns rfl (Or.inr (Or.inr (Or.inr (Or.inr ⟨rfl, rfl, rfl⟩)))) (hb hby d21_38) hr) (by decide) (by decide) ?_
  exact ⟨d, rfl, N1, Ex1, E_d, F_d_seconds, F_d_nanos⟩
theorem ef_rm26 (m : MethodId) (x0 : Addr) (x1 : Addr) : entryFrame m #[(.ref x0), (.ref x1)] 2 = mkF m 0 #[.val (.ref x0), .val (.ref x1)] [] := by first | (simp [entryFrame, mkF, argsToLocals, Value.category]; done) | rfl
theorem pn_rm26 : plainName "java/util/Objects" = true := by first | (simp [plainName, overriddenIn]; done) | decide +kernel
theorem d26_0 : decode jdk_31_method_11_code 0 = .ok (.aload_n 0, 1) := by decide +kernel
theorem d26_1 : decode jdk_31_method_11_code 1 = .ok (.ifnonnull 12, 3) := by decide +kernel
theorem d26_13 : decode jdk_31_method_11_code 13 = .ok (.aload_n 0, 1) := by decide +kernel
theorem d26_14 : decode jdk_31_method_11_code 14 = .ok (.areturn, 1) := by decide +kernel
set_option maxRecDepth 65536 in
set_option maxHeartbeats 40000000 in
theorem rm26 (l : Launch) (Z : State) (a0 : Array Value) (hw : ∀ d ∈ tables_1, d.before a0 Z = true) (ws : List Jvm.Cond) (a : Addr) (b : Addr)  (h0 : Heap) (n0 : Nat) :
    MetFree l (⟨"java/util/Objects", "requireNonNull", "(Ljava/lang/Object;Ljava/lang/String;)Ljava/lang/Object;"⟩ : MethodName) (head1 (Jvm.Cond.code (⟨"java/util/Objects", "requireNonNull", "(Ljava/lang/Object;Ljava/lang/String;)Ljava/lang/Object;"⟩ : MethodName) jdk_31_method_11_code 2 (some (.object "java/lang/Object")) :: ws) ({ frames := 0, cells := 0, slots := 0, locals := 0 } : Room)) (fun aa U => aa = #[(.ref a), (.ref b)] ∧ Z.Warmed39 U.vm ∧ U.heap = h0) (fun _ _ _ _ _ => True) (fun _ U o U' => ∃ v L, o = .returned v ∧ PureQ (some (.ref a)) h0 n0 v U'.heap L ∧ FrameEnd U o U' L ({ frames := 0, cells := 0, slots := 0, locals := 0 } : Room).cells ({ frames := 0, cells := 0, slots := 0, locals := 0 } : Room).slots) := by
  refine MetFree.of_bodySF (plainFor_of_name pn_rm26) hisR ?_
  intro p e s m args below meth c s₁ Bd hml0 hP hK
  obtain ⟨rfl, hZ, hh⟩ := hP
  have hx := Bd.exec
  have hby := Bd.bytes
  have hml : c.maxLocals = 2 := hml0
  have hown : s.vm.findClass "java/util/Objects" = some m.cls := findClass_of_methodNamed Bd.named
  have hnm := (name_of_methodNamed Bd.named Bd.method).1
  have X0 : Stand p l e ({ frames := 0, cells := 0, slots := 0, locals := 0 } : Room) s m #[(.ref a), (.ref b)] below meth c s₁ [] 0 0 := Stand.of_body Bd
  have e0 : s₁.heap = h0 := by rw [← hh, Bd.state]; rfl
  have N0 := Fr.nil n0
  refine goIn (ef_rm26 m a b) ?_
  refine Go.by (S' := s₁.setTop (mkF m 1 #[.val (.ref a), .val (.ref b)] [(.ref a)])) (fun _ kt => XS.aloadN X0.here hx rfl (hb hby d26_0) rfl rfl  kt) ?_
  refine Go.by (S' := s₁.setTop (mkF m 13 #[.val (.ref a), .val (.ref b)] [])) (fun _ kt => XS.ifnonnullYes X0.here hx rfl (pc0 := 1) (pc' := 13) rfl (hb hby d26_1) rfl (by decide) (by decide)  kt) ?_
  refine Go.by (S' := s₁.setTop (mkF m 14 #[.val (.ref a), .val (.ref b)] [(.ref a)])) (fun _ kt => XS.aloadN X0.here hx rfl (hb hby d26_13) rfl rfl  kt) ?_
  refine goRet X0 (v := some (.ref a)) (fun h => by rw [Bd.returns] at h; cases h) Bd.notSynchronized (fun fs hr => retOut X0 hx Bd.returns rfl (Or.inr (Or.inr (Or.inr (Or.inr ⟨rfl, rfl, rfl⟩)))) (hb hby d26_14) hr) (by decide) (by decide) ?_
  exact ⟨rfl, N0, e0⟩
theorem ef_rm27 (m : MethodId) (x0 : Addr) : entryFrame m #[(.ref x0)] 1 = mkF m 0 #[.val (.ref x0)] [] := by first | (simp [entryFrame, mkF, argsToLocals, Value.category]; done) | rfl
theorem pn_rm27 : plainName "java/time/Duration" = true := by first | (simp [plainName, overriddenIn]; done) | decide +kernel
theorem d27_0 : decode jdk_2316_method_22_code 0 = .ok (.aload_n 0, 1) := by decide +kernel
theorem d27_1 : decode jdk_2316_method_22_code 1 = .ok (.getfield 221, 3) := by decide +kernel
theorem d27_4 : decode jdk_2316_method_22_code 4 = .ok (.lconst 0, 1) := by decide +kernel
theorem d27_5 : decode jdk_2316_method_22_code 5 = .ok (.lcmp, 1) := by decide +kernel
theorem d27_6 : decode jdk_2316_method_22_code 6 = .ok (.ifCond .ge 7, 3) := by decide +kernel
theorem d27_13 : decode jdk_2316_method_22_code 13 = .ok (.iconst 0, 1) := by decide +kernel
theorem d27_14 : decode jdk_2316_method_22_code 14 = .ok (.ireturn, 1) := by decide +kernel
set_option maxRecDepth 65536 in
set_option maxHeartbeats 40000000 in
theorem rm27 (l : Launch) (Z : State) (a0 : Array Value) (hw : ∀ d ∈ tables_1, d.before a0 Z = true) (ws : List Jvm.Cond) (a : Addr) (sc : Int64) (h0 : Heap) (n0 : Nat) (F_a_seconds : Fld Z h0 a "java/time/Duration" "seconds" "J" (.long sc)) (hs : ¬ sc < 0) :
    MetFree l (⟨"java/time/Duration", "isNegative", "()Z"⟩ : MethodName) (head1 (Jvm.Cond.code (⟨"java/time/Duration", "isNegative", "()Z"⟩ : MethodName) jdk_2316_method_22_code 1 (some .boolean) :: ws) ({ frames := 0, cells := 0, slots := 0, locals := 0 } : Room)) (fun aa U => aa = #[(.ref a)] ∧ Z.Warmed39 U.vm ∧ U.heap = h0) (fun _ _ _ _ _ => True) (fun _ U o U' => ∃ v L, o = .returned v ∧ PureQ (some (.int 0)) h0 n0 v U'.heap L ∧ FrameEnd U o U' L ({ frames := 0, cells := 0, slots := 0, locals := 0 } : Room).cells ({ frames := 0, cells := 0, slots := 0, locals := 0 } : Room).slots) := by
  refine MetFree.of_bodySF (plainFor_of_name pn_rm27) hisR ?_
  intro p e s m args below meth c s₁ Bd hml0 hP hK
  obtain ⟨rfl, hZ, hh⟩ := hP
  have hx := Bd.exec
  have hby := Bd.bytes
  have hml : c.maxLocals = 1 := hml0
  have hown : s.vm.findClass "java/time/Duration" = some m.cls := findClass_of_methodNamed Bd.named
  have hnm := (name_of_methodNamed Bd.named Bd.method).1
  have X0 : Stand p l e ({ frames := 0, cells := 0, slots := 0, locals := 0 } : Room) s m #[(.ref a)] below meth c s₁ [] 0 0 := Stand.of_body Bd
  have e0 : s₁.heap = h0 := by rw [← hh, Bd.state]; rfl
  have N0 := Fr.nil n0
  refine goIn (ef_rm27 m a) ?_
  refine Go.by (S' := s₁.setTop (mkF m 1 #[.val (.ref a)] [(.ref a)])) (fun _ kt => XS.aloadN X0.here hx rfl (hb hby d27_0) rfl rfl  kt) ?_
  obtain ⟨T1, X1, e1, st1⟩ := getF X0 hx hZ hown (host := "") (Or.inl (hw _ (List.mem_of_getElem? (i := 143) rfl))) Via.refl e0 F_a_seconds (g := (mkF m 1 #[.val (.ref a)] [(.ref a)])) rfl rfl (hb hby d27_1)
  refine Go.by (S' := T1.setTop (mkF m 4 #[.val (.ref a)] [(.long sc)])) st1 ?_
  refine Go.by (S' := T1.setTop (mkF m 5 #[.val (.ref a)] [(.long (0 : Int64)), (.long sc)])) (fun _ kt => XT.lconstV X1.here hx rfl (0 : Int64) (hb hby d27_4) (by decide)  kt) ?_
  refine Go.by (S' := T1.setTop (mkF m 6 #[.val (.ref a)] [(.int (XT.cmpL sc (0 : Int64)))])) (fun _ kt => XT.lcmp X1.here hx rfl (hb hby d27_5) rfl  kt) ?_
  refine Go.by (S' := T1.setTop (mkF m 13 #[.val (.ref a)] [])) (fun _ kt => XS.ifYes X1.here hx rfl (pc0 := 6) (pc' := 13) rfl (hb hby d27_6) rfl (XT.ll_ge_t hs) (by decide) (by decide)  kt) ?_
  refine Go.by (S' := T1.setTop (mkF m 14 #[.val (.ref a)] [(.int (0 : Int32))])) (fun _ kt => XT.iconstV X1.here hx rfl (0 : Int32) (hb hby d27_13) (by decide)  kt) ?_
  refine goRet X1 (v := some (.int (nar .boolean (0 : Int32)))) (fun h => by rw [Bd.returns] at h; cases h) Bd.notSynchronized (fun fs hr => retN X1 hx (t := .boolean) Bd.returns (by simp) (hb hby d27_14) hr) (by decide) (by decide) ?_
  exact ⟨by simp [own_n0], N0, e1⟩
theorem ef_rm32 (m : MethodId) (x0 : Addr) : entryFrame m #[(.ref x0)] 1 = mkF m 0 #[.val (.ref x0)] [] := by first | (simp [entryFrame, mkF, argsToLocals, Value.category]; done) | rfl
theorem pn_rm32 : plainName "java/time/Duration" = true := by first | (simp [plainName, overriddenIn]; done) | decide +kernel
theorem d32_0 : decode jdk_2316_method_21_code 0 = .ok (.aload_n 0, 1) := by decide +kernel
theorem d32_1 : decode jdk_2316_method_21_code 1 = .ok (.getfield 221, 3) := by decide +kernel
theorem d32_4 : decode jdk_2316_method_21_code 4 = .ok (.aload_n 0, 1) := by decide +kernel
theorem d32_5 : decode jdk_2316_method_21_code 5 = .ok (.getfield 224, 3) := by decide +kernel
theorem d32_8 : decode jdk_2316_method_21_code 8 = .ok (.i2l, 1) := by decide +kernel
theorem d32_9 : decode jdk_2316_method_21_code 9 = .ok (.lor, 1) := by decide +kernel
theorem d32_10 : decode jdk_2316_method_21_code 10 = .ok (.lconst 0, 1) := by decide +kernel
theorem d32_11 : decode jdk_2316_method_21_code 11 = .ok (.lcmp, 1) := by decide +kernel
theorem d32_12 : decode jdk_2316_method_21_code 12 = .ok (.ifCond .ne 7, 3) := by decide +kernel
theorem d32_15 : decode jdk_2316_method_21_code 15 = .ok (.iconst 1, 1) := by decide +kernel
theorem d32_16 : decode jdk_2316_method_21_code 16 = .ok (.goto 4, 3) := by decide +kernel
theorem d32_20 : decode jdk_2316_method_21_code 20 = .ok (.ireturn, 1) := by decide +kernel
set_option maxRecDepth 65536 in
set_option maxHeartbeats 40000000 in
theorem rm32 (l : Launch) (Z : State) (a0 : Array Value) (hw : ∀ d ∈ tables_1, d.before a0 Z = true) (ws : List Jvm.Cond) (a : Addr)  (h0 : Heap) (n0 : Nat) (F_a_seconds : Fld Z h0 a "java/time/Duration" "seconds" "J" (.long 0)) (F_a_nanos : Fld Z h0 a "java/time/Duration" "nanos" "I" (.int 0)) :
    MetFree l (⟨"java/time/Duration", "isZero", "()Z"⟩ : MethodName) (head1 (Jvm.Cond.code (⟨"java/time/Duration", "isZero", "()Z"⟩ : MethodName) jdk_2316_method_21_code 1 (some .boolean) :: ws) ({ frames := 0, cells := 0, slots := 0, locals := 0 } : Room)) (fun aa U => aa = #[(.ref a)] ∧ Z.Warmed39 U.vm ∧ U.heap = h0) (fun _ _ _ _ _ => True) (fun _ U o U' => ∃ v L, o = .returned v ∧ PureQ (some (.int 1)) h0 n0 v U'.heap L ∧ FrameEnd U o U' L ({ frames := 0, cells := 0, slots := 0, locals := 0 } : Room).cells ({ frames := 0, cells := 0, slots := 0, locals := 0 } : Room).slots) := by
  refine MetFree.of_bodySF (plainFor_of_name pn_rm32) hisR ?_
  intro p e s m args below meth c s₁ Bd hml0 hP hK
  obtain ⟨rfl, hZ, hh⟩ := hP
  have hx := Bd.exec
  have hby := Bd.bytes
  have hml : c.maxLocals = 1 := hml0
  have hown : s.vm.findClass "java/time/Duration" = some m.cls := findClass_of_methodNamed Bd.named
  have hnm := (name_of_methodNamed Bd.named Bd.method).1
  have X0 : Stand p l e ({ frames := 0, cells := 0, slots := 0, locals := 0 } : Room) s m #[(.ref a)] below meth c s₁ [] 0 0 := Stand.of_body Bd
  have e0 : s₁.heap = h0 := by rw [← hh, Bd.state]; rfl
  have N0 := Fr.nil n0
  refine goIn (ef_rm32 m a) ?_
  refine Go.by (S' := s₁.setTop (mkF m 1 #[.val (.ref a)] [(.ref a)])) (fun _ kt => XS.aloadN X0.here hx rfl (hb hby d32_0) rfl rfl  kt) ?_
  obtain ⟨T1, X1, e1, st1⟩ := getF X0 hx hZ hown (host := "") (Or.inl (hw _ (List.mem_of_getElem? (i := 143) rfl))) Via.refl e0 F_a_seconds (g := (mkF m 1 #[.val (.ref a)] [(.ref a)])) rfl rfl (hb hby d32_1)
  refine Go.by (S' := T1.setTop (mkF m 4 #[.val (.ref a)] [(.long (0 : Int64))])) st1 ?_
  refine Go.by (S' := T1.setTop (mkF m 5 #[.val (.ref a)] [(.ref a), (.long (0 : Int64))])) (fun _ kt => XS.aloadN X1.here hx rfl (hb hby d32_4) rfl rfl  kt) ?_
  obtain ⟨T2, X2, e2, st2⟩ := getF X1 hx hZ hown (host := "") (Or.inl (hw _ (List.mem_of_getElem? (i := 145) rfl))) Via.refl e1 F_a_nanos (g := (mkF m 5 #[.val (.ref a)] [(.ref a), (.long (0 : Int64))])) rfl rfl (hb hby d32_5)
  refine Go.by (S' := T2.setTop (mkF m 8 #[.val (.ref a)] [(.int (0 : Int32)), (.long (0 : Int64))])) st2 ?_
  refine Go.by (S' := T2.setTop (mkF m 9 #[.val (.ref a)] [(.long ((0 : Int32).toInt64)), (.long (0 : Int64))])) (fun _ kt => XS.i2l X2.here hx rfl (hb hby d32_8) rfl  kt) ?_
  refine Go.by (S' := T2.setTop (mkF m 10 #[.val (.ref a)] [(.long ((0 : Int64) ||| ((0 : Int32).toInt64)))])) (fun _ kt => XS.lor X2.here hx rfl (hb hby d32_9) rfl  kt) ?_
  refine Go.by (S' := T2.setTop (mkF m 11 #[.val (.ref a)] [(.long (0 : Int64)), (.long ((0 : Int64) ||| ((0 : Int32).toInt64)))])) (fun _ kt => XT.lconstV X2.here hx rfl (0 : Int64) (hb hby d32_10) (by decide)  kt) ?_
  refine Go.by (S' := T2.setTop (mkF m 12 #[.val (.ref a)] [(.int (XT.cmpL ((0 : Int64) ||| ((0 : Int32).toInt64)) (0 : Int64)))])) (fun _ kt => XT.lcmp X2.here hx rfl (hb hby d32_11) rfl  kt) ?_
  refine Go.by (S' := T2.setTop (mkF m 15 #[.val (.ref a)] [])) (fun _ kt => XS.ifNo X2.here hx rfl (hb hby d32_12) rfl (XT.ll_ne_f (by decide))  kt) ?_
  refine Go.by (S' := T2.setTop (mkF m 16 #[.val (.ref a)] [(.int (1 : Int32))])) (fun _ kt => XT.iconstV X2.here hx rfl (1 : Int32) (hb hby d32_15) (by decide)  kt) ?_
  refine Go.by (S' := T2.setTop (mkF m 20 #[.val (.ref a)] [(.int (1 : Int32))])) (fun _ kt => XS.goto X2.here hx rfl (pc0 := 16) (pc' := 20) rfl (hb hby d32_16) (by decide) (by decide)  kt) ?_
  refine goRet X2 (v := some (.int (nar .boolean (1 : Int32)))) (fun h => by rw [Bd.returns] at h; cases h) Bd.notSynchronized (fun fs hr => retN X2 hx (t := .boolean) Bd.returns (by simp) (hb hby d32_20) hr) (by decide) (by decide) ?_
  exact ⟨by simp [own_n1], N0, e2⟩
theorem ef_rm28 (m : MethodId) (x0 : Addr) : entryFrame m #[(.ref x0)] 1 = mkF m 0 #[.val (.ref x0)] [] := by first | (simp [entryFrame, mkF, argsToLocals, Value.category]; done) | rfl
theorem pn_rm28 : plainName "com/example/keys_to_patterns/keystopatterns/limit/Decision" = true := by first | (simp [plainName, overriddenIn]; done) | decide +kernel
theorem d28_0 : decode prog_2_method_6_code 0 = .ok (.aload_n 0, 1) := by decide +kernel
theorem d28_1 : decode prog_2_method_6_code 1 = .ok (.getfield 42, 3) := by decide +kernel
theorem d28_4 : decode prog_2_method_6_code 4 = .ok (.ireturn, 1) := by decide +kernel
set_option maxRecDepth 65536 in
set_option maxHeartbeats 40000000 in
theorem rm28 (l : Launch) (Z : State) (a0 : Array Value) (hw : ∀ d ∈ tables_1, d.before a0 Z = true) (ws : List Jvm.Cond) (a : Addr) (z : Int32) (h0 : Heap) (n0 : Nat) (F_a_allowed : Fld Z h0 a "com/example/keys_to_patterns/keystopatterns/limit/Decision" "allowed" "Z" (.int z)) :
    MetFree l (⟨"com/example/keys_to_patterns/keystopatterns/limit/Decision", "allowed", "()Z"⟩ : MethodName) (head1 (Jvm.Cond.code (⟨"com/example/keys_to_patterns/keystopatterns/limit/Decision", "allowed", "()Z"⟩ : MethodName) prog_2_method_6_code 1 (some .boolean) :: ws) ({ frames := 0, cells := 0, slots := 0, locals := 0 } : Room)) (fun aa U => aa = #[(.ref a)] ∧ Z.Warmed39 U.vm ∧ U.heap = h0) (fun _ _ _ _ _ => True) (fun _ U o U' => ∃ v L, o = .returned v ∧ PureQ (some (.int (nar .boolean z))) h0 n0 v U'.heap L ∧ FrameEnd U o U' L ({ frames := 0, cells := 0, slots := 0, locals := 0 } : Room).cells ({ frames := 0, cells := 0, slots := 0, locals := 0 } : Room).slots) := by
  refine MetFree.of_bodySF (plainFor_of_name pn_rm28) hisR ?_
  intro p e s m args below meth c s₁ Bd hml0 hP hK
  obtain ⟨rfl, hZ, hh⟩ := hP
  have hx := Bd.exec
  have hby := Bd.bytes
  have hml : c.maxLocals = 1 := hml0
  have hown : s.vm.findClass "com/example/keys_to_patterns/keystopatterns/limit/Decision" = some m.cls := findClass_of_methodNamed Bd.named
  have hnm := (name_of_methodNamed Bd.named Bd.method).1
  have X0 : Stand p l e ({ frames := 0, cells := 0, slots := 0, locals := 0 } : Room) s m #[(.ref a)] below meth c s₁ [] 0 0 := Stand.of_body Bd
  have e0 : s₁.heap = h0 := by rw [← hh, Bd.state]; rfl
  have N0 := Fr.nil n0
  refine goIn (ef_rm28 m a) ?_
  refine Go.by (S' := s₁.setTop (mkF m 1 #[.val (.ref a)] [(.ref a)])) (fun _ kt => XS.aloadN X0.here hx rfl (hb hby d28_0) rfl rfl  kt) ?_
  obtain ⟨T1, X1, e1, st1⟩ := getF X0 hx hZ hown (host := "") (Or.inl (hw _ (List.mem_of_getElem? (i := 172) rfl))) Via.refl e0 F_a_allowed (g := (mkF m 1 #[.val (.ref a)] [(.ref a)])) rfl rfl (hb hby d28_1)
  refine Go.by (S' := T1.setTop (mkF m 4 #[.val (.ref a)] [(.int z)])) st1 ?_
  refine goRet X1 (v := some (.int (nar .boolean z))) (fun h => by rw [Bd.returns] at h; cases h) Bd.notSynchronized (fun fs hr => retN X1 hx (t := .boolean) Bd.returns (by simp) (hb hby d28_4) hr) (by decide) (by decide) ?_
  exact ⟨rfl, N0, e1⟩
theorem ef_rm29 (m : MethodId) (x0 : Addr) : entryFrame m #[(.ref x0)] 1 = mkF m 0 #[.val (.ref x0)] [] := by first | (simp [entryFrame, mkF, argsToLocals, Value.category]; done) | rfl
theorem pn_rm29 : plainName "com/example/keys_to_patterns/keystopatterns/limit/Decision" = true := by first | (simp [plainName, overriddenIn]; done) | decide +kernel
theorem d29_0 : decode prog_2_method_7_code 0 = .ok (.aload_n 0, 1) := by decide +kernel
theorem d29_1 : decode prog_2_method_7_code 1 = .ok (.getfield 48, 3) := by decide +kernel
theorem d29_4 : decode prog_2_method_7_code 4 = .ok (.ireturn, 1) := by decide +kernel
set_option maxRecDepth 65536 in
set_option maxHeartbeats 40000000 in
theorem rm29 (l : Launch) (Z : State) (a0 : Array Value) (hw : ∀ d ∈ tables_1, d.before a0 Z = true) (ws : List Jvm.Cond) (a : Addr) (p_ : Int32) (h0 : Heap) (n0 : Nat) (F_a_remaining : Fld Z h0 a "com/example/keys_to_patterns/keystopatterns/limit/Decision" "remaining" "I" (.int p_)) :
    MetFree l (⟨"com/example/keys_to_patterns/keystopatterns/limit/Decision", "remaining", "()I"⟩ : MethodName) (head1 (Jvm.Cond.code (⟨"com/example/keys_to_patterns/keystopatterns/limit/Decision", "remaining", "()I"⟩ : MethodName) prog_2_method_7_code 1 (some .int) :: ws) ({ frames := 0, cells := 0, slots := 0, locals := 0 } : Room)) (fun aa U => aa = #[(.ref a)] ∧ Z.Warmed39 U.vm ∧ U.heap = h0) (fun _ _ _ _ _ => True) (fun _ U o U' => ∃ v L, o = .returned v ∧ PureQ (some (.int p_)) h0 n0 v U'.heap L ∧ FrameEnd U o U' L ({ frames := 0, cells := 0, slots := 0, locals := 0 } : Room).cells ({ frames := 0, cells := 0, slots := 0, locals := 0 } : Room).slots) := by
  refine MetFree.of_bodySF (plainFor_of_name pn_rm29) hisR ?_
  intro p e s m args below meth c s₁ Bd hml0 hP hK
  obtain ⟨rfl, hZ, hh⟩ := hP
  have hx := Bd.exec
  have hby := Bd.bytes
  have hml : c.maxLocals = 1 := hml0
  have hown : s.vm.findClass "com/example/keys_to_patterns/keystopatterns/limit/Decision" = some m.cls := findClass_of_methodNamed Bd.named
  have hnm := (name_of_methodNamed Bd.named Bd.method).1
  have X0 : Stand p l e ({ frames := 0, cells := 0, slots := 0, locals := 0 } : Room) s m #[(.ref a)] below meth c s₁ [] 0 0 := Stand.of_body Bd
  have e0 : s₁.heap = h0 := by rw [← hh, Bd.state]; rfl
  have N0 := Fr.nil n0
  refine goIn (ef_rm29 m a) ?_
  refine Go.by (S' := s₁.setTop (mkF m 1 #[.val (.ref a)] [(.ref a)])) (fun _ kt => XS.aloadN X0.here hx rfl (hb hby d29_0) rfl rfl  kt) ?_
  obtain ⟨T1, X1, e1, st1⟩ := getF X0 hx hZ hown (host := "") (Or.inl (hw _ (List.mem_of_getElem? (i := 174) rfl))) Via.refl e0 F_a_remaining (g := (mkF m 1 #[.val (.ref a)] [(.ref a)])) rfl rfl (hb hby d29_1)
  refine Go.by (S' := T1.setTop (mkF m 4 #[.val (.ref a)] [(.int p_)])) st1 ?_
  refine goRet X1 (v := some (.int p_)) (fun h => by rw [Bd.returns] at h; cases h) Bd.notSynchronized (fun fs hr => retOut X1 hx Bd.returns rfl (Or.inl ⟨rfl, Or.inl rfl, _, rfl⟩) (hb hby d29_4) hr) (by decide) (by decide) ?_
  exact ⟨rfl, N0, e1⟩
theorem ef_rm30 (m : MethodId) (x0 : Addr) : entryFrame m #[(.ref x0)] 1 = mkF m 0 #[.val (.ref x0)] [] := by first | (simp [entryFrame, mkF, argsToLocals, Value.category]; done) | rfl
theorem pn_rm30 : plainName "com/example/keys_to_patterns/keystopatterns/limit/Decision" = true := by first | (simp [plainName, overriddenIn]; done) | decide +kernel
theorem d30_0 : decode prog_2_method_8_code 0 = .ok (.aload_n 0, 1) := by decide +kernel
theorem d30_1 : decode prog_2_method_8_code 1 = .ok (.getfield 52, 3) := by decide +kernel
theorem d30_4 : decode prog_2_method_8_code 4 = .ok (.areturn, 1) := by decide +kernel
set_option maxRecDepth 65536 in
set_option maxHeartbeats 40000000 in
theorem rm30 (l : Launch) (Z : State) (a0 : Array Value) (hw : ∀ d ∈ tables_1, d.before a0 Z = true) (ws : List Jvm.Cond) (a : Addr) (d : Addr) (h0 : Heap) (n0 : Nat) (F_a_retryAfter : Fld Z h0 a "com/example/keys_to_patterns/keystopatterns/limit/Decision" "retryAfter" "Ljava/time/Duration;" (.ref d)) :
    MetFree l (⟨"com/example/keys_to_patterns/keystopatterns/limit/Decision", "retryAfter", "()Ljava/time/Duration;"⟩ : MethodName) (head1 (Jvm.Cond.code (⟨"com/example/keys_to_patterns/keystopatterns/limit/Decision", "retryAfter", "()Ljava/time/Duration;"⟩ : MethodName) prog_2_method_8_code 1 (some (.object "java/time/Duration")) :: ws) ({ frames := 0, cells := 0, slots := 0, locals := 0 } : Room)) (fun aa U => aa = #[(.ref a)] ∧ Z.Warmed39 U.vm ∧ U.heap = h0) (fun _ _ _ _ _ => True) (fun _ U o U' => ∃ v L, o = .returned v ∧ PureQ (some (.ref d)) h0 n0 v U'.heap L ∧ FrameEnd U o U' L ({ frames := 0, cells := 0, slots := 0, locals := 0 } : Room).cells ({ frames := 0, cells := 0, slots := 0, locals := 0 } : Room).slots) := by
  refine MetFree.of_bodySF (plainFor_of_name pn_rm30) hisR ?_
  intro p e s m args below meth c s₁ Bd hml0 hP hK
  obtain ⟨rfl, hZ, hh⟩ := hP
  have hx := Bd.exec
  have hby := Bd.bytes
  have hml : c.maxLocals = 1 := hml0
  have hown : s.vm.findClass "com/example/keys_to_patterns/keystopatterns/limit/Decision" = some m.cls := findClass_of_methodNamed Bd.named
  have hnm := (name_of_methodNamed Bd.named Bd.method).1
  have X0 : Stand p l e ({ frames := 0, cells := 0, slots := 0, locals := 0 } : Room) s m #[(.ref a)] below meth c s₁ [] 0 0 := Stand.of_body Bd
  have e0 : s₁.heap = h0 := by rw [← hh, Bd.state]; rfl
  have N0 := Fr.nil n0
  refine goIn (ef_rm30 m a) ?_
  refine Go.by (S' := s₁.setTop (mkF m 1 #[.val (.ref a)] [(.ref a)])) (fun _ kt => XS.aloadN X0.here hx rfl (hb hby d30_0) rfl rfl  kt) ?_
  obtain ⟨T1, X1, e1, st1⟩ := getF X0 hx hZ hown (host := "") (Or.inl (hw _ (List.mem_of_getElem? (i := 176) rfl))) Via.refl e0 F_a_retryAfter (g := (mkF m 1 #[.val (.ref a)] [(.ref a)])) rfl rfl (hb hby d30_1)
  refine Go.by (S' := T1.setTop (mkF m 4 #[.val (.ref a)] [(.ref d)])) st1 ?_
  refine goRet X1 (v := some (.ref d)) (fun h => by rw [Bd.returns] at h; cases h) Bd.notSynchronized (fun fs hr => retOut X1 hx Bd.returns rfl (Or.inr (Or.inr (Or.inr (Or.inr ⟨rfl, rfl, rfl⟩)))) (hb hby d30_4) hr) (by decide) (by decide) ?_
  exact ⟨rfl, N0, e1⟩
theorem ef_rm31 (m : MethodId) (x0 : Addr) (x1 : Addr) : entryFrame m #[(.ref x0), (.ref x1)] 3 = mkF m 0 #[.val (.ref x0), .val (.ref x1), .unset] [] := by first | (simp [entryFrame, mkF, argsToLocals, Value.category]; done) | rfl
theorem pn_rm31 : plainName "java/time/Duration" = true := by first | (simp [plainName, overriddenIn]; done) | decide +kernel
theorem d31_0 : decode jdk_2316_method_67_code 0 = .ok (.aload_n 0, 1) := by decide +kernel
theorem d31_1 : decode jdk_2316_method_67_code 1 = .ok (.aload_n 1, 1) := by decide +kernel
theorem d31_2 : decode jdk_2316_method_67_code 2 = .ok (.if_acmp .ne 5, 3) := by decide +kernel
theorem d31_5 : decode jdk_2316_method_67_code 5 = .ok (.iconst 1, 1) := by decide +kernel
theorem d31_6 : decode jdk_2316_method_67_code 6 = .ok (.ireturn, 1) := by decide +kernel
theorem d31_7 : decode jdk_2316_method_67_code 7 = .ok (.aload_n 1, 1) := by decide +kernel
theorem d31_8 : decode jdk_2316_method_67_code 8 = .ok (.instanceof 11, 3) := by decide +kernel
theorem d31_11 : decode jdk_2316_method_67_code 11 = .ok (.ifCond .eq 35, 3) := by decide +kernel
theorem d31_14 : decode jdk_2316_method_67_code 14 = .ok (.aload_n 1, 1) := by decide +kernel
theorem d31_15 : decode jdk_2316_method_67_code 15 = .ok (.checkcast 11, 3) := by decide +kernel
theorem d31_18 : decode jdk_2316_method_67_code 18 = .ok (.astore_n 2, 1) := by decide +kernel
theorem d31_19 : decode jdk_2316_method_67_code 19 = .ok (.aload_n 0, 1) := by decide +kernel
theorem d31_20 : decode jdk_2316_method_67_code 20 = .ok (.getfield 221, 3) := by decide +kernel
theorem d31_23 : decode jdk_2316_method_67_code 23 = .ok (.aload_n 2, 1) := by decide +kernel
theorem d31_24 : decode jdk_2316_method_67_code 24 = .ok (.getfield 221, 3) := by decide +kernel
theorem d31_27 : decode jdk_2316_method_67_code 27 = .ok (.lcmp, 1) := by decide +kernel
theorem d31_28 : decode jdk_2316_method_67_code 28 = .ok (.ifCond .ne 18, 3) := by decide +kernel
theorem d31_31 : decode jdk_2316_method_67_code 31 = .ok (.aload_n 0, 1) := by decide +kernel
theorem d31_32 : decode jdk_2316_method_67_code 32 = .ok (.getfield 224, 3) := by decide +kernel
theorem d31_35 : decode jdk_2316_method_67_code 35 = .ok (.aload_n 2, 1) := by decide +kernel
theorem d31_36 : decode jdk_2316_method_67_code 36 = .ok (.getfield 224, 3) := by decide +kernel
theorem d31_39 : decode jdk_2316_method_67_code 39 = .ok (.if_icmp .ne 7, 3) := by decide +kernel
theorem d31_42 : decode jdk_2316_method_67_code 42 = .ok (.iconst 1, 1) := by decide +kernel
theorem d31_43 : decode jdk_2316_method_67_code 43 = .ok (.goto 4, 3) := by decide +kernel
theorem d31_47 : decode jdk_2316_method_67_code 47 = .ok (.ireturn, 1) := by decide +kernel
set_option maxRecDepth 65536 in
set_option maxHeartbeats 40000000 in
theorem rm31 (l : Launch) (Z : State) (a0 : Array Value) (hw : ∀ d ∈ tables_1, d.before a0 Z = true) (ws : List Jvm.Cond) (a : Addr) (b : Addr) (sc : Int64) (nn : Int32) (h0 : Heap) (n0 : Nat) (F_a_seconds : Fld Z h0 a "java/time/Duration" "seconds" "J" (.long sc)) (F_a_nanos : Fld Z h0 a "java/time/Duration" "nanos" "I" (.int nn)) (F_b_seconds : Fld Z h0 b "java/time/Duration" "seconds" "J" (.long sc)) (F_b_nanos : Fld Z h0 b "java/time/Duration" "nanos" "I" (.int nn)) (E_b : Exa Z h0 b "java/time/Duration") :
    MetFree l (⟨"java/time/Duration", "equals", "(Ljava/lang/Object;)Z"⟩ : MethodName) (head1 (Jvm.Cond.code (⟨"java/time/Duration", "equals", "(Ljava/lang/Object;)Z"⟩ : MethodName) jdk_2316_method_67_code 3 (some .boolean) :: ws) ({ frames := 0, cells := 0, slots := 0, locals := 0 } : Room)) (fun aa U => aa = #[(.ref a), (.ref b)] ∧ Z.Warmed39 U.vm ∧ U.heap = h0) (fun _ _ _ _ _ => True) (fun _ U o U' => ∃ v L, o = .returned v ∧ PureQ (some (.int 1)) h0 n0 v U'.heap L ∧ FrameEnd U o U' L ({ frames := 0, cells := 0, slots := 0, locals := 0 } : Room).cells ({ frames := 0, cells := 0, slots := 0, locals := 0 } : Room).slots) := by
  refine MetFree.of_bodySF (plainFor_of_name pn_rm31) hisR ?_
  intro p e s m args below meth c s₁ Bd hml0 hP hK
  obtain ⟨rfl, hZ, hh⟩ := hP
  have hx := Bd.exec
  have hby := Bd.bytes
  have hml : c.maxLocals = 3 := hml0
  have hown : s.vm.findClass "java/time/Duration" = some m.cls := findClass_of_methodNamed Bd.named
  have hnm := (name_of_methodNamed Bd.named Bd.method).1
  have X0 : Stand p l e ({ frames := 0, cells := 0, slots := 0, locals := 0 } : Room) s m #[(.ref a), (.ref b)] below meth c s₁ [] 0 0 := Stand.of_body Bd
  have e0 : s₁.heap = h0 := by rw [← hh, Bd.state]; rfl
  have N0 := Fr.nil n0
  refine goIn (ef_rm31 m a b) ?_
  refine Go.by (S' := s₁.setTop (mkF m 1 #[.val (.ref a), .val (.ref b), .unset] [(.ref a)])) (fun _ kt => XS.aloadN X0.here hx rfl (hb hby d31_0) rfl rfl  kt) ?_
  refine Go.by (S' := s₁.setTop (mkF m 2 #[.val (.ref a), .val (.ref b), .unset] [(.ref b), (.ref a)])) (fun _ kt => XS.aloadN X0.here hx rfl (hb hby d31_1) rfl rfl  kt) ?_
  by_cases hc2_1 : a = b
  · refine Go.by (S' := s₁.setTop (mkF m 5 #[.val (.ref a), .val (.ref b), .unset] [])) (fun _ kt => XT.acmpNo X0.here hx rfl (hb hby d31_2) rfl rfl rfl (XT.aa_ne_f (congrArg Value.ref hc2_1))  kt) ?_
    refine Go.by (S' := s₁.setTop (mkF m 6 #[.val (.ref a), .val (.ref b), .unset] [(.int (1 : Int32))])) (fun _ kt => XT.iconstV X0.here hx rfl (1 : Int32) (hb hby d31_5) (by decide)  kt) ?_
    refine goRet X0 (v := some (.int (nar .boolean (1 : Int32)))) (fun h => by rw [Bd.returns] at h; cases h) Bd.notSynchronized (fun fs hr => retN X0 hx (t := .boolean) Bd.returns (by simp) (hb hby d31_6) hr) (by decide) (by decide) ?_
    exact ⟨by simp [own_n1], N0, e0⟩
  · refine Go.by (S' := s₁.setTop (mkF m 7 #[.val (.ref a), .val (.ref b), .unset] [])) (fun _ kt => XT.acmpYes X0.here hx rfl (pc0 := 2) (pc' := 7) rfl (hb hby d31_2) rfl rfl rfl (XT.aa_ne_t (fun q => hc2_1 (Value.ref.inj q))) (by decide) (by decide)  kt) ?_
    refine Go.by (S' := s₁.setTop (mkF m 8 #[.val (.ref a), .val (.ref b), .unset] [(.ref b)])) (fun _ kt => XS.aloadN X0.here hx rfl (hb hby d31_7) rfl rfl  kt) ?_
    obtain ⟨T2, X2, e2, st2⟩ := instY X0 hx hZ hown (hw _ (List.mem_of_getElem? (i := 136) rfl)) e0 (Ins.self E_b) (g := (mkF m 8 #[.val (.ref a), .val (.ref b), .unset] [(.ref b)])) rfl rfl (hb hby d31_8)
    refine Go.by (S' := T2.setTop (mkF m 11 #[.val (.ref a), .val (.ref b), .unset] [(.int (1 : Int32))])) st2 ?_
    refine Go.by (S' := T2.setTop (mkF m 14 #[.val (.ref a), .val (.ref b), .unset] [])) (fun _ kt => XS.ifNo X2.here hx rfl (hb hby d31_11) rfl (XT.i0_eq_f (by decide))  kt) ?_
    refine Go.by (S' := T2.setTop (mkF m 15 #[.val (.ref a), .val (.ref b), .unset] [(.ref b)])) (fun _ kt => XS.aloadN X2.here hx rfl (hb hby d31_14) rfl rfl  kt) ?_
    obtain ⟨T3, X3, e3, st3⟩ := castY X2 hx hZ hown (hw _ (List.mem_of_getElem? (i := 136) rfl)) e2 (Ins.self E_b) (g := (mkF m 15 #[.val (.ref a), .val (.ref b), .unset] [(.ref b)])) rfl rfl (hb hby d31_15)
    refine Go.by (S' := T3.setTop (mkF m 18 #[.val (.ref a), .val (.ref b), .unset] [(.ref b)])) st3 ?_
    refine Go.by (S' := T3.setTop (mkF m 19 #[.val (.ref a), .val (.ref b), .val (.ref b)] [])) (fun _ kt => XS.astoreN X3.here hx rfl (hb hby d31_18) rfl rfl (l' := #[.val (.ref a), .val (.ref b), .val (.ref b)]) rfl  kt) ?_
    refine Go.by (S' := T3.setTop (mkF m 20 #[.val (.ref a), .val (.ref b), .val (.ref b)] [(.ref a)])) (fun _ kt => XS.aloadN X3.here hx rfl (hb hby d31_19) rfl rfl  kt) ?_
    obtain ⟨T4, X4, e4, st4⟩ := getF X3 hx hZ hown (host := "") (Or.inl (hw _ (List.mem_of_getElem? (i := 143) rfl))) Via.refl e3 F_a_seconds (g := (mkF m 20 #[.val (.ref a), .val (.ref b), .val (.ref b)] [(.ref a)])) rfl rfl (hb hby d31_20)
    refine Go.by (S' := T4.setTop (mkF m 23 #[.val (.ref a), .val (.ref b), .val (.ref b)] [(.long sc)])) st4 ?_
    refine Go.by (S' := T4.setTop (mkF m 24 #[.val (.ref a), .val (.ref b), .val (.ref b)] [(.ref b), (.long sc)])) (fun _ kt => XS.aloadN X4.here hx rfl (hb hby d31_23) rfl rfl  kt) ?_
    obtain ⟨T5, X5, e5, st5⟩ := getF X4 hx hZ hown (host := "") (Or.inl (hw _ (List.mem_of_getElem? (i := 143) rfl))) Via.refl e4 F_b_seconds (g := (mkF m 24 #[.val (.ref a), .val (.ref b), .val (.ref b)] [(.ref b), (.long sc)])) rfl rfl (hb hby d31_24)
    refine Go.by (S' := T5.setTop (mkF m 27 #[.val (.ref a), .val (.ref b), .val (.ref b)] [(.long sc), (.long sc)])) st5 ?_
    refine Go.by (S' := T5.setTop (mkF m 28 #[.val (.ref a), .val (.ref b), .val (.ref b)] [(.int (XT.cmpL sc sc))])) (fun _ kt => XT.lcmp X5.here hx rfl (hb hby d31_27) rfl  kt) ?_
    refine Go.by (S' := T5.setTop (mkF m 31 #[.val (.ref a), .val (.ref b), .val (.ref b)] [])) (fun _ kt => XS.ifNo X5.here hx rfl (hb hby d31_28) rfl (XT.ll_ne_f (rfl : sc = sc))  kt) ?_
    refine Go.by (S' := T5.setTop (mkF m 32 #[.val (.ref a), .val (.ref b), .val (.ref b)] [(.ref a)])) (fun _ kt => XS.aloadN X5.here hx rfl (hb hby d31_31) rfl rfl  kt) ?_
    obtain ⟨T6, X6, e6, st6⟩ := getF X5 hx hZ hown (host := "") (Or.inl (hw _ (List.mem_of_getElem? (i := 145) rfl))) Via.refl e5 F_a_nanos (g := (mkF m 32 #[.val (.ref a), .val (.ref b), .val (.ref b)] [(.ref a)])) rfl rfl (hb hby d31_32)
    refine Go.by (S' := T6.setTop (mkF m 35 #[.val (.ref a), .val (.ref b), .val (.ref b)] [(.int nn)])) st6 ?_
    refine Go.by (S' := T6.setTop (mkF m 36 #[.val (.ref a), .val (.ref b), .val (.ref b)] [(.ref b), (.int nn)])) (fun _ kt => XS.aloadN X6.here hx rfl (hb hby d31_35) rfl rfl  kt) ?_
    obtain ⟨T7, X7, e7, st7⟩ := getF X6 hx hZ hown (host := "") (Or.inl (hw _ (List.mem_of_getElem? (i := 145) rfl))) Via.refl e6 F_b_nanos (g := (mkF m 36 #[.val (.ref a), .val (.ref b), .val (.ref b)] [(.ref b), (.int nn)])) rfl rfl (hb hby d31_36)
    refine Go.by (S' := T7.setTop (mkF m 39 #[.val (.ref a), .val (.ref b), .val (.ref b)] [(.int nn), (.int nn)])) st7 ?_
    refine Go.by (S' := T7.setTop (mkF m 42 #[.val (.ref a), .val (.ref b), .val (.ref b)] [])) (fun _ kt => XS.icmpNo X7.here hx rfl (hb hby d31_39) rfl (XT.ii_ne_f (rfl : nn = nn))  kt) ?_
    refine Go.by (S' := T7.setTop (mkF m 43 #[.val (.ref a), .val (.ref b), .val (.ref b)] [(.int (1 : Int32))])) (fun _ kt => XT.iconstV X7.here hx rfl (1 : Int32) (hb hby d31_42) (by decide)  kt) ?_
    refine Go.by (S' := T7.setTop (mkF m 47 #[.val (.ref a), .val (.ref b), .val (.ref b)] [(.int (1 : Int32))])) (fun _ kt => XS.goto X7.here hx rfl (pc0 := 43) (pc' := 47) rfl (hb hby d31_43) (by decide) (by decide)  kt) ?_
    refine goRet X7 (v := some (.int (nar .boolean (1 : Int32)))) (fun h => by rw [Bd.returns] at h; cases h) Bd.notSynchronized (fun fs hr => retN X7 hx (t := .boolean) Bd.returns (by simp) (hb hby d31_47) hr) (by decide) (by decide) ?_
    exact ⟨by simp [own_n1], N0, e7⟩
theorem ef_rm24 (m : MethodId) (x0 : Addr) (x1 : Int32) (x2 : Int32) (x3 : Addr) : entryFrame m #[(.ref x0), (.int x1), (.int x2), (.ref x3)] 4 = mkF m 0 #[.val (.ref x0), .val (.int x1), .val (.int x2), .val (.ref x3)] [] := by first | (simp [entryFrame, mkF, argsToLocals, Value.category]; done) | rfl
theorem pn_rm24 : plainName "com/example/keys_to_patterns/keystopatterns/limit/Decision" = true := by first | (simp [plainName, overriddenIn]; done) | decide +kernel
theorem d24_0 : decode prog_2_method_1_code 0 = .ok (.aload_n 0, 1) := by decide +kernel
theorem d24_1 : decode prog_2_method_1_code 1 = .ok (.invokespecial 1, 3) := by decide +kernel
theorem d24_4 : decode prog_2_method_1_code 4 = .ok (.aload_n 3, 1) := by decide +kernel
theorem d24_5 : decode prog_2_method_1_code 5 = .ok (.ldc 7, 2) := by decide +kernel
theorem d24_7 : decode prog_2_method_1_code 7 = .ok (.invokestatic 9, 3) := by decide +kernel
theorem d24_10 : decode prog_2_method_1_code 10 = .ok (.pop, 1) := by decide +kernel
theorem d24_11 : decode prog_2_method_1_code 11 = .ok (.iload_n 2, 1) := by decide +kernel
theorem d24_12 : decode prog_2_method_1_code 12 = .ok (.ifCond .ge 17, 3) := by decide +kernel
theorem d24_29 : decode prog_2_method_1_code 29 = .ok (.aload_n 3, 1) := by decide +kernel
theorem d24_30 : decode prog_2_method_1_code 30 = .ok (.invokevirtual 24, 3) := by decide +kernel
theorem d24_33 : decode prog_2_method_1_code 33 = .ok (.ifCond .ne 14, 3) := by decide +kernel
theorem d24_36 : decode prog_2_method_1_code 36 = .ok (.iload_n 1, 1) := by decide +kernel
theorem d24_37 : decode prog_2_method_1_code 37 = .ok (.ifCond .eq 27, 3) := by decide +kernel
theorem d24_40 : decode prog_2_method_1_code 40 = .ok (.aload_n 3, 1) := by decide +kernel
theorem d24_41 : decode prog_2_method_1_code 41 = .ok (.invokevirtual 30, 3) := by decide +kernel
theorem d24_44 : decode prog_2_method_1_code 44 = .ok (.ifCond .ne 20, 3) := by decide +kernel
theorem d24_64 : decode prog_2_method_1_code 64 = .ok (.aload_n 0, 1) := by decide +kernel
theorem d24_65 : decode prog_2_method_1_code 65 = .ok (.iload_n 1, 1) := by decide +kernel
theorem d24_66 : decode prog_2_method_1_code 66 = .ok (.putfield 42, 3) := by decide +kernel
theorem d24_69 : decode prog_2_method_1_code 69 = .ok (.aload_n 0, 1) := by decide +kernel
theorem d24_70 : decode prog_2_method_1_code 70 = .ok (.iload_n 2, 1) := by decide +kernel
theorem d24_71 : decode prog_2_method_1_code 71 = .ok (.putfield 48, 3) := by decide +kernel
theorem d24_74 : decode prog_2_method_1_code 74 = .ok (.aload_n 0, 1) := by decide +kernel
theorem d24_75 : decode prog_2_method_1_code 75 = .ok (.aload_n 3, 1) := by decide +kernel
theorem d24_76 : decode prog_2_method_1_code 76 = .ok (.putfield 52, 3) := by decide +kernel
theorem d24_79 : decode prog_2_method_1_code 79 = .ok (.return_, 1) := by decide +kernel
set_option maxRecDepth 65536 in
set_option maxHeartbeats 40000000 in
theorem rm24 (l : Launch) (Z : State) (a0 : Array Value) (hw : ∀ d ∈ tables_1, d.before a0 Z = true) (ws : List Jvm.Cond) (a : Addr) (z : Int32) (pr : Int32) (d : Addr) (sc : Int64) (nn : Int32) (h0 : Heap) (n0 : Nat) (F_a_allowed : Fld Z h0 a "com/example/keys_to_patterns/keystopatterns/limit/Decision" "allowed" "Z" (.int 0)) (F_a_remaining : Fld Z h0 a "com/example/keys_to_patterns/keystopatterns/limit/Decision" "remaining" "I" (.int 0)) (F_a_retryAfter : Fld Z h0 a "com/example/keys_to_patterns/keystopatterns/limit/Decision" "retryAfter" "Ljava/time/Duration;" .null) (E_a : Exa Z h0 a "com/example/keys_to_patterns/keystopatterns/limit/Decision") (g_a : n0 ≤ a) (E_d : Exa Z h0 d "java/time/Duration") (F_d_seconds : Fld Z h0 d "java/time/Duration" "seconds" "J" (.long sc)) (F_d_nanos : Fld Z h0 d "java/time/Duration" "nanos" "I" (.int nn)) (hpr : ¬ pr < 0) (hs : ¬ sc < 0) (hzero : ¬ z = 0 → sc = 0 ∧ nn = 0) :
    MetFree l (⟨"com/example/keys_to_patterns/keystopatterns/limit/Decision", "<init>", "(ZILjava/time/Duration;)V"⟩ : MethodName) (head1 (Jvm.Cond.code (⟨"com/example/keys_to_patterns/keystopatterns/limit/Decision", "<init>", "(ZILjava/time/Duration;)V"⟩ : MethodName) prog_2_method_1_code 4 none :: ws) ({ frames := 2, cells := 2, slots := 44, locals := 24 } : Room)) (fun aa U => aa = #[(.ref a), (.int z), (.int pr), (.ref d)] ∧ Z.Warmed39 U.vm ∧ U.heap = h0) (fun _ _ _ _ _ => True) (fun _ U o U' => ∃ v L, o = .returned v ∧ DecQ Z a z pr d h0 n0 v U'.heap L ∧ ReturnedEndW U o U' L ({ frames := 2, cells := 2, slots := 44, locals := 24 } : Room).cells ({ frames := 2, cells := 2, slots := 44, locals := 24 } : Room).slots) := by
  refine MetFree.of_bodySF (plainFor_of_name pn_rm24) hisR ?_
  intro p e s m args below meth c s₁ Bd hml0 hP hK
  obtain ⟨rfl, hZ, hh⟩ := hP
  have hx := Bd.exec
  have hby := Bd.bytes
  have hml : c.maxLocals = 4 := hml0
  have hown : s.vm.findClass "com/example/keys_to_patterns/keystopatterns/limit/Decision" = some m.cls := findClass_of_methodNamed Bd.named
  have hnm := (name_of_methodNamed Bd.named Bd.method).1
  have X0 : Stand p l e ({ frames := 2, cells := 2, slots := 44, locals := 24 } : Room) s m #[(.ref a), (.int z), (.int pr), (.ref d)] below meth c s₁ [] 0 0 := Stand.of_body Bd
  have e0 : s₁.heap = h0 := by rw [← hh, Bd.state]; rfl
  have N0 := Fr.nil n0
  refine goIn (ef_rm24 m a z pr d) ?_
  refine Go.by (S' := s₁.setTop (mkF m 1 #[.val (.ref a), .val (.int z), .val (.int pr), .val (.ref d)] [(.ref a)])) (fun _ kt => XS.aloadN X0.here hx rfl (hb hby d24_0) rfl rfl  kt) ?_
  obtain ⟨_, _, ⟨T1, L1, k1, n1⟩, -, X1, ⟨Lc1, hQ1, l1, y1, z1⟩, st1⟩ := X0.specialBack hx (y := (⟨"java/lang/Record", "<init>", "()V"⟩ : MethodName)) rfl hown (mvT hZ (hw _ (List.mem_of_getElem? (i := 150) rfl))) (mvT hZ (hw _ (List.mem_of_getElem? (i := 151) rfl))) (mvT hZ (hw _ (List.mem_of_getElem? (i := 154) rfl))) (by decide) (backOf (W := 0) (rm25 l Z a0 hw [] a h0 n0) hZ (hw _ (List.mem_of_getElem? (i := 154) rfl)) (hw _ (List.mem_of_getElem? (i := 153) rfl)) (by decide) (by decide)) (g := (mkF m 1 #[.val (.ref a), .val (.int z), .val (.int pr), .val (.ref d)] [(.ref a)])) rfl (by rw [hml]; rfl) (Steps.refl _) (a := a) (argsL := []) (rest := []) (lenOf pd_0 rfl) rfl (by show 2 * 0 + _ ≤ _; exact Nat.le_of_eq rfl) (hb hby d24_1) (fun _ _ => ⟨rfl, e0, (by decide : 0 + 0 ≤ _), (by decide : 0 + 0 ≤ _)⟩)
  dsimp only [Pt.U, Pt.locs, Pt.cells, Pt.slots] at X1 l1 y1 z1 st1 hQ1
  subst l1 y1 z1
  obtain ⟨rfl, N1q, e1⟩ := hQ1
  have N1 := Fr.app N0 N1q
  refine Go.at (S' := T1.setTop (mkF m 4 #[.val (.ref a), .val (.int z), .val (.int pr), .val (.ref d)] [])) st1 ?_
  refine Go.by (S' := T1.setTop (mkF m 5 #[.val (.ref a), .val (.int z), .val (.int pr), .val (.ref d)] [(.ref d)])) (fun _ kt => XS.aloadN X1.here hx rfl (hb hby d24_4) rfl rfl  kt) ?_
  have wS : ∀ w ∈ Bundle.stringAtoms, w.before a0 Z = true := by
    intro w hwm
    simp only [Bundle.stringAtoms, List.mem_cons, List.not_mem_nil, or_false] at hwm
    rcases hwm with rfl | rfl | rfl | rfl | rfl | rfl | rfl
    · exact (hw _ (List.mem_of_getElem? (i := 157) rfl))
    · exact (hw _ (List.mem_of_getElem? (i := 158) rfl))
    · exact (hw _ (List.mem_of_getElem? (i := 159) rfl))
    · exact (hw _ (List.mem_of_getElem? (i := 160) rfl))
    · exact (hw _ (List.mem_of_getElem? (i := 161) rfl))
    · exact (hw _ (List.mem_of_getElem? (i := 162) rfl))
    · exact (hw _ (List.mem_of_getElem? (i := 163) rfl))
  have Xb : Stand p l e _ (s.setVm s.vm) m _ below meth c T1 _ _ _ := X1
  obtain ⟨sa, T2, h2, ks, X2, e2, Ex2, hSs, hsz, hZ', hown', st2⟩ := ldcS (s := s) Xb hx hZ hown (hw _ (List.mem_of_getElem? (i := 156) rfl)) wS e1 ((State.WarmedH.refl s).since 0) (Nat.zero_le _) (g := (mkF m 5 #[.val (.ref a), .val (.int z), .val (.int pr), .val (.ref d)] [(.ref d)])) rfl (hb hby d24_5) (n := 40) (by decide) (by decide) (by decide) (by decide)
  have hZ := hZ'
  have hown := hown'
  have KP := (Keep.refl h0 [a]).ext Ex2
  have E_a := E_a.ext Ex2
  have F_a_allowed := F_a_allowed.ext Ex2
  have F_a_remaining := F_a_remaining.ext Ex2
  have F_a_retryAfter := F_a_retryAfter.ext Ex2
  have E_d := E_d.ext Ex2
  have F_d_seconds := F_d_seconds.ext Ex2
  have F_d_nanos := F_d_nanos.ext Ex2
  refine Go.by (S' := T2.setTop (mkF m 7 #[.val (.ref a), .val (.int z), .val (.int pr), .val (.ref d)] [(.ref sa), (.ref d)])) st2 ?_
  obtain ⟨_, _, ⟨T3, L3, k3, n3⟩, -, X3, ⟨Lc3, hQ3, l3, y3, z3⟩, st3⟩ := Jvm.LawKit.callS X2 hx (y := (⟨"java/util/Objects", "requireNonNull", "(Ljava/lang/Object;Ljava/lang/String;)Ljava/lang/Object;"⟩ : MethodName)) hown (mvT hZ (hw _ (List.mem_of_getElem? (i := 164) rfl))) (mvT hZ (hw _ (List.mem_of_getElem? (i := 165) rfl))) (mvT hZ (hw _ (List.mem_of_getElem? (i := 101) rfl))) (mvT hZ (hw _ (List.mem_of_getElem? (i := 166) rfl))) (by decide) (backOf (W := 0) (rm26 l Z a0 hw [] d sa h2 n0) hZ (hw _ (List.mem_of_getElem? (i := 166) rfl)) (hw _ (List.mem_of_getElem? (i := 101) rfl)) (by decide) (by decide)) (g := (mkF m 7 #[.val (.ref a), .val (.int z), .val (.int pr), .val (.ref d)] [(.ref sa), (.ref d)])) rfl (by rw [hml]; rfl) (argsL := [(.ref d), (.ref sa)]) (rest := []) (lenOf pd_17 rfl) rfl (by show 2 * 0 + _ ≤ _; exact Nat.le_of_eq rfl) (hb hby d24_7) (fun _ _ => ⟨rfl, e2, (by decide : (0 + 2) + 0 ≤ _), (by decide : (0 + (40 + 4)) + 0 ≤ _)⟩)
  dsimp only [Pt.U, Pt.locs, Pt.cells, Pt.slots] at X3 l3 y3 z3 st3 hQ3
  subst l3 y3 z3
  obtain ⟨rfl, N3q, e3⟩ := hQ3
  have N3 := Fr.app N1 N3q
  refine Go.by (S' := T3.setTop (mkF m 10 #[.val (.ref a), .val (.int z), .val (.int pr), .val (.ref d)] [(.ref d)])) st3 ?_
  refine Go.by (S' := T3.setTop (mkF m 11 #[.val (.ref a), .val (.int z), .val (.int pr), .val (.ref d)] [])) (fun _ kt => XS.pop X3.here hx rfl (hb hby d24_10) rfl rfl  kt) ?_
  refine Go.by (S' := T3.setTop (mkF m 12 #[.val (.ref a), .val (.int z), .val (.int pr), .val (.ref d)] [(.int pr)])) (fun _ kt => XS.iloadN X3.here hx rfl (hb hby d24_11) rfl  kt) ?_
  refine Go.by (S' := T3.setTop (mkF m 29 #[.val (.ref a), .val (.int z), .val (.int pr), .val (.ref d)] [])) (fun _ kt => XS.ifYes X3.here hx rfl (pc0 := 12) (pc' := 29) rfl (hb hby d24_12) rfl (XT.i0_ge_t hpr) (by decide) (by decide)  kt) ?_
  refine Go.by (S' := T3.setTop (mkF m 30 #[.val (.ref a), .val (.int z), .val (.int pr), .val (.ref d)] [(.ref d)])) (fun _ kt => XS.aloadN X3.here hx rfl (hb hby d24_29) rfl rfl  kt) ?_
  obtain ⟨cq4, kq4, q4a, q4b, q4c⟩ := isOf hZ e3 (E_d)
  obtain ⟨_, _, ⟨T4, L4, k4, n4⟩, -, X4, ⟨Lc4, hQ4, l4, y4, z4⟩, st4⟩ := X3.virtualBack hx (y := (⟨"java/time/Duration", "isNegative", "()Z"⟩ : MethodName)) (z := (⟨"java/time/Duration", "isNegative", "()Z"⟩ : MethodName)) hown (mvT hZ (hw _ (List.mem_of_getElem? (i := 167) rfl))) (mvT hZ (hw _ (List.mem_of_getElem? (i := 168) rfl))) (notFace_of_selects (args := #[]) (mvT hZ (hw _ (List.mem_of_getElem? (i := 170) rfl)))) (mvT hZ (hw _ (List.mem_of_getElem? (i := 170) rfl))) (mvT hZ (hw _ (List.mem_of_getElem? (i := 169) rfl))) (by decide) (backOf (W := 0) (rm27 l Z a0 hw [] d sc h2 n0 F_d_seconds hs) hZ (hw _ (List.mem_of_getElem? (i := 171) rfl)) (hw _ (List.mem_of_getElem? (i := 129) rfl)) (by decide) (by decide)) q4a q4c (g := (mkF m 30 #[.val (.ref a), .val (.int z), .val (.int pr), .val (.ref d)] [(.ref d)])) rfl (by rw [hml]; rfl) (Steps.refl _) (argsL := []) (rest := []) (lenOf pd_18 rfl) rfl (by show 2 * 0 + _ ≤ _; exact Nat.le_of_eq rfl) (hb hby d24_30) (fun _ _ => ⟨rfl, e3, (by decide : (0 + 2) + 0 ≤ _), (by decide : (0 + (40 + 4)) + 0 ≤ _)⟩)
  dsimp only [Pt.U, Pt.locs, Pt.cells, Pt.slots] at X4 l4 y4 z4 st4 hQ4
  subst l4 y4 z4
  obtain ⟨rfl, N4q, e4⟩ := hQ4
  have N4 := Fr.app N3 N4q
  refine Go.at (S' := T4.setTop (mkF m 33 #[.val (.ref a), .val (.int z), .val (.int pr), .val (.ref d)] [(.int (0 : Int32))])) st4 ?_
  refine Go.by (S' := T4.setTop (mkF m 36 #[.val (.ref a), .val (.int z), .val (.int pr), .val (.ref d)] [])) (fun _ kt => XS.ifNo X4.here hx rfl (hb hby d24_33) rfl (XT.i0_ne_f (by decide))  kt) ?_
  refine Go.by (S' := T4.setTop (mkF m 37 #[.val (.ref a), .val (.int z), .val (.int pr), .val (.ref d)] [(.int z)])) (fun _ kt => XS.iloadN X4.here hx rfl (hb hby d24_36) rfl  kt) ?_
  by_cases hc37_5 : z = (0 : Int32)
  · refine Go.by (S' := T4.setTop (mkF m 64 #[.val (.ref a), .val (.int z), .val (.int pr), .val (.ref d)] [])) (fun _ kt => XS.ifYes X4.here hx rfl (pc0 := 37) (pc' := 64) rfl (hb hby d24_37) rfl (XT.i0_eq_t hc37_5) (by decide) (by decide)  kt) ?_
    refine Go.by (S' := T4.setTop (mkF m 65 #[.val (.ref a), .val (.int z), .val (.int pr), .val (.ref d)] [(.ref a)])) (fun _ kt => XS.aloadN X4.here hx rfl (hb hby d24_64) rfl rfl  kt) ?_
    refine Go.by (S' := T4.setTop (mkF m 66 #[.val (.ref a), .val (.int z), .val (.int pr), .val (.ref d)] [(.int z), (.ref a)])) (fun _ kt => XS.iloadN X4.here hx rfl (hb hby d24_65) rfl  kt) ?_
    obtain ⟨T6, h6, X6, e6, W6, st6⟩ := putFN X4 hx hZ hown (hw _ (List.mem_of_getElem? (i := 172) rfl)) Via.refl e4 F_a_allowed E_a (Or.inr ⟨(hw _ (List.mem_of_getElem? (i := 173) rfl)), rfl, hnm⟩) (hw _ (List.mem_of_getElem? (i := 89) rfl)) (ty := .boolean) (v' := .int (nar .boolean z)) (by decide) rfl (fits_nar_bool _) (g := (mkF m 66 #[.val (.ref a), .val (.int z), .val (.int pr), .val (.ref d)] [(.int z), (.ref a)])) rfl rfl (hb hby d24_66)
    have F_a_allowed := F_a_allowed.same W6
    have E_a := E_a.wr W6
    have F_a_remaining := F_a_remaining.other W6 (Or.inr (slot_ne (Or.inr (hw _ (List.mem_of_getElem? (i := 175) rfl))) (Or.inr (hw _ (List.mem_of_getElem? (i := 173) rfl))) (by decide) (t := .int) (t' := .boolean) (by decide) (by decide)))
    have F_a_retryAfter := F_a_retryAfter.other W6 (Or.inr (slot_ne (Or.inr (hw _ (List.mem_of_getElem? (i := 177) rfl))) (Or.inr (hw _ (List.mem_of_getElem? (i := 173) rfl))) (by decide) (t := (.object "java/time/Duration")) (t' := .boolean) (by decide) (by decide)))
    have KP := KP.wr W6 (Or.inl (List.mem_of_getElem? (i := 0) rfl))
    have N6 := Fr.snoc X6 N4 g_a
    refine Go.by (S' := T6.setTop (mkF m 69 #[.val (.ref a), .val (.int z), .val (.int pr), .val (.ref d)] [])) st6 ?_
    have hsz := Nat.le_trans hsz (Nat.le_of_eq W6.size.symm)
    refine Go.by (S' := T6.setTop (mkF m 70 #[.val (.ref a), .val (.int z), .val (.int pr), .val (.ref d)] [(.ref a)])) (fun _ kt => XS.aloadN X6.here hx rfl (hb hby d24_69) rfl rfl  kt) ?_
    refine Go.by (S' := T6.setTop (mkF m 71 #[.val (.ref a), .val (.int z), .val (.int pr), .val (.ref d)] [(.int pr), (.ref a)])) (fun _ kt => XS.iloadN X6.here hx rfl (hb hby d24_70) rfl  kt) ?_
    obtain ⟨T7, h7, X7, e7, W7, st7⟩ := putF X6 hx hZ hown (host := "") (Or.inl (hw _ (List.mem_of_getElem? (i := 174) rfl))) Via.refl e6 F_a_remaining E_a (Or.inr ⟨(hw _ (List.mem_of_getElem? (i := 175) rfl)), rfl, hnm⟩) (hw _ (List.mem_of_getElem? (i := 89) rfl)) (ty := .int) (by decide) rfl rfl (g := (mkF m 71 #[.val (.ref a), .val (.int z), .val (.int pr), .val (.ref d)] [(.int pr), (.ref a)])) rfl rfl (hb hby d24_71)
    have F_a_remaining := F_a_remaining.same W7
    have E_a := E_a.wr W7
    have F_a_allowed := F_a_allowed.other W7 (Or.inr (slot_ne (Or.inr (hw _ (List.mem_of_getElem? (i := 173) rfl))) (Or.inr (hw _ (List.mem_of_getElem? (i := 175) rfl))) (by decide) (t := .boolean) (t' := .int) (by decide) (by decide)))
    have F_a_retryAfter := F_a_retryAfter.other W7 (Or.inr (slot_ne (Or.inr (hw _ (List.mem_of_getElem? (i := 177) rfl))) (Or.inr (hw _ (List.mem_of_getElem? (i := 175) rfl))) (by decide) (t := (.object "java/time/Duration")) (t' := .int) (by decide) (by decide)))
    have KP := KP.wr W7 (Or.inl (List.mem_of_getElem? (i := 0) rfl))
    have N7 := Fr.snoc X7 N6 g_a
    refine Go.by (S' := T7.setTop (mkF m 74 #[.val (.ref a), .val (.int z), .val (.int pr), .val (.ref d)] [])) st7 ?_
    have hsz := Nat.le_trans hsz (Nat.le_of_eq W7.size.symm)
    refine Go.by (S' := T7.setTop (mkF m 75 #[.val (.ref a), .val (.int z), .val (.int pr), .val (.ref d)] [(.ref a)])) (fun _ kt => XS.aloadN X7.here hx rfl (hb hby d24_74) rfl rfl  kt) ?_
    refine Go.by (S' := T7.setTop (mkF m 76 #[.val (.ref a), .val (.int z), .val (.int pr), .val (.ref d)] [(.ref d), (.ref a)])) (fun _ kt => XS.aloadN X7.here hx rfl (hb hby d24_75) rfl rfl  kt) ?_
    obtain ⟨T8, h8, X8, e8, W8, st8⟩ := putF X7 hx hZ hown (host := "") (Or.inl (hw _ (List.mem_of_getElem? (i := 176) rfl))) Via.refl e7 F_a_retryAfter E_a (Or.inr ⟨(hw _ (List.mem_of_getElem? (i := 177) rfl)), rfl, hnm⟩) (hw _ (List.mem_of_getElem? (i := 89) rfl)) (ty := (.object "java/time/Duration")) (by decide) rfl rfl (g := (mkF m 76 #[.val (.ref a), .val (.int z), .val (.int pr), .val (.ref d)] [(.ref d), (.ref a)])) rfl rfl (hb hby d24_76)
    have F_a_retryAfter := F_a_retryAfter.same W8
    have E_a := E_a.wr W8
    have F_a_allowed := F_a_allowed.other W8 (Or.inr (slot_ne (Or.inr (hw _ (List.mem_of_getElem? (i := 173) rfl))) (Or.inr (hw _ (List.mem_of_getElem? (i := 177) rfl))) (by decide) (t := .boolean) (t' := (.object "java/time/Duration")) (by decide) (by decide)))
    have F_a_remaining := F_a_remaining.other W8 (Or.inr (slot_ne (Or.inr (hw _ (List.mem_of_getElem? (i := 175) rfl))) (Or.inr (hw _ (List.mem_of_getElem? (i := 177) rfl))) (by decide) (t := .int) (t' := (.object "java/time/Duration")) (by decide) (by decide)))
    have KP := KP.wr W8 (Or.inl (List.mem_of_getElem? (i := 0) rfl))
    have N8 := Fr.snoc X8 N7 g_a
    refine Go.by (S' := T8.setTop (mkF m 79 #[.val (.ref a), .val (.int z), .val (.int pr), .val (.ref d)] [])) st8 ?_
    have hsz := Nat.le_trans hsz (Nat.le_of_eq W8.size.symm)
    refine goRetW (s := s) X8 (v := none) hSs (by rw [e8]; exact hsz) (fun _ => rfl) Bd.notSynchronized (fun fs hr => X8.returnOut hx Bd.returns (hb hby d24_79) hr) (by decide) (by decide) ?_
    rw [e8]
    exact ⟨rfl, N8, KP, E_a, F_a_allowed, F_a_remaining, F_a_retryAfter⟩
  · refine Go.by (S' := T4.setTop (mkF m 40 #[.val (.ref a), .val (.int z), .val (.int pr), .val (.ref d)] [])) (fun _ kt => XS.ifNo X4.here hx rfl (hb hby d24_37) rfl (XT.i0_eq_f hc37_5)  kt) ?_
    refine Go.by (S' := T4.setTop (mkF m 41 #[.val (.ref a), .val (.int z), .val (.int pr), .val (.ref d)] [(.ref d)])) (fun _ kt => XS.aloadN X4.here hx rfl (hb hby d24_40) rfl rfl  kt) ?_
    obtain ⟨rfl, rfl⟩ := hzero hc37_5
    obtain ⟨cq9, kq9, q9a, q9b, q9c⟩ := isOf hZ e4 (E_d)
    obtain ⟨_, _, ⟨T9, L9, k9, n9⟩, -, X9, ⟨Lc9, hQ9, l9, y9, z9⟩, st9⟩ := X4.virtualBack hx (y := (⟨"java/time/Duration", "isZero", "()Z"⟩ : MethodName)) (z := (⟨"java/time/Duration", "isZero", "()Z"⟩ : MethodName)) hown (mvT hZ (hw _ (List.mem_of_getElem? (i := 200) rfl))) (mvT hZ (hw _ (List.mem_of_getElem? (i := 201) rfl))) (notFace_of_selects (args := #[]) (mvT hZ (hw _ (List.mem_of_getElem? (i := 203) rfl)))) (mvT hZ (hw _ (List.mem_of_getElem? (i := 203) rfl))) (mvT hZ (hw _ (List.mem_of_getElem? (i := 202) rfl))) (by decide) (backOf (W := 0) (rm32 l Z a0 hw [] d h2 n0 F_d_seconds F_d_nanos) hZ (hw _ (List.mem_of_getElem? (i := 204) rfl)) (hw _ (List.mem_of_getElem? (i := 129) rfl)) (by decide) (by decide)) q9a q9c (g := (mkF m 41 #[.val (.ref a), .val (.int z), .val (.int pr), .val (.ref d)] [(.ref d)])) rfl (by rw [hml]; rfl) (Steps.refl _) (argsL := []) (rest := []) (lenOf pd_18 rfl) rfl (by show 2 * 0 + _ ≤ _; exact Nat.le_of_eq rfl) (hb hby d24_41) (fun _ _ => ⟨rfl, e4, (by decide : (0 + 2) + 0 ≤ _), (by decide : (0 + (40 + 4)) + 0 ≤ _)⟩)
    dsimp only [Pt.U, Pt.locs, Pt.cells, Pt.slots] at X9 l9 y9 z9 st9 hQ9
    subst l9 y9 z9
    obtain ⟨rfl, N9q, e9⟩ := hQ9
    have N9 := Fr.app N4 N9q
    refine Go.at (S' := T9.setTop (mkF m 44 #[.val (.ref a), .val (.int z), .val (.int pr), .val (.ref d)] [(.int (1 : Int32))])) st9 ?_
    refine Go.by (S' := T9.setTop (mkF m 64 #[.val (.ref a), .val (.int z), .val (.int pr), .val (.ref d)] [])) (fun _ kt => XS.ifYes X9.here hx rfl (pc0 := 44) (pc' := 64) rfl (hb hby d24_44) rfl (XT.i0_ne_t (by decide)) (by decide) (by decide)  kt) ?_
    refine Go.by (S' := T9.setTop (mkF m 65 #[.val (.ref a), .val (.int z), .val (.int pr), .val (.ref d)] [(.ref a)])) (fun _ kt => XS.aloadN X9.here hx rfl (hb hby d24_64) rfl rfl  kt) ?_
    refine Go.by (S' := T9.setTop (mkF m 66 #[.val (.ref a), .val (.int z), .val (.int pr), .val (.ref d)] [(.int z), (.ref a)])) (fun _ kt => XS.iloadN X9.here hx rfl (hb hby d24_65) rfl  kt) ?_
    obtain ⟨T10, h10, X10, e10, W10, st10⟩ := putFN X9 hx hZ hown (hw _ (List.mem_of_getElem? (i := 172) rfl)) Via.refl e9 F_a_allowed E_a (Or.inr ⟨(hw _ (List.mem_of_getElem? (i := 173) rfl)), rfl, hnm⟩) (hw _ (List.mem_of_getElem? (i := 89) rfl)) (ty := .boolean) (v' := .int (nar .boolean z)) (by decide) rfl (fits_nar_bool _) (g := (mkF m 66 #[.val (.ref a), .val (.int z), .val (.int pr), .val (.ref d)] [(.int z), (.ref a)])) rfl rfl (hb hby d24_66)
    have F_a_allowed := F_a_allowed.same W10
    have E_a := E_a.wr W10
    have F_a_remaining := F_a_remaining.other W10 (Or.inr (slot_ne (Or.inr (hw _ (List.mem_of_getElem? (i := 175) rfl))) (Or.inr (hw _ (List.mem_of_getElem? (i := 173) rfl))) (by decide) (t := .int) (t' := .boolean) (by decide) (by decide)))
    have F_a_retryAfter := F_a_retryAfter.other W10 (Or.inr (slot_ne (Or.inr (hw _ (List.mem_of_getElem? (i := 177) rfl))) (Or.inr (hw _ (List.mem_of_getElem? (i := 173) rfl))) (by decide) (t := (.object "java/time/Duration")) (t' := .boolean) (by decide) (by decide)))
    have KP := KP.wr W10 (Or.inl (List.mem_of_getElem? (i := 0) rfl))
    have N10 := Fr.snoc X10 N9 g_a
    refine Go.by (S' := T10.setTop (mkF m 69 #[.val (.ref a), .val (.int z), .val (.int pr), .val (.ref d)] [])) st10 ?_
    have hsz := Nat.le_trans hsz (Nat.le_of_eq W10.size.symm)
    refine Go.by (S' := T10.setTop (mkF m 70 #[.val (.ref a), .val (.int z), .val (.int pr), .val (.ref d)] [(.ref a)])) (fun _ kt => XS.aloadN X10.here hx rfl (hb hby d24_69) rfl rfl  kt) ?_
    refine Go.by (S' := T10.setTop (mkF m 71 #[.val (.ref a), .val (.int z), .val (.int pr), .val (.ref d)] [(.int pr), (.ref a)])) (fun _ kt => XS.iloadN X10.here hx rfl (hb hby d24_70) rfl  kt) ?_
    obtain ⟨T11, h11, X11, e11, W11, st11⟩ := putF X10 hx hZ hown (host := "") (Or.inl (hw _ (List.mem_of_getElem? (i := 174) rfl))) Via.refl e10 F_a_remaining E_a (Or.inr ⟨(hw _ (List.mem_of_getElem? (i := 175) rfl)), rfl, hnm⟩) (hw _ (List.mem_of_getElem? (i := 89) rfl)) (ty := .int) (by decide) rfl rfl (g := (mkF m 71 #[.val (.ref a), .val (.int z), .val (.int pr), .val (.ref d)] [(.int pr), (.ref a)])) rfl rfl (hb hby d24_71)
    have F_a_remaining := F_a_remaining.same W11
    have E_a := E_a.wr W11
    have F_a_allowed := F_a_allowed.other W11 (Or.inr (slot_ne (Or.inr (hw _ (List.mem_of_getElem? (i := 173) rfl))) (Or.inr (hw _ (List.mem_of_getElem? (i := 175) rfl))) (by decide) (t := .boolean) (t' := .int) (by decide) (by decide)))
    have F_a_retryAfter := F_a_retryAfter.other W11 (Or.inr (slot_ne (Or.inr (hw _ (List.mem_of_getElem? (i := 177) rfl))) (Or.inr (hw _ (List.mem_of_getElem? (i := 175) rfl))) (by decide) (t := (.object "java/time/Duration")) (t' := .int) (by decide) (by decide)))
    have KP := KP.wr W11 (Or.inl (List.mem_of_getElem? (i := 0) rfl))
    have N11 := Fr.snoc X11 N10 g_a
    refine Go.by (S' := T11.setTop (mkF m 74 #[.val (.ref a), .val (.int z), .val (.int pr), .val (.ref d)] [])) st11 ?_
    have hsz := Nat.le_trans hsz (Nat.le_of_eq W11.size.symm)
    refine Go.by (S' := T11.setTop (mkF m 75 #[.val (.ref a), .val (.int z), .val (.int pr), .val (.ref d)] [(.ref a)])) (fun _ kt => XS.aloadN X11.here hx rfl (hb hby d24_74) rfl rfl  kt) ?_
    refine Go.by (S' := T11.setTop (mkF m 76 #[.val (.ref a), .val (.int z), .val (.int pr), .val (.ref d)] [(.ref d), (.ref a)])) (fun _ kt => XS.aloadN X11.here hx rfl (hb hby d24_75) rfl rfl  kt) ?_
    obtain ⟨T12, h12, X12, e12, W12, st12⟩ := putF X11 hx hZ hown (host := "") (Or.inl (hw _ (List.mem_of_getElem? (i := 176) rfl))) Via.refl e11 F_a_retryAfter E_a (Or.inr ⟨(hw _ (List.mem_of_getElem? (i := 177) rfl)), rfl, hnm⟩) (hw _ (List.mem_of_getElem? (i := 89) rfl)) (ty := (.object "java/time/Duration")) (by decide) rfl rfl (g := (mkF m 76 #[.val (.ref a), .val (.int z), .val (.int pr), .val (.ref d)] [(.ref d), (.ref a)])) rfl rfl (hb hby d24_76)
    have F_a_retryAfter := F_a_retryAfter.same W12
    have E_a := E_a.wr W12
    have F_a_allowed := F_a_allowed.other W12 (Or.inr (slot_ne (Or.inr (hw _ (List.mem_of_getElem? (i := 173) rfl))) (Or.inr (hw _ (List.mem_of_getElem? (i := 177) rfl))) (by decide) (t := .boolean) (t' := (.object "java/time/Duration")) (by decide) (by decide)))
    have F_a_remaining := F_a_remaining.other W12 (Or.inr (slot_ne (Or.inr (hw _ (List.mem_of_getElem? (i := 175) rfl))) (Or.inr (hw _ (List.mem_of_getElem? (i := 177) rfl))) (by decide) (t := .int) (t' := (.object "java/time/Duration")) (by decide) (by decide)))
    have KP := KP.wr W12 (Or.inl (List.mem_of_getElem? (i := 0) rfl))
    have N12 := Fr.snoc X12 N11 g_a
    refine Go.by (S' := T12.setTop (mkF m 79 #[.val (.ref a), .val (.int z), .val (.int pr), .val (.ref d)] [])) st12 ?_
    have hsz := Nat.le_trans hsz (Nat.le_of_eq W12.size.symm)
    refine goRetW (s := s) X12 (v := none) hSs (by rw [e12]; exact hsz) (fun _ => rfl) Bd.notSynchronized (fun fs hr => X12.returnOut hx Bd.returns (hb hby d24_79) hr) (by decide) (by decide) ?_
    rw [e12]
    exact ⟨rfl, N12, KP, E_a, F_a_allowed, F_a_remaining, F_a_retryAfter⟩
theorem ef_rm13 (m : MethodId) (x0 : Addr) : entryFrame m #[(.ref x0)] 2 = mkF m 0 #[.val (.ref x0), .unset] [] := by first | (simp [entryFrame, mkF, argsToLocals, Value.category]; done) | rfl
theorem pn_rm13 : plainName "com/example/keys_to_patterns/keystopatterns/limit/Decision" = true := by first | (simp [plainName, overriddenIn]; done) | decide +kernel
theorem d13_0 : decode prog_2_method_2_code 0 = .ok (.aload_n 0, 1) := by decide +kernel
theorem d13_1 : decode prog_2_method_2_code 1 = .ok (.checkcast 55, 3) := by decide +kernel
theorem d13_4 : decode prog_2_method_2_code 4 = .ok (.astore_n 1, 1) := by decide +kernel
theorem d13_5 : decode prog_2_method_2_code 5 = .ok (.new 43, 3) := by decide +kernel
theorem d13_8 : decode prog_2_method_2_code 8 = .ok (.dup, 1) := by decide +kernel
theorem d13_9 : decode prog_2_method_2_code 9 = .ok (.lconst 1, 1) := by decide +kernel
theorem d13_10 : decode prog_2_method_2_code 10 = .ok (.invokestatic 57, 3) := by decide +kernel
theorem d13_13 : decode prog_2_method_2_code 13 = .ok (.aload_n 1, 1) := by decide +kernel
theorem d13_14 : decode prog_2_method_2_code 14 = .ok (.iconst 0, 1) := by decide +kernel
theorem d13_15 : decode prog_2_method_2_code 15 = .ok (.invokeinterface 62 2, 5) := by decide +kernel
theorem d13_20 : decode prog_2_method_2_code 20 = .ok (.invokevirtual 66, 3) := by decide +kernel
theorem d13_23 : decode prog_2_method_2_code 23 = .ok (.aload_n 1, 1) := by decide +kernel
theorem d13_24 : decode prog_2_method_2_code 24 = .ok (.iconst 1, 1) := by decide +kernel
theorem d13_25 : decode prog_2_method_2_code 25 = .ok (.invokeinterface 62 2, 5) := by decide +kernel
theorem d13_30 : decode prog_2_method_2_code 30 = .ok (.checkcast 58, 3) := by decide +kernel
theorem d13_33 : decode prog_2_method_2_code 33 = .ok (.invokevirtual 70, 3) := by decide +kernel
theorem d13_36 : decode prog_2_method_2_code 36 = .ok (.invokestatic 74, 3) := by decide +kernel
theorem d13_39 : decode prog_2_method_2_code 39 = .ok (.aload_n 1, 1) := by decide +kernel
theorem d13_40 : decode prog_2_method_2_code 40 = .ok (.iconst 2, 1) := by decide +kernel
theorem d13_41 : decode prog_2_method_2_code 41 = .ok (.invokeinterface 62 2, 5) := by decide +kernel
theorem d13_46 : decode prog_2_method_2_code 46 = .ok (.checkcast 58, 3) := by decide +kernel
theorem d13_49 : decode prog_2_method_2_code 49 = .ok (.invokevirtual 70, 3) := by decide +kernel
theorem d13_52 : decode prog_2_method_2_code 52 = .ok (.invokestatic 80, 3) := by decide +kernel
theorem d13_55 : decode prog_2_method_2_code 55 = .ok (.invokespecial 84, 3) := by decide +kernel
theorem d13_58 : decode prog_2_method_2_code 58 = .ok (.areturn, 1) := by decide +kernel
set_option maxRecDepth 65536 in
set_option maxHeartbeats 40000000 in
theorem rm13 (l : Launch) (Z : State) (a0 : Array Value) (hw : ∀ d ∈ tables_1, d.before a0 Z = true) (ws : List Jvm.Cond) (a : Addr) (r x0 x1 x2 : Addr) (kA : ClassId) (cd rem ms : Int64) (tc : Addr) (cl : Cell) (val : Int32 → Value) (tz : Addr) (h0 : Heap) (n0 : Nat) (Z0 : n0 ≤ h0.size) (E_a : Exa Z h0 a "java/util/ArrayList") (F_a_size : Fld Z h0 a "java/util/ArrayList" "size" "I" (.int 3)) (F_a_elementData : Fld Z h0 a "java/util/ArrayList" "elementData" "[Ljava/lang/Object;" (.ref r)) (V : Arv Z h0 r kA (.object "java/lang/Object") 10 [(.ref x0), (.ref x1), (.ref x2), .null, .null, .null, .null, .null, .null, .null] .null) (E_x0 : Exa Z h0 x0 "java/lang/Long") (F_x0_value : Fld Z h0 x0 "java/lang/Long" "value" "J" (.long cd)) (E_x1 : Exa Z h0 x1 "java/lang/Long") (F_x1_value : Fld Z h0 x1 "java/lang/Long" "value" "J" (.long rem)) (E_x2 : Exa Z h0 x2 "java/lang/Long") (F_x2_value : Fld Z h0 x2 "java/lang/Long" "value" "J" (.long ms)) (SC : Sta Z h0 "java/lang/Long$LongCache" "cache" "[Ljava/lang/Long;" (.ref tc)) (BX : Bxs Z tc cl "java/lang/Long" "J" 256 val) (hval : ∀ j, val j = .long (j - 128).toInt64) (EZ : Ext Z.heap h0) (SZ : Sta Z h0 "java/time/Duration" "ZERO" "Ljava/time/Duration;" (.ref tz)) (E_tz : Exa Z h0 tz "java/time/Duration") (F_tz_seconds : Fld Z h0 tz "java/time/Duration" "seconds" "J" (.long 0)) (F_tz_nanos : Fld Z h0 tz "java/time/Duration" "nanos" "I" (.int 0)) (hrem : rem.toInt32.toInt64 = rem) (hpr : ¬ rem.toInt32 < 0) (hn : ¬ (ms - (ms / (1000 : Int64)) * (1000 : Int64)).toInt32 < 0) (hs : ¬ secF ms < 0) (hzero : ¬ (if (1 : Int64) = cd then (1 : Int32) else 0) = 0 → secF ms = 0 ∧ nanF ms = 0) :
    MetFree l (⟨"com/example/keys_to_patterns/keystopatterns/limit/Decision", "fromReply", "(Ljava/lang/Object;)Lcom/example/keys_to_patterns/keystopatterns/limit/Decision;"⟩ : MethodName) (head1 (Jvm.Cond.code (⟨"com/example/keys_to_patterns/keystopatterns/limit/Decision", "fromReply", "(Ljava/lang/Object;)Lcom/example/keys_to_patterns/keystopatterns/limit/Decision;"⟩ : MethodName) prog_2_method_2_code 2 (some (.object "com/example/keys_to_patterns/keystopatterns/limit/Decision")) :: ws) ({ frames := 4, cells := 6, slots := 60, locals := 70 } : Room)) (fun aa U => aa = #[(.ref a)] ∧ Z.Warmed39 U.vm ∧ U.heap = h0) (fun _ _ _ _ _ => True) (fun _ U o U' => ∃ v L, o = .returned v ∧ RepQ Z (if (1 : Int64) = cd then 1 else 0) rem.toInt32 (secF ms) (nanF ms) h0 n0 v U'.heap L ∧ ReturnedEndW U o U' L ({ frames := 4, cells := 6, slots := 60, locals := 70 } : Room).cells ({ frames := 4, cells := 6, slots := 60, locals := 70 } : Room).slots) := by
  refine MetFree.of_bodySF (plainFor_of_name pn_rm13) hisR ?_
  intro p e s m args below meth c s₁ Bd hml0 hP hK
  obtain ⟨rfl, hZ, hh⟩ := hP
  have hx := Bd.exec
  have hby := Bd.bytes
  have hml : c.maxLocals = 2 := hml0
  have hown : s.vm.findClass "com/example/keys_to_patterns/keystopatterns/limit/Decision" = some m.cls := findClass_of_methodNamed Bd.named
  have hnm := (name_of_methodNamed Bd.named Bd.method).1
  have X0 : Stand p l e ({ frames := 4, cells := 6, slots := 60, locals := 70 } : Room) s m #[(.ref a)] below meth c s₁ [] 0 0 := Stand.of_body Bd
  have e0 : s₁.heap = h0 := by rw [← hh, Bd.state]; rfl
  have N0 := Fr.nil n0
  refine goIn (ef_rm13 m a) ?_
  refine Go.by (S' := s₁.setTop (mkF m 1 #[.val (.ref a), .unset] [(.ref a)])) (fun _ kt => XS.aloadN X0.here hx rfl (hb hby d13_0) rfl rfl  kt) ?_
  obtain ⟨T1, X1, e1, st1⟩ := castY X0 hx hZ hown (hw _ (List.mem_of_getElem? (i := 86) rfl)) e0 (Ins.of_exa E_a (hw _ (List.mem_of_getElem? (i := 87) rfl))) (g := (mkF m 1 #[.val (.ref a), .unset] [(.ref a)])) rfl rfl (hb hby d13_1)
  refine Go.by (S' := T1.setTop (mkF m 4 #[.val (.ref a), .unset] [(.ref a)])) st1 ?_
  refine Go.by (S' := T1.setTop (mkF m 5 #[.val (.ref a), .val (.ref a)] [])) (fun _ kt => XS.astoreN X1.here hx rfl (hb hby d13_4) rfl rfl (l' := #[.val (.ref a), .val (.ref a)]) rfl  kt) ?_
  obtain ⟨T2, h2, X2, e2, Ex2, A2, D2, -, st2⟩ := newO X1 hx hZ hown (hw _ (List.mem_of_getElem? (i := 88) rfl)) (hw _ (List.mem_of_getElem? (i := 89) rfl)) (hw _ (List.mem_of_getElem? (i := 84) rfl)) e1 (g := (mkF m 5 #[.val (.ref a), .val (.ref a)] [])) rfl (hb hby d13_5) (by decide) (by decide)
  obtain ⟨b, gg_b⟩ : ∃ z, z = h0.size := ⟨_, rfl⟩
  rw [← gg_b] at A2 D2 st2
  have sz_b : h0.size ≤ b := by rw [gg_b]; exact (own_ext_refl h0).1
  have g_b : n0 ≤ b := Nat.le_trans Z0 sz_b
  have EX := own_ext_trans (own_ext_refl h0) Ex2
  have E_b := A2
  have F_b_allowed : Fld Z h2 b "com/example/keys_to_patterns/keystopatterns/limit/Decision" "allowed" "Z" (.int (0 : Int32)) := D2 (Or.inr (hw _ (List.mem_of_getElem? (i := 173) rfl))) (ty := .boolean) (by decide)
  have F_b_remaining : Fld Z h2 b "com/example/keys_to_patterns/keystopatterns/limit/Decision" "remaining" "I" (.int (0 : Int32)) := D2 (Or.inr (hw _ (List.mem_of_getElem? (i := 175) rfl))) (ty := .int) (by decide)
  have F_b_retryAfter : Fld Z h2 b "com/example/keys_to_patterns/keystopatterns/limit/Decision" "retryAfter" "Ljava/time/Duration;" .null := D2 (Or.inr (hw _ (List.mem_of_getElem? (i := 177) rfl))) (ty := (.object "java/time/Duration")) (by decide)
  refine Go.by (S' := T2.setTop (mkF m 8 #[.val (.ref a), .val (.ref a)] [(.ref b)])) st2 ?_
  refine Go.by (S' := T2.setTop (mkF m 9 #[.val (.ref a), .val (.ref a)] [(.ref b), (.ref b)])) (fun _ kt => XS.dup X2.here hx rfl (hb hby d13_8) rfl rfl  kt) ?_
  refine Go.by (S' := T2.setTop (mkF m 10 #[.val (.ref a), .val (.ref a)] [(.long (1 : Int64)), (.ref b), (.ref b)])) (fun _ kt => XT.lconstV X2.here hx rfl (1 : Int64) (hb hby d13_9) (by decide)  kt) ?_
  obtain ⟨_, _, ⟨T3, L3, k3, n3⟩, -, X3, ⟨Lc3, hQ3, l3, y3, z3⟩, st3⟩ := Jvm.LawKit.callS X2 hx (y := (⟨"java/lang/Long", "valueOf", "(J)Ljava/lang/Long;"⟩ : MethodName)) hown (mvT hZ (hw _ (List.mem_of_getElem? (i := 90) rfl))) (mvT hZ (hw _ (List.mem_of_getElem? (i := 29) rfl))) (mvT hZ (hw _ (List.mem_of_getElem? (i := 30) rfl))) (mvT hZ (hw _ (List.mem_of_getElem? (i := 31) rfl))) (by decide) (backOf (W := 2) (rm5 l Z a0 hw [] (1 : Int64) tc cl val h2 n0 (Nat.le_trans Z0 EX.1) (SC.ext EX) BX hval (own_ext_trans EZ EX)) hZ (hw _ (List.mem_of_getElem? (i := 31) rfl)) (hw _ (List.mem_of_getElem? (i := 30) rfl)) (by decide) (by decide)) (g := (mkF m 10 #[.val (.ref a), .val (.ref a)] [(.long (1 : Int64)), (.ref b), (.ref b)])) rfl (by rw [hml]; rfl) (argsL := [(.long (1 : Int64))]) (rest := [(.ref b), (.ref b)]) (lenOf pd_1 rfl) rfl (by show 2 * 0 + _ ≤ _; exact Nat.le_of_eq rfl) (hb hby d13_10) (fun _ _ => ⟨rfl, e2, (by decide : (0 + 1) + 1 ≤ _), (by decide : (0 + 3) + 1 ≤ _)⟩)
  dsimp only [Pt.U, Pt.locs, Pt.cells, Pt.slots] at X3 l3 y3 z3 st3 hQ3
  subst l3 y3 z3
  obtain ⟨o1, rfl, N3q, Ex3, E_o1, F_o1_value⟩ := hQ3
  have N3 := Fr.app N0 N3q
  have E_b := E_b.ext Ex3
  have F_b_allowed := F_b_allowed.ext Ex3
  have F_b_remaining := F_b_remaining.ext Ex3
  have F_b_retryAfter := F_b_retryAfter.ext Ex3
  have EX := own_ext_trans EX Ex3
  refine Go.by (S' := T3.setTop (mkF m 13 #[.val (.ref a), .val (.ref a)] [(.ref o1), (.ref b), (.ref b)])) st3 ?_
  refine Go.by (S' := T3.setTop (mkF m 14 #[.val (.ref a), .val (.ref a)] [(.ref a), (.ref o1), (.ref b), (.ref b)])) (fun _ kt => XS.aloadN X3.here hx rfl (hb hby d13_13) rfl rfl  kt) ?_
  refine Go.by (S' := T3.setTop (mkF m 15 #[.val (.ref a), .val (.ref a)] [(.int (0 : Int32)), (.ref a), (.ref o1), (.ref b), (.ref b)])) (fun _ kt => XT.iconstV X3.here hx rfl (0 : Int32) (hb hby d13_14) (by decide)  kt) ?_
  obtain ⟨clG0, AG0, -, SzG0, -, HG0, -⟩ := V.ext EX
  have hinG0 : ¬ ((0 : Int32) < 0 ∨ clG0.slots.size ≤ (0 : Int32).toNatClampNeg) := inb_of SzG0 ⟨by decide, by decide⟩
  obtain ⟨cq4, kq4, q4a, q4b, q4c⟩ := isOf hZ rfl (E_a.ext EX)
  obtain ⟨_, _, ⟨T4, L4, k4, n4⟩, -, X4, ⟨Lc4, hQ4, l4, y4, z4⟩, st4⟩ := X3.interfaceBack hx (xi := (⟨"java/util/List", "get", "(I)Ljava/lang/Object;"⟩ : MethodName)) (y := (⟨"java/util/ArrayList", "get", "(I)Ljava/lang/Object;"⟩ : MethodName)) hown (mvT hZ (hw _ (List.mem_of_getElem? (i := 91) rfl))) (mvT hZ (hw _ (List.mem_of_getElem? (i := 92) rfl))) (mvT hZ (hw _ (List.mem_of_getElem? (i := 93) rfl))) (mvT hZ (hw _ (List.mem_of_getElem? (i := 94) rfl))) (mvT hZ (hw _ (List.mem_of_getElem? (i := 95) rfl))) (mvT hZ (hw _ (List.mem_of_getElem? (i := 96) rfl))) (mvT hZ (hw _ (List.mem_of_getElem? (i := 97) rfl))) (mvT hZ (hw _ (List.mem_of_getElem? (i := 87) rfl))) (by decide) (backOf (W := 3) (rm14 l Z a0 hw [] a (0 : Int32) (3 : Int32) r x0 clG0 T3.heap n0 (F_a_size.ext EX) (E_a.ext EX) (F_a_elementData.ext EX) AG0 hinG0 (Has.at HG0 hinG0 rfl) (by decide)) hZ (hw _ (List.mem_of_getElem? (i := 98) rfl)) (hw _ (List.mem_of_getElem? (i := 4) rfl)) (by decide) (by decide)) q4a q4b q4c (g := (mkF m 15 #[.val (.ref a), .val (.ref a)] [(.int (0 : Int32)), (.ref a), (.ref o1), (.ref b), (.ref b)])) rfl (by rw [hml]; rfl) (Steps.refl _) (argsL := [(.int (0 : Int32))]) (rest := [(.ref o1), (.ref b), (.ref b)]) (lenOf pd_9 rfl) rfl (by show 2 * 0 + _ ≤ _; exact Nat.le_of_eq rfl) (hb hby d13_15) (fun _ _ => ⟨rfl, rfl, (by decide : (0 + 1) + 1 + 0 ≤ _), (by decide : (0 + 3) + 1 + 0 ≤ _)⟩)
  dsimp only [Pt.U, Pt.locs, Pt.cells, Pt.slots] at X4 l4 y4 z4 st4 hQ4
  subst l4 y4 z4
  obtain ⟨rfl, N4q, e4⟩ := hQ4
  have N4 := Fr.app N3 N4q
  refine Go.at (S' := T4.setTop (mkF m 20 #[.val (.ref a), .val (.ref a)] [(.ref x0), (.ref o1), (.ref b), (.ref b)])) st4 ?_
  obtain ⟨cq5, kq5, q5a, q5b, q5c⟩ := isOf hZ e4 (E_o1)
  obtain ⟨_, _, ⟨T5, L5, k5, n5⟩, -, X5, ⟨Lc5, hQ5, l5, y5, z5⟩, st5⟩ := X4.virtualBack hx (y := (⟨"java/lang/Long", "equals", "(Ljava/lang/Object;)Z"⟩ : MethodName)) (z := (⟨"java/lang/Long", "equals", "(Ljava/lang/Object;)Z"⟩ : MethodName)) hown (mvT hZ (hw _ (List.mem_of_getElem? (i := 112) rfl))) (mvT hZ (hw _ (List.mem_of_getElem? (i := 113) rfl))) (notFace_of_selects (args := #[]) (mvT hZ (hw _ (List.mem_of_getElem? (i := 115) rfl)))) (mvT hZ (hw _ (List.mem_of_getElem? (i := 115) rfl))) (mvT hZ (hw _ (List.mem_of_getElem? (i := 114) rfl))) (by decide) (backOf (W := 2) (rm18 l Z a0 hw [] o1 x0 (1 : Int64) cd T3.heap n0 F_o1_value (F_x0_value.ext EX) (E_x0.ext EX)) hZ (hw _ (List.mem_of_getElem? (i := 116) rfl)) (hw _ (List.mem_of_getElem? (i := 30) rfl)) (by decide) (by decide)) q5a q5c (g := (mkF m 20 #[.val (.ref a), .val (.ref a)] [(.ref x0), (.ref o1), (.ref b), (.ref b)])) rfl (by rw [hml]; rfl) (Steps.refl _) (argsL := [(.ref x0)]) (rest := [(.ref b), (.ref b)]) (lenOf pd_2 rfl) rfl (by show 2 * 0 + _ ≤ _; exact Nat.le_of_eq rfl) (hb hby d13_20) (fun _ _ => ⟨rfl, e4, (by decide : (0 + 1) + 1 + 0 ≤ _), (by decide : (0 + 3) + 1 + 0 ≤ _)⟩)
  dsimp only [Pt.U, Pt.locs, Pt.cells, Pt.slots] at X5 l5 y5 z5 st5 hQ5
  subst l5 y5 z5
  obtain ⟨rfl, N5q, e5⟩ := hQ5
  have N5 := Fr.app N4 N5q
  refine Go.at (S' := T5.setTop (mkF m 23 #[.val (.ref a), .val (.ref a)] [(.int (if (1 : Int64) = cd then 1 else 0)), (.ref b), (.ref b)])) st5 ?_
  refine Go.by (S' := T5.setTop (mkF m 24 #[.val (.ref a), .val (.ref a)] [(.ref a), (.int (if (1 : Int64) = cd then 1 else 0)), (.ref b), (.ref b)])) (fun _ kt => XS.aloadN X5.here hx rfl (hb hby d13_23) rfl rfl  kt) ?_
  refine Go.by (S' := T5.setTop (mkF m 25 #[.val (.ref a), .val (.ref a)] [(.int (1 : Int32)), (.ref a), (.int (if (1 : Int64) = cd then 1 else 0)), (.ref b), (.ref b)])) (fun _ kt => XT.iconstV X5.here hx rfl (1 : Int32) (hb hby d13_24) (by decide)  kt) ?_
  obtain ⟨clG1, AG1, -, SzG1, -, HG1, -⟩ := V.ext EX
  have hinG1 : ¬ ((1 : Int32) < 0 ∨ clG1.slots.size ≤ (1 : Int32).toNatClampNeg) := inb_of SzG1 ⟨by decide, by decide⟩
  obtain ⟨cq6, kq6, q6a, q6b, q6c⟩ := isOf hZ e5 (E_a.ext EX)
  obtain ⟨_, _, ⟨T6, L6, k6, n6⟩, -, X6, ⟨Lc6, hQ6, l6, y6, z6⟩, st6⟩ := X5.interfaceBack hx (xi := (⟨"java/util/List", "get", "(I)Ljava/lang/Object;"⟩ : MethodName)) (y := (⟨"java/util/ArrayList", "get", "(I)Ljava/lang/Object;"⟩ : MethodName)) hown (mvT hZ (hw _ (List.mem_of_getElem? (i := 91) rfl))) (mvT hZ (hw _ (List.mem_of_getElem? (i := 92) rfl))) (mvT hZ (hw _ (List.mem_of_getElem? (i := 93) rfl))) (mvT hZ (hw _ (List.mem_of_getElem? (i := 94) rfl))) (mvT hZ (hw _ (List.mem_of_getElem? (i := 95) rfl))) (mvT hZ (hw _ (List.mem_of_getElem? (i := 96) rfl))) (mvT hZ (hw _ (List.mem_of_getElem? (i := 97) rfl))) (mvT hZ (hw _ (List.mem_of_getElem? (i := 87) rfl))) (by decide) (backOf (W := 3) (rm14 l Z a0 hw [] a (1 : Int32) (3 : Int32) r x1 clG1 T3.heap n0 (F_a_size.ext EX) (E_a.ext EX) (F_a_elementData.ext EX) AG1 hinG1 (Has.at HG1 hinG1 rfl) (by decide)) hZ (hw _ (List.mem_of_getElem? (i := 98) rfl)) (hw _ (List.mem_of_getElem? (i := 4) rfl)) (by decide) (by decide)) q6a q6b q6c (g := (mkF m 25 #[.val (.ref a), .val (.ref a)] [(.int (1 : Int32)), (.ref a), (.int (if (1 : Int64) = cd then 1 else 0)), (.ref b), (.ref b)])) rfl (by rw [hml]; rfl) (Steps.refl _) (argsL := [(.int (1 : Int32))]) (rest := [(.int (if (1 : Int64) = cd then 1 else 0)), (.ref b), (.ref b)]) (lenOf pd_9 rfl) rfl (by show 2 * 0 + _ ≤ _; exact Nat.le_of_eq rfl) (hb hby d13_25) (fun _ _ => ⟨rfl, e5, (by decide : (0 + 1) + 1 + 0 ≤ _), (by decide : (0 + 3) + 1 + 0 ≤ _)⟩)
  dsimp only [Pt.U, Pt.locs, Pt.cells, Pt.slots] at X6 l6 y6 z6 st6 hQ6
  subst l6 y6 z6
  obtain ⟨rfl, N6q, e6⟩ := hQ6
  have N6 := Fr.app N5 N6q
  refine Go.at (S' := T6.setTop (mkF m 30 #[.val (.ref a), .val (.ref a)] [(.ref x1), (.int (if (1 : Int64) = cd then 1 else 0)), (.ref b), (.ref b)])) st6 ?_
  obtain ⟨T7, X7, e7, st7⟩ := castY X6 hx hZ hown (hw _ (List.mem_of_getElem? (i := 122) rfl)) e6 (Ins.self (E_x1.ext EX)) (g := (mkF m 30 #[.val (.ref a), .val (.ref a)] [(.ref x1), (.int (if (1 : Int64) = cd then 1 else 0)), (.ref b), (.ref b)])) rfl rfl (hb hby d13_30)
  refine Go.by (S' := T7.setTop (mkF m 33 #[.val (.ref a), .val (.ref a)] [(.ref x1), (.int (if (1 : Int64) = cd then 1 else 0)), (.ref b), (.ref b)])) st7 ?_
  obtain ⟨cq8, kq8, q8a, q8b, q8c⟩ := isOf hZ e7 (E_x1.ext EX)
  obtain ⟨_, _, ⟨T8, L8, k8, n8⟩, -, X8, ⟨Lc8, hQ8, l8, y8, z8⟩, st8⟩ := X7.virtualBack hx (y := (⟨"java/lang/Long", "longValue", "()J"⟩ : MethodName)) (z := (⟨"java/lang/Long", "longValue", "()J"⟩ : MethodName)) hown (mvT hZ (hw _ (List.mem_of_getElem? (i := 123) rfl))) (mvT hZ (hw _ (List.mem_of_getElem? (i := 118) rfl))) (notFace_of_selects (args := #[]) (mvT hZ (hw _ (List.mem_of_getElem? (i := 120) rfl)))) (mvT hZ (hw _ (List.mem_of_getElem? (i := 120) rfl))) (mvT hZ (hw _ (List.mem_of_getElem? (i := 119) rfl))) (by decide) (backOf (W := 3) (rm19 l Z a0 hw [] x1 rem T3.heap n0 (F_x1_value.ext EX)) hZ (hw _ (List.mem_of_getElem? (i := 121) rfl)) (hw _ (List.mem_of_getElem? (i := 30) rfl)) (by decide) (by decide)) q8a q8c (g := (mkF m 33 #[.val (.ref a), .val (.ref a)] [(.ref x1), (.int (if (1 : Int64) = cd then 1 else 0)), (.ref b), (.ref b)])) rfl (by rw [hml]; rfl) (Steps.refl _) (argsL := []) (rest := [(.int (if (1 : Int64) = cd then 1 else 0)), (.ref b), (.ref b)]) (lenOf pd_11 rfl) rfl (by show 2 * 0 + _ ≤ _; exact Nat.le_of_eq rfl) (hb hby d13_33) (fun _ _ => ⟨rfl, e7, (by decide : (0 + 1) + 1 + 0 ≤ _), (by decide : (0 + 3) + 1 + 0 ≤ _)⟩)
  dsimp only [Pt.U, Pt.locs, Pt.cells, Pt.slots] at X8 l8 y8 z8 st8 hQ8
  subst l8 y8 z8
  obtain ⟨rfl, N8q, e8⟩ := hQ8
  have N8 := Fr.app N6 N8q
  refine Go.at (S' := T8.setTop (mkF m 36 #[.val (.ref a), .val (.ref a)] [(.long rem), (.int (if (1 : Int64) = cd then 1 else 0)), (.ref b), (.ref b)])) st8 ?_
  obtain ⟨_, _, ⟨T9, L9, k9, n9⟩, -, X9, ⟨Lc9, hQ9, l9, y9, z9⟩, st9⟩ := Jvm.LawKit.callS X8 hx (y := (⟨"java/lang/Math", "toIntExact", "(J)I"⟩ : MethodName)) hown (mvT hZ (hw _ (List.mem_of_getElem? (i := 124) rfl))) (mvT hZ (hw _ (List.mem_of_getElem? (i := 125) rfl))) (mvT hZ (hw _ (List.mem_of_getElem? (i := 62) rfl))) (mvT hZ (hw _ (List.mem_of_getElem? (i := 126) rfl))) (by decide) (backOf (W := 3) (rm20 l Z a0 hw [] rem T3.heap n0 hrem) hZ (hw _ (List.mem_of_getElem? (i := 126) rfl)) (hw _ (List.mem_of_getElem? (i := 62) rfl)) (by decide) (by decide)) (g := (mkF m 36 #[.val (.ref a), .val (.ref a)] [(.long rem), (.int (if (1 : Int64) = cd then 1 else 0)), (.ref b), (.ref b)])) rfl (by rw [hml]; rfl) (argsL := [(.long rem)]) (rest := [(.int (if (1 : Int64) = cd then 1 else 0)), (.ref b), (.ref b)]) (lenOf pd_12 rfl) rfl (by show 2 * 0 + _ ≤ _; exact Nat.le_of_eq rfl) (hb hby d13_36) (fun _ _ => ⟨rfl, e8, (by decide : (0 + 1) + 1 + 0 ≤ _), (by decide : (0 + 3) + 1 + 0 ≤ _)⟩)
  dsimp only [Pt.U, Pt.locs, Pt.cells, Pt.slots] at X9 l9 y9 z9 st9 hQ9
  subst l9 y9 z9
  obtain ⟨rfl, N9q, e9⟩ := hQ9
  have N9 := Fr.app N8 N9q
  refine Go.by (S' := T9.setTop (mkF m 39 #[.val (.ref a), .val (.ref a)] [(.int rem.toInt32), (.int (if (1 : Int64) = cd then 1 else 0)), (.ref b), (.ref b)])) st9 ?_
  refine Go.by (S' := T9.setTop (mkF m 40 #[.val (.ref a), .val (.ref a)] [(.ref a), (.int rem.toInt32), (.int (if (1 : Int64) = cd then 1 else 0)), (.ref b), (.ref b)])) (fun _ kt => XS.aloadN X9.here hx rfl (hb hby d13_39) rfl rfl  kt) ?_
  refine Go.by (S' := T9.setTop (mkF m 41 #[.val (.ref a), .val (.ref a)] [(.int (2 : Int32)), (.ref a), (.int rem.toInt32), (.int (if (1 : Int64) = cd then 1 else 0)), (.ref b), (.ref b)])) (fun _ kt => XT.iconstV X9.here hx rfl (2 : Int32) (hb hby d13_40) (by decide)  kt) ?_
  obtain ⟨clG2, AG2, -, SzG2, -, HG2, -⟩ := V.ext EX
  have hinG2 : ¬ ((2 : Int32) < 0 ∨ clG2.slots.size ≤ (2 : Int32).toNatClampNeg) := inb_of SzG2 ⟨by decide, by decide⟩
  obtain ⟨cq10, kq10, q10a, q10b, q10c⟩ := isOf hZ e9 (E_a.ext EX)
  obtain ⟨_, _, ⟨T10, L10, k10, n10⟩, -, X10, ⟨Lc10, hQ10, l10, y10, z10⟩, st10⟩ := X9.interfaceBack hx (xi := (⟨"java/util/List", "get", "(I)Ljava/lang/Object;"⟩ : MethodName)) (y := (⟨"java/util/ArrayList", "get", "(I)Ljava/lang/Object;"⟩ : MethodName)) hown (mvT hZ (hw _ (List.mem_of_getElem? (i := 91) rfl))) (mvT hZ (hw _ (List.mem_of_getElem? (i := 92) rfl))) (mvT hZ (hw _ (List.mem_of_getElem? (i := 93) rfl))) (mvT hZ (hw _ (List.mem_of_getElem? (i := 94) rfl))) (mvT hZ (hw _ (List.mem_of_getElem? (i := 95) rfl))) (mvT hZ (hw _ (List.mem_of_getElem? (i := 96) rfl))) (mvT hZ (hw _ (List.mem_of_getElem? (i := 97) rfl))) (mvT hZ (hw _ (List.mem_of_getElem? (i := 87) rfl))) (by decide) (backOf (W := 4) (rm14 l Z a0 hw [] a (2 : Int32) (3 : Int32) r x2 clG2 T3.heap n0 (F_a_size.ext EX) (E_a.ext EX) (F_a_elementData.ext EX) AG2 hinG2 (Has.at HG2 hinG2 rfl) (by decide)) hZ (hw _ (List.mem_of_getElem? (i := 98) rfl)) (hw _ (List.mem_of_getElem? (i := 4) rfl)) (by decide) (by decide)) q10a q10b q10c (g := (mkF m 41 #[.val (.ref a), .val (.ref a)] [(.int (2 : Int32)), (.ref a), (.int rem.toInt32), (.int (if (1 : Int64) = cd then 1 else 0)), (.ref b), (.ref b)])) rfl (by rw [hml]; rfl) (Steps.refl _) (argsL := [(.int (2 : Int32))]) (rest := [(.int rem.toInt32), (.int (if (1 : Int64) = cd then 1 else 0)), (.ref b), (.ref b)]) (lenOf pd_9 rfl) rfl (by show 2 * 0 + _ ≤ _; exact Nat.le_of_eq rfl) (hb hby d13_41) (fun _ _ => ⟨rfl, e9, (by decide : (0 + 1) + 1 + 0 ≤ _), (by decide : (0 + 3) + 1 + 0 ≤ _)⟩)
  dsimp only [Pt.U, Pt.locs, Pt.cells, Pt.slots] at X10 l10 y10 z10 st10 hQ10
  subst l10 y10 z10
  obtain ⟨rfl, N10q, e10⟩ := hQ10
  have N10 := Fr.app N9 N10q
  refine Go.at (S' := T10.setTop (mkF m 46 #[.val (.ref a), .val (.ref a)] [(.ref x2), (.int rem.toInt32), (.int (if (1 : Int64) = cd then 1 else 0)), (.ref b), (.ref b)])) st10 ?_
  obtain ⟨T11, X11, e11, st11⟩ := castY X10 hx hZ hown (hw _ (List.mem_of_getElem? (i := 122) rfl)) e10 (Ins.self (E_x2.ext EX)) (g := (mkF m 46 #[.val (.ref a), .val (.ref a)] [(.ref x2), (.int rem.toInt32), (.int (if (1 : Int64) = cd then 1 else 0)), (.ref b), (.ref b)])) rfl rfl (hb hby d13_46)
  refine Go.by (S' := T11.setTop (mkF m 49 #[.val (.ref a), .val (.ref a)] [(.ref x2), (.int rem.toInt32), (.int (if (1 : Int64) = cd then 1 else 0)), (.ref b), (.ref b)])) st11 ?_
  obtain ⟨cq12, kq12, q12a, q12b, q12c⟩ := isOf hZ e11 (E_x2.ext EX)
  obtain ⟨_, _, ⟨T12, L12, k12, n12⟩, -, X12, ⟨Lc12, hQ12, l12, y12, z12⟩, st12⟩ := X11.virtualBack hx (y := (⟨"java/lang/Long", "longValue", "()J"⟩ : MethodName)) (z := (⟨"java/lang/Long", "longValue", "()J"⟩ : MethodName)) hown (mvT hZ (hw _ (List.mem_of_getElem? (i := 123) rfl))) (mvT hZ (hw _ (List.mem_of_getElem? (i := 118) rfl))) (notFace_of_selects (args := #[]) (mvT hZ (hw _ (List.mem_of_getElem? (i := 120) rfl)))) (mvT hZ (hw _ (List.mem_of_getElem? (i := 120) rfl))) (mvT hZ (hw _ (List.mem_of_getElem? (i := 119) rfl))) (by decide) (backOf (W := 4) (rm19 l Z a0 hw [] x2 ms T3.heap n0 (F_x2_value.ext EX)) hZ (hw _ (List.mem_of_getElem? (i := 121) rfl)) (hw _ (List.mem_of_getElem? (i := 30) rfl)) (by decide) (by decide)) q12a q12c (g := (mkF m 49 #[.val (.ref a), .val (.ref a)] [(.ref x2), (.int rem.toInt32), (.int (if (1 : Int64) = cd then 1 else 0)), (.ref b), (.ref b)])) rfl (by rw [hml]; rfl) (Steps.refl _) (argsL := []) (rest := [(.int rem.toInt32), (.int (if (1 : Int64) = cd then 1 else 0)), (.ref b), (.ref b)]) (lenOf pd_11 rfl) rfl (by show 2 * 0 + _ ≤ _; exact Nat.le_of_eq rfl) (hb hby d13_49) (fun _ _ => ⟨rfl, e11, (by decide : (0 + 1) + 1 + 0 ≤ _), (by decide : (0 + 3) + 1 + 0 ≤ _)⟩)
  dsimp only [Pt.U, Pt.locs, Pt.cells, Pt.slots] at X12 l12 y12 z12 st12 hQ12
  subst l12 y12 z12
  obtain ⟨rfl, N12q, e12⟩ := hQ12
  have N12 := Fr.app N10 N12q
  refine Go.at (S' := T12.setTop (mkF m 52 #[.val (.ref a), .val (.ref a)] [(.long ms), (.int rem.toInt32), (.int (if (1 : Int64) = cd then 1 else 0)), (.ref b), (.ref b)])) st12 ?_
  obtain ⟨_, _, ⟨T13, L13, k13, n13⟩, -, X13, ⟨Lc13, hQ13, l13, y13, z13⟩, st13⟩ := Jvm.LawKit.callS X12 hx (y := (⟨"java/time/Duration", "ofMillis", "(J)Ljava/time/Duration;"⟩ : MethodName)) hown (mvT hZ (hw _ (List.mem_of_getElem? (i := 127) rfl))) (mvT hZ (hw _ (List.mem_of_getElem? (i := 128) rfl))) (mvT hZ (hw _ (List.mem_of_getElem? (i := 129) rfl))) (mvT hZ (hw _ (List.mem_of_getElem? (i := 130) rfl))) (by decide) (backOf (W := 4) (rm21 l Z a0 hw [] ms tz T3.heap n0 (Nat.le_trans Z0 EX.1) (SZ.ext EX) (E_tz.ext EX) (F_tz_seconds.ext EX) (F_tz_nanos.ext EX) hn) hZ (hw _ (List.mem_of_getElem? (i := 130) rfl)) (hw _ (List.mem_of_getElem? (i := 129) rfl)) (by decide) (by decide)) (g := (mkF m 52 #[.val (.ref a), .val (.ref a)] [(.long ms), (.int rem.toInt32), (.int (if (1 : Int64) = cd then 1 else 0)), (.ref b), (.ref b)])) rfl (by rw [hml]; rfl) (argsL := [(.long ms)]) (rest := [(.int rem.toInt32), (.int (if (1 : Int64) = cd then 1 else 0)), (.ref b), (.ref b)]) (lenOf pd_13 rfl) rfl (by show 2 * 0 + _ ≤ _; exact Nat.le_of_eq rfl) (hb hby d13_52) (fun _ _ => ⟨rfl, e12, (by decide : (0 + 1) + 1 + 1 ≤ _), (by decide : (0 + 3) + 1 + 2 ≤ _)⟩)
  dsimp only [Pt.U, Pt.locs, Pt.cells, Pt.slots] at X13 l13 y13 z13 st13 hQ13
  subst l13 y13 z13
  obtain ⟨d, rfl, N13q, Ex13, E_d, F_d_seconds, F_d_nanos⟩ := hQ13
  have N13 := Fr.app N12 N13q
  have E_b := E_b.ext Ex13
  have F_b_allowed := F_b_allowed.ext Ex13
  have F_b_remaining := F_b_remaining.ext Ex13
  have F_b_retryAfter := F_b_retryAfter.ext Ex13
  have E_o1 := E_o1.ext Ex13
  have F_o1_value := F_o1_value.ext Ex13
  have EX := own_ext_trans EX Ex13
  refine Go.by (S' := T13.setTop (mkF m 55 #[.val (.ref a), .val (.ref a)] [(.ref d), (.int rem.toInt32), (.int (if (1 : Int64) = cd then 1 else 0)), (.ref b), (.ref b)])) st13 ?_
  obtain ⟨_, _, ⟨T14, L14, k14, n14⟩, -, X14, hS14, hgr14, ⟨Lc14, hQ14, l14, y14, z14⟩, st14⟩ := X13.specialBackS hx (y := (⟨"com/example/keys_to_patterns/keystopatterns/limit/Decision", "<init>", "(ZILjava/time/Duration;)V"⟩ : MethodName)) rfl hown (mvT hZ (hw _ (List.mem_of_getElem? (i := 147) rfl))) (mvT hZ (hw _ (List.mem_of_getElem? (i := 148) rfl))) (mvT hZ (hw _ (List.mem_of_getElem? (i := 149) rfl))) (by decide) (backOfS (W := 1) (rm24 l Z a0 hw [] b (if (1 : Int64) = cd then 1 else 0) rem.toInt32 d (secF ms) (nanF ms) T13.heap n0 F_b_allowed F_b_remaining F_b_retryAfter E_b g_b E_d F_d_seconds F_d_nanos hpr hs hzero) hZ (hw _ (List.mem_of_getElem? (i := 149) rfl)) (hw _ (List.mem_of_getElem? (i := 84) rfl)) (by decide) (by decide)) (g := (mkF m 55 #[.val (.ref a), .val (.ref a)] [(.ref d), (.int rem.toInt32), (.int (if (1 : Int64) = cd then 1 else 0)), (.ref b), (.ref b)])) rfl (by rw [hml]; rfl) (Steps.refl _) (a := b) (argsL := [(.int (if (1 : Int64) = cd then 1 else 0)), (.int rem.toInt32), (.ref d)]) (rest := [(.ref b)]) (lenOf pd_16 rfl) rfl (by show 2 * 0 + _ ≤ _; exact Nat.le_of_eq rfl) (hb hby d13_55) (fun _ _ => ⟨rfl, rfl, (by decide : (0 + 1) + 1 + 1 + 2 ≤ _), (by decide : (0 + 3) + 1 + 2 + 44 ≤ _)⟩)
  dsimp only [Pt.U, Pt.locs, Pt.cells, Pt.slots] at X14 l14 y14 z14 st14 hQ14 hS14 hgr14
  subst l14 y14 z14
  obtain ⟨rfl, N14q, K14, E_b', F_b_allowed, F_b_remaining, F_b_retryAfter⟩ := hQ14
  have N14 := Fr.app N13 N14q
  have hown := (hS14.1.alike.findClass _ _).trans hown
  have hZ := State.Warmed39.trans hZ hS14.1
  have neD : d ≠ b := Exa.ne E_d E_b (by decide)
  have nin : d ∉ [b] := ninS neD nin0
  have E_d := E_d.keep K14
  have F_d_seconds := F_d_seconds.keep K14 nin
  have F_d_nanos := F_d_nanos.keep K14 nin
  have EX := own_ext_keep EX K14 (allS sz_b all0)
  have hsz := Nat.le_refl T14.heap.size
  refine Go.at (S' := T14.setTop (mkF m 58 #[.val (.ref a), .val (.ref a)] [(.ref b)])) st14 ?_
  refine goRetW (s := s) X14 (v := some (.ref b)) hS14 hsz (fun h => by rw [Bd.returns] at h; cases h) Bd.notSynchronized (fun fs hr => retOut X14 hx Bd.returns rfl (Or.inr (Or.inr (Or.inr (Or.inr ⟨rfl, rfl, rfl⟩)))) (hb hby d13_58) hr) (by decide) (by decide) ?_
  exact ⟨b, d, rfl, N14, EX, E_b', F_b_allowed, F_b_remaining, F_b_retryAfter, E_d, F_d_seconds, F_d_nanos⟩
theorem own_rem (q : Int64) : 0 ≤ (q &&& 2147483647).toInt ∧ (q &&& 2147483647).toInt < 2147483648 := by
  have h := c_maskL q 2147483647 31 (by decide) (by decide)
  omega
theorem own_ms (q : Int64) : 0 ≤ (q &&& 9223372036854775807).toInt := by
  have h := c_maskL q 9223372036854775807 63 (by decide) (by decide)
  omega
theorem own_num {cd rem ms : Int64} {ea : Int32} (hr : 0 ≤ rem.toInt ∧ rem.toInt < 2147483648) (hc : (cd = 1 ∧ ea = 1 ∧ ms = 0) ∨ (¬ cd = 1 ∧ ea = 0 ∧ 0 ≤ ms.toInt)) :
    rem.toInt32.toInt64 = rem ∧ ¬ rem.toInt32 < 0 ∧ ¬ (ms - (ms / (1000 : Int64)) * (1000 : Int64)).toInt32 < 0 ∧ ¬ secF ms < 0 ∧ (¬ (if (1 : Int64) = cd then (1 : Int32) else 0) = 0 → secF ms = 0 ∧ nanF ms = 0) ∧ nar .boolean (nar .boolean (if (1 : Int64) = cd then 1 else 0)) = ea := by
  have hms : 0 ≤ ms.toInt := by
    rcases hc with ⟨-, -, rfl⟩ | ⟨-, -, h⟩
    · decide
    · exact h
  have e1 : rem.toInt32.toInt = rem.toInt := by rw [Int64.toInt_toInt32]; exact Int.bmod_eq_of_le (by omega) (by omega)
  have e0 : (0 : Int32).toInt = 0 := by decide
  have e00 : (0 : Int64).toInt = 0 := by decide
  have k : (1000 : Int64).toInt = 1000 := by decide
  have hlt := ms.toInt_lt
  have d1 : (ms / 1000).toInt = ms.toInt / 1000 := by
    rw [Int64.toInt_div_of_ne_right _ _ (by decide), k, Int.tdiv_eq_ediv_of_nonneg hms]
  have m1 : (ms / 1000 * 1000).toInt = ms.toInt / 1000 * 1000 := by
    rw [Int64.toInt_mul, d1, k]
    exact Int.bmod_eq_of_le (by omega) (by omega)
  have s1 : (ms - ms / 1000 * 1000).toInt = ms.toInt % 1000 := by
    rw [Int64.toInt_sub, m1, Int.bmod_eq_of_le (by omega) (by omega)]; omega
  have n1 : (ms - ms / 1000 * 1000).toInt32.toInt = ms.toInt % 1000 := by
    rw [Int64.toInt_toInt32, s1]; exact Int.bmod_eq_of_le (by omega) (by omega)
  refine ⟨?_, ?_, ?_, ?_, ?_, ?_⟩
  · apply Int64.toInt_inj.mp; rw [Int32.toInt_toInt64, e1]
  · rw [Int32.lt_iff_toInt_lt, e1, e0]; omega
  · rw [Int32.lt_iff_toInt_lt, n1, e0]; omega
  · unfold secF; rw [Int64.lt_iff_toInt_lt, d1, e00]; omega
  · intro h
    rcases hc with ⟨rfl, -, rfl⟩ | ⟨hq, -, -⟩
    · decide
    · rw [if_neg (fun q => hq q.symm)] at h; exact absurd rfl h
  · rcases hc with ⟨rfl, rfl, -⟩ | ⟨hq, rfl, -⟩
    · decide
    · rw [if_neg (fun q => hq q.symm)]; decide
theorem ef_rm0 (m : MethodId) (x0 : Int64) (x1 : Int64) (x2 : Int64) (x3 : Int32) : entryFrame m #[(.long x0), (.long x1), (.long x2), (.int x3)] maxLocals = mkF m 0 #[.val (.long x0), .second, .val (.long x1), .second, .val (.long x2), .second, .val (.int x3), .unset, .unset, .unset, .unset, .unset, .unset, .unset, .unset, .unset, .unset] [] := by first | (simp [entryFrame, mkF, argsToLocals, Value.category, maxLocals]; done) | rfl
theorem pn_rm0 : plainName "com/example/keys_to_patterns/keystopatterns/limit/DecisionFromReplyPinLaw" = true := by first | (simp [plainName, overriddenIn]; done) | decide +kernel
set_option maxRecDepth 65536 in
set_option maxHeartbeats 40000000 in
theorem rm0 (l : Launch) (Z : State) (a0 : Array Value) (hw : ∀ d ∈ tables_1, d.before a0 Z = true) (ws : List Jvm.Cond) (q0 : Int64) (q1 : Int64) (q2 : Int64) (p3 : Int32) (te : Addr) (clE : Cell) (tc : Addr) (cl : Cell) (val : Int32 → Value) (tz : Addr) (h0 : Heap) (n0 : Nat) (Z0 : n0 ≤ h0.size) (hn0 : n0 = h0.size) (SD : Sta Z h0 "java/util/ArrayList" "DEFAULTCAPACITY_EMPTY_ELEMENTDATA" "[Ljava/lang/Object;" (.ref te)) (AE : Arr Z h0 te clE (.object "java/lang/Object")) (szE : clE.slots.size = 0) (SC : Sta Z h0 "java/lang/Long$LongCache" "cache" "[Ljava/lang/Long;" (.ref tc)) (BX : Bxs Z tc cl "java/lang/Long" "J" 256 val) (hval : ∀ j, val j = .long (j - 128).toInt64) (EZ : Ext Z.heap h0) (SZ : Sta Z h0 "java/time/Duration" "ZERO" "Ljava/time/Duration;" (.ref tz)) (E_tz : Exa Z h0 tz "java/time/Duration") (F_tz_seconds : Fld Z h0 tz "java/time/Duration" "seconds" "J" (.long 0)) (F_tz_nanos : Fld Z h0 tz "java/time/Duration" "nanos" "I" (.int 0)) :
    MetFree l x (head1 (Jvm.Cond.code x code maxLocals ret :: ws) room_1) (fun aa U => aa = #[(.long q0), (.long q1), (.long q2), (.int p3)] ∧ Z.Warmed39 U.vm ∧ U.heap = h0) (fun _ _ _ _ _ => True) (fun _ U o U' => ∃ v L, o = .returned v ∧ LawQ n0 v U'.heap L ∧ ReturnedEndW U o U' L room_1.cells room_1.slots) := by
  refine MetFree.of_bodySF (plainFor_of_name pn_rm0) hisR ?_
  intro p e s m args below meth c s₁ Bd hml0 hP hK
  obtain ⟨rfl, hZ, hh⟩ := hP
  have hx := Bd.exec
  have hby := Bd.bytes
  have hml : c.maxLocals = 17 := hml0
  have hown : s.vm.findClass "com/example/keys_to_patterns/keystopatterns/limit/DecisionFromReplyPinLaw" = some m.cls := findClass_of_methodNamed Bd.named
  have hnm := (name_of_methodNamed Bd.named Bd.method).1
  have X0 : Stand p l e room_1 s m #[(.long q0), (.long q1), (.long q2), (.int p3)] below meth c s₁ [] 0 0 := Stand.of_body Bd
  have e0 : s₁.heap = h0 := by rw [← hh, Bd.state]; rfl
  have N0 := Fr.nil n0
  have t78 : ∀ (w7 : Int32) (cd : Int64) (ea : Int32) (rem ms : Int64), (0 ≤ rem.toInt ∧ rem.toInt < 2147483648) → ((cd = 1 ∧ ea = 1 ∧ ms = 0) ∨ (¬ cd = 1 ∧ ea = 0 ∧ 0 ≤ ms.toInt)) → Go p e below (s₁.setTop (mkF m 78 #[.val (.long q0), .second, .val (.long q1), .second, .val (.long q2), .second, .val (.int p3), .val (.int w7), .val (.long cd), .second, .val (.int ea), .val (.long rem), .second, .val (.long ms), .second, .unset, .unset] [])) (fun o U => ∃ v L, o = Outcome.returned v ∧ LawQ n0 v U.heap L ∧ ReturnedEndW s o U L room_1.cells room_1.slots) := by
    intro w7 cd ea rem ms hr0 hcase
    obtain ⟨hrem, hpr, hn, hs, hzero, hea⟩ := own_num hr0 hcase
    obtain ⟨T1, h1, X1, e1, Ex1, A1, D1, -, st1⟩ := newO X0 hx hZ hown (hw _ (List.mem_of_getElem? (i := 2) rfl)) (hw _ (List.mem_of_getElem? (i := 3) rfl)) (hw _ (List.mem_of_getElem? (i := 4) rfl)) e0 (g := (mkF m 78 #[.val (.long q0), .second, .val (.long q1), .second, .val (.long q2), .second, .val (.int p3), .val (.int w7), .val (.long cd), .second, .val (.int ea), .val (.long rem), .second, .val (.long ms), .second, .unset, .unset] [])) rfl (hb hby at_78) (by decide) (by decide)
    obtain ⟨b1, gg_b1⟩ : ∃ z, z = h0.size := ⟨_, rfl⟩
    rw [← gg_b1] at A1 D1 st1
    have sz_b1 : h0.size ≤ b1 := by rw [gg_b1]; exact (own_ext_refl h0).1
    have g_b1 : n0 ≤ b1 := Nat.le_trans Z0 sz_b1
    have EX := own_ext_trans (own_ext_refl h0) Ex1
    have E_b1 := A1
    have F_b1_modCount : Fld Z h1 b1 "java/util/AbstractList" "modCount" "I" (.int (0 : Int32)) := D1 (Or.inl (hw _ (List.mem_of_getElem? (i := 24) rfl))) (ty := .int) (by decide)
    have F_b1_elementData : Fld Z h1 b1 "java/util/ArrayList" "elementData" "[Ljava/lang/Object;" .null := D1 (Or.inl (hw _ (List.mem_of_getElem? (i := 27) rfl))) (ty := (.array (.object "java/lang/Object"))) (by decide)
    have F_b1_size : Fld Z h1 b1 "java/util/ArrayList" "size" "I" (.int (0 : Int32)) := D1 (Or.inl (hw _ (List.mem_of_getElem? (i := 44) rfl))) (ty := .int) (by decide)
    refine Go.by (S' := T1.setTop (mkF m 81 #[.val (.long q0), .second, .val (.long q1), .second, .val (.long q2), .second, .val (.int p3), .val (.int w7), .val (.long cd), .second, .val (.int ea), .val (.long rem), .second, .val (.long ms), .second, .unset, .unset] [(.ref b1)])) st1 ?_
    refine Go.by (S' := T1.setTop (mkF m 82 #[.val (.long q0), .second, .val (.long q1), .second, .val (.long q2), .second, .val (.int p3), .val (.int w7), .val (.long cd), .second, .val (.int ea), .val (.long rem), .second, .val (.long ms), .second, .unset, .unset] [(.ref b1), (.ref b1)])) (fun _ kt => XS.dup X1.here hx rfl (hb hby at_81) rfl rfl  kt) ?_
    obtain ⟨_, _, ⟨T2, L2, k2, n2⟩, -, X2, ⟨Lc2, hQ2, l2, y2, z2⟩, st2⟩ := X1.specialBack hx (y := (⟨"java/util/ArrayList", "<init>", "()V"⟩ : MethodName)) rfl hown (mvT hZ (hw _ (List.mem_of_getElem? (i := 5) rfl))) (mvT hZ (hw _ (List.mem_of_getElem? (i := 6) rfl))) (mvT hZ (hw _ (List.mem_of_getElem? (i := 7) rfl))) (by decide) (backOf (W := 1) (rm1 l Z a0 hw [] b1 te h1 n0 F_b1_modCount F_b1_size F_b1_elementData E_b1 g_b1 (SD.ext EX)) hZ (hw _ (List.mem_of_getElem? (i := 7) rfl)) (hw _ (List.mem_of_getElem? (i := 4) rfl)) (by decide) (by decide)) (g := (mkF m 82 #[.val (.long q0), .second, .val (.long q1), .second, .val (.long q2), .second, .val (.int p3), .val (.int w7), .val (.long cd), .second, .val (.int ea), .val (.long rem), .second, .val (.long ms), .second, .unset, .unset] [(.ref b1), (.ref b1)])) rfl (by rw [hml]; rfl) (Steps.refl _) (a := b1) (argsL := []) (rest := [(.ref b1)]) (lenOf pd_0 rfl) rfl (by show 2 * 0 + _ ≤ _; exact Nat.le_of_eq rfl) (hb hby at_82) (fun _ _ => ⟨rfl, e1, (by decide : (0 + 1) + 0 ≤ _), (by decide : (0 + 3) + 0 ≤ _)⟩)
    dsimp only [Pt.U, Pt.locs, Pt.cells, Pt.slots] at X2 l2 y2 z2 st2 hQ2
    subst l2 y2 z2
    obtain ⟨rfl, N2q, K2, E_b1, F_b1_modCount, F_b1_size, F_b1_elementData⟩ := hQ2
    have N2 := Fr.app N0 N2q
    have EX := own_ext_keep EX K2 (allS sz_b1 all0)
    refine Go.at (S' := T2.setTop (mkF m 85 #[.val (.long q0), .second, .val (.long q1), .second, .val (.long q2), .second, .val (.int p3), .val (.int w7), .val (.long cd), .second, .val (.int ea), .val (.long rem), .second, .val (.long ms), .second, .unset, .unset] [(.ref b1)])) st2 ?_
    refine Go.by (S' := T2.setTop (mkF m 87 #[.val (.long q0), .second, .val (.long q1), .second, .val (.long q2), .second, .val (.int p3), .val (.int w7), .val (.long cd), .second, .val (.int ea), .val (.long rem), .second, .val (.long ms), .second, .val (.ref b1), .unset] [])) (fun _ kt => XS.astore X2.here hx rfl (hb hby at_85) rfl rfl (l' := #[.val (.long q0), .second, .val (.long q1), .second, .val (.long q2), .second, .val (.int p3), .val (.int w7), .val (.long cd), .second, .val (.int ea), .val (.long rem), .second, .val (.long ms), .second, .val (.ref b1), .unset]) rfl  kt) ?_
    refine Go.by (S' := T2.setTop (mkF m 89 #[.val (.long q0), .second, .val (.long q1), .second, .val (.long q2), .second, .val (.int p3), .val (.int w7), .val (.long cd), .second, .val (.int ea), .val (.long rem), .second, .val (.long ms), .second, .val (.ref b1), .unset] [(.ref b1)])) (fun _ kt => XS.aload X2.here hx rfl (hb hby at_87) rfl rfl  kt) ?_
    refine Go.by (S' := T2.setTop (mkF m 91 #[.val (.long q0), .second, .val (.long q1), .second, .val (.long q2), .second, .val (.int p3), .val (.int w7), .val (.long cd), .second, .val (.int ea), .val (.long rem), .second, .val (.long ms), .second, .val (.ref b1), .unset] [(.long cd), (.ref b1)])) (fun _ kt => XS.lload X2.here hx rfl (hb hby at_89) rfl  kt) ?_
    obtain ⟨_, _, ⟨T3, L3, k3, n3⟩, -, X3, ⟨Lc3, hQ3, l3, y3, z3⟩, st3⟩ := Jvm.LawKit.callS X2 hx (y := (⟨"java/lang/Long", "valueOf", "(J)Ljava/lang/Long;"⟩ : MethodName)) hown (mvT hZ (hw _ (List.mem_of_getElem? (i := 28) rfl))) (mvT hZ (hw _ (List.mem_of_getElem? (i := 29) rfl))) (mvT hZ (hw _ (List.mem_of_getElem? (i := 30) rfl))) (mvT hZ (hw _ (List.mem_of_getElem? (i := 31) rfl))) (by decide) (backOf (W := 1) (rm5 l Z a0 hw [] cd tc cl val T2.heap n0 (Nat.le_trans Z0 EX.1) (SC.ext EX) BX hval (own_ext_trans EZ EX)) hZ (hw _ (List.mem_of_getElem? (i := 31) rfl)) (hw _ (List.mem_of_getElem? (i := 30) rfl)) (by decide) (by decide)) (g := (mkF m 91 #[.val (.long q0), .second, .val (.long q1), .second, .val (.long q2), .second, .val (.int p3), .val (.int w7), .val (.long cd), .second, .val (.int ea), .val (.long rem), .second, .val (.long ms), .second, .val (.ref b1), .unset] [(.long cd), (.ref b1)])) rfl (by rw [hml]; rfl) (argsL := [(.long cd)]) (rest := [(.ref b1)]) (lenOf pd_1 rfl) rfl (by show 2 * 0 + _ ≤ _; exact Nat.le_of_eq rfl) (hb hby at_91) (fun _ _ => ⟨rfl, rfl, (by decide : (0 + 1) + 1 ≤ _), (by decide : (0 + 3) + 1 ≤ _)⟩)
    dsimp only [Pt.U, Pt.locs, Pt.cells, Pt.slots] at X3 l3 y3 z3 st3 hQ3
    subst l3 y3 z3
    obtain ⟨x0, rfl, N3q, Ex3, E_x0, F_x0_value⟩ := hQ3
    have N3 := Fr.app N2 N3q
    have E_b1 := E_b1.ext Ex3
    have F_b1_modCount := F_b1_modCount.ext Ex3
    have F_b1_size := F_b1_size.ext Ex3
    have F_b1_elementData := F_b1_elementData.ext Ex3
    have EX := own_ext_trans EX Ex3
    refine Go.by (S' := T3.setTop (mkF m 94 #[.val (.long q0), .second, .val (.long q1), .second, .val (.long q2), .second, .val (.int p3), .val (.int w7), .val (.long cd), .second, .val (.int ea), .val (.long rem), .second, .val (.long ms), .second, .val (.ref b1), .unset] [(.ref x0), (.ref b1)])) st3 ?_
    obtain ⟨cq4, kq4, q4a, q4b, q4c⟩ := isOf hZ rfl (E_b1)
    obtain ⟨_, _, ⟨T4, L4, k4, n4⟩, -, X4, ⟨Lc4, hQ4, l4, y4, z4⟩, st4⟩ := X3.virtualBack hx (y := (⟨"java/util/ArrayList", "add", "(Ljava/lang/Object;)Z"⟩ : MethodName)) (z := (⟨"java/util/ArrayList", "add", "(Ljava/lang/Object;)Z"⟩ : MethodName)) hown (mvT hZ (hw _ (List.mem_of_getElem? (i := 36) rfl))) (mvT hZ (hw _ (List.mem_of_getElem? (i := 37) rfl))) (notFace_of_selects (args := #[]) (mvT hZ (hw _ (List.mem_of_getElem? (i := 39) rfl)))) (mvT hZ (hw _ (List.mem_of_getElem? (i := 39) rfl))) (mvT hZ (hw _ (List.mem_of_getElem? (i := 38) rfl))) (by decide) (backOf (W := 0) (rm6a l Z a0 hw [] b1 x0 0 te clE T3.heap n0 F_b1_modCount F_b1_size F_b1_elementData E_b1 g_b1 (SD.ext EX) (AE.ext EX) szE (Nat.le_trans Z0 EX.1) E_x0) hZ (hw _ (List.mem_of_getElem? (i := 40) rfl)) (hw _ (List.mem_of_getElem? (i := 4) rfl)) (by decide) (by decide)) q4a q4c (g := (mkF m 94 #[.val (.long q0), .second, .val (.long q1), .second, .val (.long q2), .second, .val (.int p3), .val (.int w7), .val (.long cd), .second, .val (.int ea), .val (.long rem), .second, .val (.long ms), .second, .val (.ref b1), .unset] [(.ref x0), (.ref b1)])) rfl (by rw [hml]; rfl) (Steps.refl _) (argsL := [(.ref x0)]) (rest := []) (lenOf pd_2 rfl) rfl (by show 2 * 0 + _ ≤ _; exact Nat.le_of_eq rfl) (hb hby at_94) (fun _ _ => ⟨rfl, rfl, (by decide : (0 + 1) + 1 + 1 ≤ _), (by decide : (0 + 3) + 1 + 10 ≤ _)⟩)
    dsimp only [Pt.U, Pt.locs, Pt.cells, Pt.slots] at X4 l4 y4 z4 st4 hQ4
    subst l4 y4 z4
    obtain ⟨r0, kA0, rfl, N4q, g_r0, K4, E_b1, F_b1_modCount, F_b1_size, F_b1_elementData, V0, O0⟩ := hQ4
    have N4 := Fr.app N3 N4q
    have sz_r0 : h0.size ≤ r0 := by omega
    have nb0 : ∀ {y : Addr}, Exa Z T4.heap y "java/lang/Long" → y ∉ [b1, r0] := fun E => ninS (Exa.ne E E_b1 (by decide)) (ninS (Exa.neArv E V0 (hw _ (List.mem_of_getElem? (i := 68) rfl))) nin0)
    have E_x0 := E_x0.keep K4
    have F_x0_value := F_x0_value.keep K4 (nb0 E_x0)
    have EX := own_ext_keep EX K4 (allS sz_b1 (allS sz_r0 all0))
    refine Go.at (S' := T4.setTop (mkF m 97 #[.val (.long q0), .second, .val (.long q1), .second, .val (.long q2), .second, .val (.int p3), .val (.int w7), .val (.long cd), .second, .val (.int ea), .val (.long rem), .second, .val (.long ms), .second, .val (.ref b1), .unset] [(.int (1 : Int32))])) st4 ?_
    refine Go.by (S' := T4.setTop (mkF m 98 #[.val (.long q0), .second, .val (.long q1), .second, .val (.long q2), .second, .val (.int p3), .val (.int w7), .val (.long cd), .second, .val (.int ea), .val (.long rem), .second, .val (.long ms), .second, .val (.ref b1), .unset] [])) (fun _ kt => XS.pop X4.here hx rfl (hb hby at_97) rfl rfl  kt) ?_
    refine Go.by (S' := T4.setTop (mkF m 100 #[.val (.long q0), .second, .val (.long q1), .second, .val (.long q2), .second, .val (.int p3), .val (.int w7), .val (.long cd), .second, .val (.int ea), .val (.long rem), .second, .val (.long ms), .second, .val (.ref b1), .unset] [(.ref b1)])) (fun _ kt => XS.aload X4.here hx rfl (hb hby at_98) rfl rfl  kt) ?_
    refine Go.by (S' := T4.setTop (mkF m 102 #[.val (.long q0), .second, .val (.long q1), .second, .val (.long q2), .second, .val (.int p3), .val (.int w7), .val (.long cd), .second, .val (.int ea), .val (.long rem), .second, .val (.long ms), .second, .val (.ref b1), .unset] [(.long rem), (.ref b1)])) (fun _ kt => XS.lload X4.here hx rfl (hb hby at_100) rfl  kt) ?_
    obtain ⟨_, _, ⟨T5, L5, k5, n5⟩, -, X5, ⟨Lc5, hQ5, l5, y5, z5⟩, st5⟩ := Jvm.LawKit.callS X4 hx (y := (⟨"java/lang/Long", "valueOf", "(J)Ljava/lang/Long;"⟩ : MethodName)) hown (mvT hZ (hw _ (List.mem_of_getElem? (i := 28) rfl))) (mvT hZ (hw _ (List.mem_of_getElem? (i := 29) rfl))) (mvT hZ (hw _ (List.mem_of_getElem? (i := 30) rfl))) (mvT hZ (hw _ (List.mem_of_getElem? (i := 31) rfl))) (by decide) (backOf (W := 1) (rm5 l Z a0 hw [] rem tc cl val T4.heap n0 (Nat.le_trans Z0 EX.1) (SC.ext EX) BX hval (own_ext_trans EZ EX)) hZ (hw _ (List.mem_of_getElem? (i := 31) rfl)) (hw _ (List.mem_of_getElem? (i := 30) rfl)) (by decide) (by decide)) (g := (mkF m 102 #[.val (.long q0), .second, .val (.long q1), .second, .val (.long q2), .second, .val (.int p3), .val (.int w7), .val (.long cd), .second, .val (.int ea), .val (.long rem), .second, .val (.long ms), .second, .val (.ref b1), .unset] [(.long rem), (.ref b1)])) rfl (by rw [hml]; rfl) (argsL := [(.long rem)]) (rest := [(.ref b1)]) (lenOf pd_1 rfl) rfl (by show 2 * 0 + _ ≤ _; exact Nat.le_of_eq rfl) (hb hby at_102) (fun _ _ => ⟨rfl, rfl, (by decide : (0 + 1) + 1 + 1 + 1 ≤ _), (by decide : (0 + 3) + 1 + 10 + 1 ≤ _)⟩)
    dsimp only [Pt.U, Pt.locs, Pt.cells, Pt.slots] at X5 l5 y5 z5 st5 hQ5
    subst l5 y5 z5
    obtain ⟨x1, rfl, N5q, Ex5, E_x1, F_x1_value⟩ := hQ5
    have N5 := Fr.app N4 N5q
    have E_b1 := E_b1.ext Ex5
    have F_b1_modCount := F_b1_modCount.ext Ex5
    have F_b1_size := F_b1_size.ext Ex5
    have F_b1_elementData := F_b1_elementData.ext Ex5
    have V0 := V0.ext Ex5
    have E_x0 := E_x0.ext Ex5
    have F_x0_value := F_x0_value.ext Ex5
    have EX := own_ext_trans EX Ex5
    refine Go.by (S' := T5.setTop (mkF m 105 #[.val (.long q0), .second, .val (.long q1), .second, .val (.long q2), .second, .val (.int p3), .val (.int w7), .val (.long cd), .second, .val (.int ea), .val (.long rem), .second, .val (.long ms), .second, .val (.ref b1), .unset] [(.ref x1), (.ref b1)])) st5 ?_
    obtain ⟨cq6, kq6, q6a, q6b, q6c⟩ := isOf hZ rfl (E_b1)
    obtain ⟨_, _, ⟨T6, L6, k6, n6⟩, -, X6, ⟨Lc6, hQ6, l6, y6, z6⟩, st6⟩ := X5.virtualBack hx (y := (⟨"java/util/ArrayList", "add", "(Ljava/lang/Object;)Z"⟩ : MethodName)) (z := (⟨"java/util/ArrayList", "add", "(Ljava/lang/Object;)Z"⟩ : MethodName)) hown (mvT hZ (hw _ (List.mem_of_getElem? (i := 36) rfl))) (mvT hZ (hw _ (List.mem_of_getElem? (i := 37) rfl))) (notFace_of_selects (args := #[]) (mvT hZ (hw _ (List.mem_of_getElem? (i := 39) rfl)))) (mvT hZ (hw _ (List.mem_of_getElem? (i := 39) rfl))) (mvT hZ (hw _ (List.mem_of_getElem? (i := 38) rfl))) (by decide) (backOf (W := 0) (rm6_1 l Z a0 hw [] b1 x1 r0 (0 + 1) kA0 x0 T5.heap n0 F_b1_modCount F_b1_size F_b1_elementData E_b1 g_b1 g_r0 V0 O0 E_x1) hZ (hw _ (List.mem_of_getElem? (i := 40) rfl)) (hw _ (List.mem_of_getElem? (i := 4) rfl)) (by decide) (by decide)) q6a q6c (g := (mkF m 105 #[.val (.long q0), .second, .val (.long q1), .second, .val (.long q2), .second, .val (.int p3), .val (.int w7), .val (.long cd), .second, .val (.int ea), .val (.long rem), .second, .val (.long ms), .second, .val (.ref b1), .unset] [(.ref x1), (.ref b1)])) rfl (by rw [hml]; rfl) (Steps.refl _) (argsL := [(.ref x1)]) (rest := []) (lenOf pd_2 rfl) rfl (by show 2 * 0 + _ ≤ _; exact Nat.le_of_eq rfl) (hb hby at_105) (fun _ _ => ⟨rfl, rfl, (by decide : (0 + 1) + 1 + 1 + 1 + 0 ≤ _), (by decide : (0 + 3) + 1 + 10 + 1 + 0 ≤ _)⟩)
    dsimp only [Pt.U, Pt.locs, Pt.cells, Pt.slots] at X6 l6 y6 z6 st6 hQ6
    subst l6 y6 z6
    obtain ⟨r1, kA1, rfl, N6q, g_r1, K6, E_b1, F_b1_modCount, F_b1_size, F_b1_elementData, V1, O1⟩ := hQ6
    have N6 := Fr.app N5 N6q
    have sz_r1 : h0.size ≤ r1 := by omega
    have nb1 : ∀ {y : Addr}, Exa Z T6.heap y "java/lang/Long" → y ∉ [b1, r1] := fun E => ninS (Exa.ne E E_b1 (by decide)) (ninS (Exa.neArv E V1 (hw _ (List.mem_of_getElem? (i := 68) rfl))) nin0)
    have E_x0 := E_x0.keep K6
    have F_x0_value := F_x0_value.keep K6 (nb1 E_x0)
    have E_x1 := E_x1.keep K6
    have F_x1_value := F_x1_value.keep K6 (nb1 E_x1)
    have EX := own_ext_keep EX K6 (allS sz_b1 (allS sz_r1 all0))
    refine Go.at (S' := T6.setTop (mkF m 108 #[.val (.long q0), .second, .val (.long q1), .second, .val (.long q2), .second, .val (.int p3), .val (.int w7), .val (.long cd), .second, .val (.int ea), .val (.long rem), .second, .val (.long ms), .second, .val (.ref b1), .unset] [(.int (1 : Int32))])) st6 ?_
    refine Go.by (S' := T6.setTop (mkF m 109 #[.val (.long q0), .second, .val (.long q1), .second, .val (.long q2), .second, .val (.int p3), .val (.int w7), .val (.long cd), .second, .val (.int ea), .val (.long rem), .second, .val (.long ms), .second, .val (.ref b1), .unset] [])) (fun _ kt => XS.pop X6.here hx rfl (hb hby at_108) rfl rfl  kt) ?_
    refine Go.by (S' := T6.setTop (mkF m 111 #[.val (.long q0), .second, .val (.long q1), .second, .val (.long q2), .second, .val (.int p3), .val (.int w7), .val (.long cd), .second, .val (.int ea), .val (.long rem), .second, .val (.long ms), .second, .val (.ref b1), .unset] [(.ref b1)])) (fun _ kt => XS.aload X6.here hx rfl (hb hby at_109) rfl rfl  kt) ?_
    refine Go.by (S' := T6.setTop (mkF m 113 #[.val (.long q0), .second, .val (.long q1), .second, .val (.long q2), .second, .val (.int p3), .val (.int w7), .val (.long cd), .second, .val (.int ea), .val (.long rem), .second, .val (.long ms), .second, .val (.ref b1), .unset] [(.long ms), (.ref b1)])) (fun _ kt => XS.lload X6.here hx rfl (hb hby at_111) rfl  kt) ?_
    obtain ⟨_, _, ⟨T7, L7, k7, n7⟩, -, X7, ⟨Lc7, hQ7, l7, y7, z7⟩, st7⟩ := Jvm.LawKit.callS X6 hx (y := (⟨"java/lang/Long", "valueOf", "(J)Ljava/lang/Long;"⟩ : MethodName)) hown (mvT hZ (hw _ (List.mem_of_getElem? (i := 28) rfl))) (mvT hZ (hw _ (List.mem_of_getElem? (i := 29) rfl))) (mvT hZ (hw _ (List.mem_of_getElem? (i := 30) rfl))) (mvT hZ (hw _ (List.mem_of_getElem? (i := 31) rfl))) (by decide) (backOf (W := 1) (rm5 l Z a0 hw [] ms tc cl val T6.heap n0 (Nat.le_trans Z0 EX.1) (SC.ext EX) BX hval (own_ext_trans EZ EX)) hZ (hw _ (List.mem_of_getElem? (i := 31) rfl)) (hw _ (List.mem_of_getElem? (i := 30) rfl)) (by decide) (by decide)) (g := (mkF m 113 #[.val (.long q0), .second, .val (.long q1), .second, .val (.long q2), .second, .val (.int p3), .val (.int w7), .val (.long cd), .second, .val (.int ea), .val (.long rem), .second, .val (.long ms), .second, .val (.ref b1), .unset] [(.long ms), (.ref b1)])) rfl (by rw [hml]; rfl) (argsL := [(.long ms)]) (rest := [(.ref b1)]) (lenOf pd_1 rfl) rfl (by show 2 * 0 + _ ≤ _; exact Nat.le_of_eq rfl) (hb hby at_113) (fun _ _ => ⟨rfl, rfl, (by decide : (0 + 1) + 1 + 1 + 1 + 1 ≤ _), (by decide : (0 + 3) + 1 + 10 + 1 + 1 ≤ _)⟩)
    dsimp only [Pt.U, Pt.locs, Pt.cells, Pt.slots] at X7 l7 y7 z7 st7 hQ7
    subst l7 y7 z7
    obtain ⟨x2, rfl, N7q, Ex7, E_x2, F_x2_value⟩ := hQ7
    have N7 := Fr.app N6 N7q
    have E_b1 := E_b1.ext Ex7
    have F_b1_modCount := F_b1_modCount.ext Ex7
    have F_b1_size := F_b1_size.ext Ex7
    have F_b1_elementData := F_b1_elementData.ext Ex7
    have V1 := V1.ext Ex7
    have E_x0 := E_x0.ext Ex7
    have F_x0_value := F_x0_value.ext Ex7
    have E_x1 := E_x1.ext Ex7
    have F_x1_value := F_x1_value.ext Ex7
    have EX := own_ext_trans EX Ex7
    refine Go.by (S' := T7.setTop (mkF m 116 #[.val (.long q0), .second, .val (.long q1), .second, .val (.long q2), .second, .val (.int p3), .val (.int w7), .val (.long cd), .second, .val (.int ea), .val (.long rem), .second, .val (.long ms), .second, .val (.ref b1), .unset] [(.ref x2), (.ref b1)])) st7 ?_
    obtain ⟨cq8, kq8, q8a, q8b, q8c⟩ := isOf hZ rfl (E_b1)
    obtain ⟨_, _, ⟨T8, L8, k8, n8⟩, -, X8, ⟨Lc8, hQ8, l8, y8, z8⟩, st8⟩ := X7.virtualBack hx (y := (⟨"java/util/ArrayList", "add", "(Ljava/lang/Object;)Z"⟩ : MethodName)) (z := (⟨"java/util/ArrayList", "add", "(Ljava/lang/Object;)Z"⟩ : MethodName)) hown (mvT hZ (hw _ (List.mem_of_getElem? (i := 36) rfl))) (mvT hZ (hw _ (List.mem_of_getElem? (i := 37) rfl))) (notFace_of_selects (args := #[]) (mvT hZ (hw _ (List.mem_of_getElem? (i := 39) rfl)))) (mvT hZ (hw _ (List.mem_of_getElem? (i := 39) rfl))) (mvT hZ (hw _ (List.mem_of_getElem? (i := 38) rfl))) (by decide) (backOf (W := 0) (rm6_2 l Z a0 hw [] b1 x2 r1 (0 + 1 + 1) kA1 x0 x1 T7.heap n0 F_b1_modCount F_b1_size F_b1_elementData E_b1 g_b1 g_r1 V1 O1 E_x2) hZ (hw _ (List.mem_of_getElem? (i := 40) rfl)) (hw _ (List.mem_of_getElem? (i := 4) rfl)) (by decide) (by decide)) q8a q8c (g := (mkF m 116 #[.val (.long q0), .second, .val (.long q1), .second, .val (.long q2), .second, .val (.int p3), .val (.int w7), .val (.long cd), .second, .val (.int ea), .val (.long rem), .second, .val (.long ms), .second, .val (.ref b1), .unset] [(.ref x2), (.ref b1)])) rfl (by rw [hml]; rfl) (Steps.refl _) (argsL := [(.ref x2)]) (rest := []) (lenOf pd_2 rfl) rfl (by show 2 * 0 + _ ≤ _; exact Nat.le_of_eq rfl) (hb hby at_116) (fun _ _ => ⟨rfl, rfl, (by decide : (0 + 1) + 1 + 1 + 1 + 1 + 0 ≤ _), (by decide : (0 + 3) + 1 + 10 + 1 + 1 + 0 ≤ _)⟩)
    dsimp only [Pt.U, Pt.locs, Pt.cells, Pt.slots] at X8 l8 y8 z8 st8 hQ8
    subst l8 y8 z8
    obtain ⟨r2, kA2, rfl, N8q, g_r2, K8, E_b1, F_b1_modCount, F_b1_size, F_b1_elementData, V2, O2⟩ := hQ8
    have N8 := Fr.app N7 N8q
    have sz_r2 : h0.size ≤ r2 := by omega
    have nb2 : ∀ {y : Addr}, Exa Z T8.heap y "java/lang/Long" → y ∉ [b1, r2] := fun E => ninS (Exa.ne E E_b1 (by decide)) (ninS (Exa.neArv E V2 (hw _ (List.mem_of_getElem? (i := 68) rfl))) nin0)
    have E_x0 := E_x0.keep K8
    have F_x0_value := F_x0_value.keep K8 (nb2 E_x0)
    have E_x1 := E_x1.keep K8
    have F_x1_value := F_x1_value.keep K8 (nb2 E_x1)
    have E_x2 := E_x2.keep K8
    have F_x2_value := F_x2_value.keep K8 (nb2 E_x2)
    have EX := own_ext_keep EX K8 (allS sz_b1 (allS sz_r2 all0))
    refine Go.at (S' := T8.setTop (mkF m 119 #[.val (.long q0), .second, .val (.long q1), .second, .val (.long q2), .second, .val (.int p3), .val (.int w7), .val (.long cd), .second, .val (.int ea), .val (.long rem), .second, .val (.long ms), .second, .val (.ref b1), .unset] [(.int (1 : Int32))])) st8 ?_
    refine Go.by (S' := T8.setTop (mkF m 120 #[.val (.long q0), .second, .val (.long q1), .second, .val (.long q2), .second, .val (.int p3), .val (.int w7), .val (.long cd), .second, .val (.int ea), .val (.long rem), .second, .val (.long ms), .second, .val (.ref b1), .unset] [])) (fun _ kt => XS.pop X8.here hx rfl (hb hby at_119) rfl rfl  kt) ?_
    refine Go.by (S' := T8.setTop (mkF m 122 #[.val (.long q0), .second, .val (.long q1), .second, .val (.long q2), .second, .val (.int p3), .val (.int w7), .val (.long cd), .second, .val (.int ea), .val (.long rem), .second, .val (.long ms), .second, .val (.ref b1), .unset] [(.ref b1)])) (fun _ kt => XS.aload X8.here hx rfl (hb hby at_120) rfl rfl  kt) ?_
    obtain ⟨_, _, ⟨T9, L9, k9, n9⟩, -, X9, hS9, hgr9, ⟨Lc9, hQ9, l9, y9, z9⟩, st9⟩ := callSS X8 hx (y := (⟨"com/example/keys_to_patterns/keystopatterns/limit/Decision", "fromReply", "(Ljava/lang/Object;)Lcom/example/keys_to_patterns/keystopatterns/limit/Decision;"⟩ : MethodName)) hown (mvT hZ (hw _ (List.mem_of_getElem? (i := 82) rfl))) (mvT hZ (hw _ (List.mem_of_getElem? (i := 83) rfl))) (mvT hZ (hw _ (List.mem_of_getElem? (i := 84) rfl))) (mvT hZ (hw _ (List.mem_of_getElem? (i := 85) rfl))) (by decide) (backOfS (W := 0) (rm13 l Z a0 hw [] b1 r2 x0 x1 x2 kA2 cd rem ms tc cl val tz T8.heap n0 (Nat.le_trans Z0 EX.1) E_b1 F_b1_size F_b1_elementData V2 E_x0 F_x0_value E_x1 F_x1_value E_x2 F_x2_value (SC.ext EX) BX hval (own_ext_trans EZ EX) (SZ.ext EX) (E_tz.ext EX) (F_tz_seconds.ext EX) (F_tz_nanos.ext EX) hrem hpr hn hs hzero) hZ (hw _ (List.mem_of_getElem? (i := 85) rfl)) (hw _ (List.mem_of_getElem? (i := 84) rfl)) (by decide) (by decide)) (g := (mkF m 122 #[.val (.long q0), .second, .val (.long q1), .second, .val (.long q2), .second, .val (.int p3), .val (.int w7), .val (.long cd), .second, .val (.int ea), .val (.long rem), .second, .val (.long ms), .second, .val (.ref b1), .unset] [(.ref b1)])) rfl (by rw [hml]; rfl) (argsL := [(.ref b1)]) (rest := []) (lenOf pd_8 rfl) rfl (by show 2 * 0 + _ ≤ _; exact Nat.le_of_eq rfl) (hb hby at_122) (fun _ _ => ⟨rfl, rfl, (by decide : (0 + 1) + 1 + 1 + 1 + 1 + 6 ≤ _), (by decide : (0 + 3) + 1 + 10 + 1 + 1 + 60 ≤ _)⟩)
    dsimp only [Pt.U, Pt.locs, Pt.cells, Pt.slots] at X9 l9 y9 z9 st9 hQ9 hS9 hgr9
    subst l9 y9 z9
    obtain ⟨rp, d1, rfl, N9q, Ex9, E_rp, F_rp_allowed, F_rp_remaining, F_rp_retryAfter, E_d1, F_d1_seconds, F_d1_nanos⟩ := hQ9
    have N9 := Fr.app N8 N9q
    have hown := (hS9.1.alike.findClass _ _).trans hown
    have hZ := State.Warmed39.trans hZ hS9.1
    have EX := own_ext_trans EX Ex9
    have hsz := Nat.le_refl T9.heap.size
    refine Go.at (S' := T9.setTop (mkF m 125 #[.val (.long q0), .second, .val (.long q1), .second, .val (.long q2), .second, .val (.int p3), .val (.int w7), .val (.long cd), .second, .val (.int ea), .val (.long rem), .second, .val (.long ms), .second, .val (.ref b1), .unset] [(.ref rp)])) st9 ?_
    refine Go.by (S' := T9.setTop (mkF m 127 #[.val (.long q0), .second, .val (.long q1), .second, .val (.long q2), .second, .val (.int p3), .val (.int w7), .val (.long cd), .second, .val (.int ea), .val (.long rem), .second, .val (.long ms), .second, .val (.ref b1), .val (.ref rp)] [])) (fun _ kt => XS.astore X9.here hx rfl (hb hby at_125) rfl rfl (l' := #[.val (.long q0), .second, .val (.long q1), .second, .val (.long q2), .second, .val (.int p3), .val (.int w7), .val (.long cd), .second, .val (.int ea), .val (.long rem), .second, .val (.long ms), .second, .val (.ref b1), .val (.ref rp)]) rfl  kt) ?_
    refine Go.by (S' := T9.setTop (mkF m 129 #[.val (.long q0), .second, .val (.long q1), .second, .val (.long q2), .second, .val (.int p3), .val (.int w7), .val (.long cd), .second, .val (.int ea), .val (.long rem), .second, .val (.long ms), .second, .val (.ref b1), .val (.ref rp)] [(.ref rp)])) (fun _ kt => XS.aload X9.here hx rfl (hb hby at_127) rfl rfl  kt) ?_
    obtain ⟨cq10, kq10, q10a, q10b, q10c⟩ := isOf hZ rfl (E_rp)
    obtain ⟨_, _, ⟨T10, L10, k10, n10⟩, -, X10, ⟨Lc10, hQ10, l10, y10, z10⟩, st10⟩ := X9.virtualBack hx (y := (⟨"com/example/keys_to_patterns/keystopatterns/limit/Decision", "allowed", "()Z"⟩ : MethodName)) (z := (⟨"com/example/keys_to_patterns/keystopatterns/limit/Decision", "allowed", "()Z"⟩ : MethodName)) hown (mvT hZ (hw _ (List.mem_of_getElem? (i := 178) rfl))) (mvT hZ (hw _ (List.mem_of_getElem? (i := 179) rfl))) (notFace_of_selects (args := #[]) (mvT hZ (hw _ (List.mem_of_getElem? (i := 181) rfl)))) (mvT hZ (hw _ (List.mem_of_getElem? (i := 181) rfl))) (mvT hZ (hw _ (List.mem_of_getElem? (i := 180) rfl))) (by decide) (backOf (W := 0) (rm28 l Z a0 hw [] rp (nar .boolean (if (1 : Int64) = cd then 1 else 0)) T9.heap n0 F_rp_allowed) hZ (hw _ (List.mem_of_getElem? (i := 182) rfl)) (hw _ (List.mem_of_getElem? (i := 84) rfl)) (by decide) (by decide)) q10a q10c (g := (mkF m 129 #[.val (.long q0), .second, .val (.long q1), .second, .val (.long q2), .second, .val (.int p3), .val (.int w7), .val (.long cd), .second, .val (.int ea), .val (.long rem), .second, .val (.long ms), .second, .val (.ref b1), .val (.ref rp)] [(.ref rp)])) rfl (by rw [hml]; rfl) (Steps.refl _) (argsL := []) (rest := []) (lenOf pd_18 rfl) rfl (by show 2 * 0 + _ ≤ _; exact Nat.le_of_eq rfl) (hb hby at_129) (fun _ _ => ⟨rfl, rfl, (by decide : (0 + 1) + 1 + 1 + 1 + 1 + 6 + 0 ≤ _), (by decide : (0 + 3) + 1 + 10 + 1 + 1 + 60 + 0 ≤ _)⟩)
    dsimp only [Pt.U, Pt.locs, Pt.cells, Pt.slots] at X10 l10 y10 z10 st10 hQ10
    subst l10 y10 z10
    obtain ⟨rfl, N10q, e10⟩ := hQ10
    have N10 := Fr.app N9 N10q
    refine Go.at (S' := T10.setTop (mkF m 132 #[.val (.long q0), .second, .val (.long q1), .second, .val (.long q2), .second, .val (.int p3), .val (.int w7), .val (.long cd), .second, .val (.int ea), .val (.long rem), .second, .val (.long ms), .second, .val (.ref b1), .val (.ref rp)] [(.int (nar .boolean (nar .boolean (if (1 : Int64) = cd then 1 else 0))))])) st10 ?_
    refine Go.by (S' := T10.setTop (mkF m 134 #[.val (.long q0), .second, .val (.long q1), .second, .val (.long q2), .second, .val (.int p3), .val (.int w7), .val (.long cd), .second, .val (.int ea), .val (.long rem), .second, .val (.long ms), .second, .val (.ref b1), .val (.ref rp)] [(.int ea), (.int (nar .boolean (nar .boolean (if (1 : Int64) = cd then 1 else 0))))])) (fun _ kt => XS.iload X10.here hx rfl (hb hby at_132) rfl  kt) ?_
    refine Go.by (S' := T10.setTop (mkF m 137 #[.val (.long q0), .second, .val (.long q1), .second, .val (.long q2), .second, .val (.int p3), .val (.int w7), .val (.long cd), .second, .val (.int ea), .val (.long rem), .second, .val (.long ms), .second, .val (.ref b1), .val (.ref rp)] [])) (fun _ kt => XS.icmpNo X10.here hx rfl (hb hby at_134) rfl (XT.ii_ne_f hea)  kt) ?_
    refine Go.by (S' := T10.setTop (mkF m 139 #[.val (.long q0), .second, .val (.long q1), .second, .val (.long q2), .second, .val (.int p3), .val (.int w7), .val (.long cd), .second, .val (.int ea), .val (.long rem), .second, .val (.long ms), .second, .val (.ref b1), .val (.ref rp)] [(.ref rp)])) (fun _ kt => XS.aload X10.here hx rfl (hb hby at_137) rfl rfl  kt) ?_
    obtain ⟨cq11, kq11, q11a, q11b, q11c⟩ := isOf hZ e10 (E_rp)
    obtain ⟨_, _, ⟨T11, L11, k11, n11⟩, -, X11, ⟨Lc11, hQ11, l11, y11, z11⟩, st11⟩ := X10.virtualBack hx (y := (⟨"com/example/keys_to_patterns/keystopatterns/limit/Decision", "remaining", "()I"⟩ : MethodName)) (z := (⟨"com/example/keys_to_patterns/keystopatterns/limit/Decision", "remaining", "()I"⟩ : MethodName)) hown (mvT hZ (hw _ (List.mem_of_getElem? (i := 183) rfl))) (mvT hZ (hw _ (List.mem_of_getElem? (i := 184) rfl))) (notFace_of_selects (args := #[]) (mvT hZ (hw _ (List.mem_of_getElem? (i := 186) rfl)))) (mvT hZ (hw _ (List.mem_of_getElem? (i := 186) rfl))) (mvT hZ (hw _ (List.mem_of_getElem? (i := 185) rfl))) (by decide) (backOf (W := 0) (rm29 l Z a0 hw [] rp rem.toInt32 T9.heap n0 F_rp_remaining) hZ (hw _ (List.mem_of_getElem? (i := 187) rfl)) (hw _ (List.mem_of_getElem? (i := 84) rfl)) (by decide) (by decide)) q11a q11c (g := (mkF m 139 #[.val (.long q0), .second, .val (.long q1), .second, .val (.long q2), .second, .val (.int p3), .val (.int w7), .val (.long cd), .second, .val (.int ea), .val (.long rem), .second, .val (.long ms), .second, .val (.ref b1), .val (.ref rp)] [(.ref rp)])) rfl (by rw [hml]; rfl) (Steps.refl _) (argsL := []) (rest := []) (lenOf pd_19 rfl) rfl (by show 2 * 0 + _ ≤ _; exact Nat.le_of_eq rfl) (hb hby at_139) (fun _ _ => ⟨rfl, e10, (by decide : (0 + 1) + 1 + 1 + 1 + 1 + 6 + 0 ≤ _), (by decide : (0 + 3) + 1 + 10 + 1 + 1 + 60 + 0 ≤ _)⟩)
    dsimp only [Pt.U, Pt.locs, Pt.cells, Pt.slots] at X11 l11 y11 z11 st11 hQ11
    subst l11 y11 z11
    obtain ⟨rfl, N11q, e11⟩ := hQ11
    have N11 := Fr.app N10 N11q
    refine Go.at (S' := T11.setTop (mkF m 142 #[.val (.long q0), .second, .val (.long q1), .second, .val (.long q2), .second, .val (.int p3), .val (.int w7), .val (.long cd), .second, .val (.int ea), .val (.long rem), .second, .val (.long ms), .second, .val (.ref b1), .val (.ref rp)] [(.int rem.toInt32)])) st11 ?_
    refine Go.by (S' := T11.setTop (mkF m 144 #[.val (.long q0), .second, .val (.long q1), .second, .val (.long q2), .second, .val (.int p3), .val (.int w7), .val (.long cd), .second, .val (.int ea), .val (.long rem), .second, .val (.long ms), .second, .val (.ref b1), .val (.ref rp)] [(.long rem), (.int rem.toInt32)])) (fun _ kt => XS.lload X11.here hx rfl (hb hby at_142) rfl  kt) ?_
    refine Go.by (S' := T11.setTop (mkF m 145 #[.val (.long q0), .second, .val (.long q1), .second, .val (.long q2), .second, .val (.int p3), .val (.int w7), .val (.long cd), .second, .val (.int ea), .val (.long rem), .second, .val (.long ms), .second, .val (.ref b1), .val (.ref rp)] [(.int (rem.toInt32)), (.int rem.toInt32)])) (fun _ kt => XS.l2i X11.here hx rfl (hb hby at_144) rfl  kt) ?_
    refine Go.by (S' := T11.setTop (mkF m 148 #[.val (.long q0), .second, .val (.long q1), .second, .val (.long q2), .second, .val (.int p3), .val (.int w7), .val (.long cd), .second, .val (.int ea), .val (.long rem), .second, .val (.long ms), .second, .val (.ref b1), .val (.ref rp)] [])) (fun _ kt => XS.icmpNo X11.here hx rfl (hb hby at_145) rfl (XT.ii_ne_f (rfl : rem.toInt32 = (rem.toInt32)))  kt) ?_
    refine Go.by (S' := T11.setTop (mkF m 150 #[.val (.long q0), .second, .val (.long q1), .second, .val (.long q2), .second, .val (.int p3), .val (.int w7), .val (.long cd), .second, .val (.int ea), .val (.long rem), .second, .val (.long ms), .second, .val (.ref b1), .val (.ref rp)] [(.ref rp)])) (fun _ kt => XS.aload X11.here hx rfl (hb hby at_148) rfl rfl  kt) ?_
    obtain ⟨cq12, kq12, q12a, q12b, q12c⟩ := isOf hZ e11 (E_rp)
    obtain ⟨_, _, ⟨T12, L12, k12, n12⟩, -, X12, ⟨Lc12, hQ12, l12, y12, z12⟩, st12⟩ := X11.virtualBack hx (y := (⟨"com/example/keys_to_patterns/keystopatterns/limit/Decision", "retryAfter", "()Ljava/time/Duration;"⟩ : MethodName)) (z := (⟨"com/example/keys_to_patterns/keystopatterns/limit/Decision", "retryAfter", "()Ljava/time/Duration;"⟩ : MethodName)) hown (mvT hZ (hw _ (List.mem_of_getElem? (i := 188) rfl))) (mvT hZ (hw _ (List.mem_of_getElem? (i := 189) rfl))) (notFace_of_selects (args := #[]) (mvT hZ (hw _ (List.mem_of_getElem? (i := 191) rfl)))) (mvT hZ (hw _ (List.mem_of_getElem? (i := 191) rfl))) (mvT hZ (hw _ (List.mem_of_getElem? (i := 190) rfl))) (by decide) (backOf (W := 0) (rm30 l Z a0 hw [] rp d1 T9.heap n0 F_rp_retryAfter) hZ (hw _ (List.mem_of_getElem? (i := 192) rfl)) (hw _ (List.mem_of_getElem? (i := 84) rfl)) (by decide) (by decide)) q12a q12c (g := (mkF m 150 #[.val (.long q0), .second, .val (.long q1), .second, .val (.long q2), .second, .val (.int p3), .val (.int w7), .val (.long cd), .second, .val (.int ea), .val (.long rem), .second, .val (.long ms), .second, .val (.ref b1), .val (.ref rp)] [(.ref rp)])) rfl (by rw [hml]; rfl) (Steps.refl _) (argsL := []) (rest := []) (lenOf pd_20 rfl) rfl (by show 2 * 0 + _ ≤ _; exact Nat.le_of_eq rfl) (hb hby at_150) (fun _ _ => ⟨rfl, e11, (by decide : (0 + 1) + 1 + 1 + 1 + 1 + 6 + 0 ≤ _), (by decide : (0 + 3) + 1 + 10 + 1 + 1 + 60 + 0 ≤ _)⟩)
    dsimp only [Pt.U, Pt.locs, Pt.cells, Pt.slots] at X12 l12 y12 z12 st12 hQ12
    subst l12 y12 z12
    obtain ⟨rfl, N12q, e12⟩ := hQ12
    have N12 := Fr.app N11 N12q
    refine Go.at (S' := T12.setTop (mkF m 153 #[.val (.long q0), .second, .val (.long q1), .second, .val (.long q2), .second, .val (.int p3), .val (.int w7), .val (.long cd), .second, .val (.int ea), .val (.long rem), .second, .val (.long ms), .second, .val (.ref b1), .val (.ref rp)] [(.ref d1)])) st12 ?_
    refine Go.by (S' := T12.setTop (mkF m 155 #[.val (.long q0), .second, .val (.long q1), .second, .val (.long q2), .second, .val (.int p3), .val (.int w7), .val (.long cd), .second, .val (.int ea), .val (.long rem), .second, .val (.long ms), .second, .val (.ref b1), .val (.ref rp)] [(.long ms), (.ref d1)])) (fun _ kt => XS.lload X12.here hx rfl (hb hby at_153) rfl  kt) ?_
    obtain ⟨_, _, ⟨T13, L13, k13, n13⟩, -, X13, ⟨Lc13, hQ13, l13, y13, z13⟩, st13⟩ := Jvm.LawKit.callS X12 hx (y := (⟨"java/time/Duration", "ofMillis", "(J)Ljava/time/Duration;"⟩ : MethodName)) hown (mvT hZ (hw _ (List.mem_of_getElem? (i := 193) rfl))) (mvT hZ (hw _ (List.mem_of_getElem? (i := 128) rfl))) (mvT hZ (hw _ (List.mem_of_getElem? (i := 129) rfl))) (mvT hZ (hw _ (List.mem_of_getElem? (i := 130) rfl))) (by decide) (backOf (W := 1) (rm21 l Z a0 hw [] ms tz T9.heap n0 (Nat.le_trans Z0 EX.1) (SZ.ext EX) (E_tz.ext EX) (F_tz_seconds.ext EX) (F_tz_nanos.ext EX) hn) hZ (hw _ (List.mem_of_getElem? (i := 130) rfl)) (hw _ (List.mem_of_getElem? (i := 129) rfl)) (by decide) (by decide)) (g := (mkF m 155 #[.val (.long q0), .second, .val (.long q1), .second, .val (.long q2), .second, .val (.int p3), .val (.int w7), .val (.long cd), .second, .val (.int ea), .val (.long rem), .second, .val (.long ms), .second, .val (.ref b1), .val (.ref rp)] [(.long ms), (.ref d1)])) rfl (by rw [hml]; rfl) (argsL := [(.long ms)]) (rest := [(.ref d1)]) (lenOf pd_13 rfl) rfl (by show 2 * 0 + _ ≤ _; exact Nat.le_of_eq rfl) (hb hby at_155) (fun _ _ => ⟨rfl, e12, (by decide : (0 + 1) + 1 + 1 + 1 + 1 + 6 + 1 ≤ _), (by decide : (0 + 3) + 1 + 10 + 1 + 1 + 60 + 2 ≤ _)⟩)
    dsimp only [Pt.U, Pt.locs, Pt.cells, Pt.slots] at X13 l13 y13 z13 st13 hQ13
    subst l13 y13 z13
    obtain ⟨d2, rfl, N13q, Ex13, E_d2, F_d2_seconds, F_d2_nanos⟩ := hQ13
    have N13 := Fr.app N12 N13q
    have E_rp := E_rp.ext Ex13
    have F_rp_allowed := F_rp_allowed.ext Ex13
    have F_rp_remaining := F_rp_remaining.ext Ex13
    have F_rp_retryAfter := F_rp_retryAfter.ext Ex13
    have E_d1 := E_d1.ext Ex13
    have F_d1_seconds := F_d1_seconds.ext Ex13
    have F_d1_nanos := F_d1_nanos.ext Ex13
    have EX := own_ext_trans EX Ex13
    have hsz := Nat.le_trans hsz Ex13.1
    refine Go.by (S' := T13.setTop (mkF m 158 #[.val (.long q0), .second, .val (.long q1), .second, .val (.long q2), .second, .val (.int p3), .val (.int w7), .val (.long cd), .second, .val (.int ea), .val (.long rem), .second, .val (.long ms), .second, .val (.ref b1), .val (.ref rp)] [(.ref d2), (.ref d1)])) st13 ?_
    obtain ⟨cq14, kq14, q14a, q14b, q14c⟩ := isOf hZ rfl (E_d1)
    obtain ⟨_, _, ⟨T14, L14, k14, n14⟩, -, X14, ⟨Lc14, hQ14, l14, y14, z14⟩, st14⟩ := X13.virtualBack hx (y := (⟨"java/time/Duration", "equals", "(Ljava/lang/Object;)Z"⟩ : MethodName)) (z := (⟨"java/time/Duration", "equals", "(Ljava/lang/Object;)Z"⟩ : MethodName)) hown (mvT hZ (hw _ (List.mem_of_getElem? (i := 194) rfl))) (mvT hZ (hw _ (List.mem_of_getElem? (i := 195) rfl))) (notFace_of_selects (args := #[]) (mvT hZ (hw _ (List.mem_of_getElem? (i := 197) rfl)))) (mvT hZ (hw _ (List.mem_of_getElem? (i := 197) rfl))) (mvT hZ (hw _ (List.mem_of_getElem? (i := 196) rfl))) (by decide) (backOf (W := 0) (rm31 l Z a0 hw [] d1 d2 (secF ms) (nanF ms) T13.heap n0 F_d1_seconds F_d1_nanos F_d2_seconds F_d2_nanos E_d2) hZ (hw _ (List.mem_of_getElem? (i := 198) rfl)) (hw _ (List.mem_of_getElem? (i := 129) rfl)) (by decide) (by decide)) q14a q14c (g := (mkF m 158 #[.val (.long q0), .second, .val (.long q1), .second, .val (.long q2), .second, .val (.int p3), .val (.int w7), .val (.long cd), .second, .val (.int ea), .val (.long rem), .second, .val (.long ms), .second, .val (.ref b1), .val (.ref rp)] [(.ref d2), (.ref d1)])) rfl (by rw [hml]; rfl) (Steps.refl _) (argsL := [(.ref d2)]) (rest := []) (lenOf pd_2 rfl) rfl (by show 2 * 0 + _ ≤ _; exact Nat.le_of_eq rfl) (hb hby at_158) (fun _ _ => ⟨rfl, rfl, (by decide : (0 + 1) + 1 + 1 + 1 + 1 + 6 + 1 + 0 ≤ _), (by decide : (0 + 3) + 1 + 10 + 1 + 1 + 60 + 2 + 0 ≤ _)⟩)
    dsimp only [Pt.U, Pt.locs, Pt.cells, Pt.slots] at X14 l14 y14 z14 st14 hQ14
    subst l14 y14 z14
    obtain ⟨rfl, N14q, e14⟩ := hQ14
    have N14 := Fr.app N13 N14q
    refine Go.at (S' := T14.setTop (mkF m 161 #[.val (.long q0), .second, .val (.long q1), .second, .val (.long q2), .second, .val (.int p3), .val (.int w7), .val (.long cd), .second, .val (.int ea), .val (.long rem), .second, .val (.long ms), .second, .val (.ref b1), .val (.ref rp)] [(.int (1 : Int32))])) st14 ?_
    refine Go.by (S' := T14.setTop (mkF m 164 #[.val (.long q0), .second, .val (.long q1), .second, .val (.long q2), .second, .val (.int p3), .val (.int w7), .val (.long cd), .second, .val (.int ea), .val (.long rem), .second, .val (.long ms), .second, .val (.ref b1), .val (.ref rp)] [])) (fun _ kt => XS.ifNo X14.here hx rfl (hb hby at_161) rfl (XT.i0_eq_f (by decide))  kt) ?_
    refine Go.by (S' := T14.setTop (mkF m 165 #[.val (.long q0), .second, .val (.long q1), .second, .val (.long q2), .second, .val (.int p3), .val (.int w7), .val (.long cd), .second, .val (.int ea), .val (.long rem), .second, .val (.long ms), .second, .val (.ref b1), .val (.ref rp)] [(.int (1 : Int32))])) (fun _ kt => XT.iconstV X14.here hx rfl (1 : Int32) (hb hby at_164) (by decide)  kt) ?_
    refine Go.by (S' := T14.setTop (mkF m 169 #[.val (.long q0), .second, .val (.long q1), .second, .val (.long q2), .second, .val (.int p3), .val (.int w7), .val (.long cd), .second, .val (.int ea), .val (.long rem), .second, .val (.long ms), .second, .val (.ref b1), .val (.ref rp)] [(.int (1 : Int32))])) (fun _ kt => XS.goto X14.here hx rfl (pc0 := 165) (pc' := 169) rfl (hb hby at_165) (by decide) (by decide)  kt) ?_
    refine goRetW (s := s) X14 (v := some (.int (nar .boolean (1 : Int32)))) hS9 (by rw [e14]; exact hsz) (fun h => by rw [Bd.returns] at h; cases h) Bd.notSynchronized (fun fs hr => retN X14 hx (t := .boolean) Bd.returns (by simp) (hb hby at_169) hr) (by decide) (by decide) ?_
    exact ⟨by simp [own_n1], N14⟩
  refine goIn (ef_rm0 m q0 q1 q2 p3) ?_
  refine Go.by (S' := s₁.setTop (mkF m 2 #[.val (.long q0), .second, .val (.long q1), .second, .val (.long q2), .second, .val (.int p3), .unset, .unset, .unset, .unset, .unset, .unset, .unset, .unset, .unset, .unset] [(.int p3)])) (fun _ kt => XS.iload X0.here hx rfl (hb hby at_0) rfl  kt) ?_
  refine Go.by (S' := s₁.setTop (mkF m 3 #[.val (.long q0), .second, .val (.long q1), .second, .val (.long q2), .second, .val (.int p3), .unset, .unset, .unset, .unset, .unset, .unset, .unset, .unset, .unset, .unset] [(.int (1 : Int32)), (.int p3)])) (fun _ kt => XT.iconstV X0.here hx rfl (1 : Int32) (hb hby at_2) (by decide)  kt) ?_
  refine Go.by (S' := s₁.setTop (mkF m 4 #[.val (.long q0), .second, .val (.long q1), .second, .val (.long q2), .second, .val (.int p3), .unset, .unset, .unset, .unset, .unset, .unset, .unset, .unset, .unset, .unset] [(.int (p3 &&& (1 : Int32)))])) (fun _ kt => XS.iand X0.here hx rfl (hb hby at_3) rfl  kt) ?_
  by_cases hc4_15 : (p3 &&& (1 : Int32)) = (0 : Int32)
  · refine Go.by (S' := s₁.setTop (mkF m 11 #[.val (.long q0), .second, .val (.long q1), .second, .val (.long q2), .second, .val (.int p3), .unset, .unset, .unset, .unset, .unset, .unset, .unset, .unset, .unset, .unset] [])) (fun _ kt => XS.ifYes X0.here hx rfl (pc0 := 4) (pc' := 11) rfl (hb hby at_4) rfl (XT.i0_eq_t hc4_15) (by decide) (by decide)  kt) ?_
    refine Go.by (S' := s₁.setTop (mkF m 12 #[.val (.long q0), .second, .val (.long q1), .second, .val (.long q2), .second, .val (.int p3), .unset, .unset, .unset, .unset, .unset, .unset, .unset, .unset, .unset, .unset] [(.int (0 : Int32))])) (fun _ kt => XT.iconstV X0.here hx rfl (0 : Int32) (hb hby at_11) (by decide)  kt) ?_
    refine Go.by (S' := s₁.setTop (mkF m 14 #[.val (.long q0), .second, .val (.long q1), .second, .val (.long q2), .second, .val (.int p3), .val (.int (0 : Int32)), .unset, .unset, .unset, .unset, .unset, .unset, .unset, .unset, .unset] [])) (fun _ kt => XS.istore X0.here hx rfl (hb hby at_12) rfl (l' := #[.val (.long q0), .second, .val (.long q1), .second, .val (.long q2), .second, .val (.int p3), .val (.int (0 : Int32)), .unset, .unset, .unset, .unset, .unset, .unset, .unset, .unset, .unset]) rfl  kt) ?_
    refine Go.by (S' := s₁.setTop (mkF m 16 #[.val (.long q0), .second, .val (.long q1), .second, .val (.long q2), .second, .val (.int p3), .val (.int (0 : Int32)), .unset, .unset, .unset, .unset, .unset, .unset, .unset, .unset, .unset] [(.int (0 : Int32))])) (fun _ kt => XS.iload X0.here hx rfl (hb hby at_14) rfl  kt) ?_
    refine Go.by (S' := s₁.setTop (mkF m 25 #[.val (.long q0), .second, .val (.long q1), .second, .val (.long q2), .second, .val (.int p3), .val (.int (0 : Int32)), .unset, .unset, .unset, .unset, .unset, .unset, .unset, .unset, .unset] [])) (fun _ kt => XS.ifYes X0.here hx rfl (pc0 := 16) (pc' := 25) rfl (hb hby at_16) rfl (XT.i0_eq_t (by decide)) (by decide) (by decide)  kt) ?_
    refine Go.by (S' := s₁.setTop (mkF m 26 #[.val (.long q0), .second, .val (.long q1), .second, .val (.long q2), .second, .val (.int p3), .val (.int (0 : Int32)), .unset, .unset, .unset, .unset, .unset, .unset, .unset, .unset, .unset] [(.long q0)])) (fun _ kt => XS.lloadN X0.here hx rfl (hb hby at_25) rfl  kt) ?_
    refine Go.by (S' := s₁.setTop (mkF m 27 #[.val (.long q0), .second, .val (.long q1), .second, .val (.long q2), .second, .val (.int p3), .val (.int (0 : Int32)), .unset, .unset, .unset, .unset, .unset, .unset, .unset, .unset, .unset] [(.long (1 : Int64)), (.long q0)])) (fun _ kt => XT.lconstV X0.here hx rfl (1 : Int64) (hb hby at_26) (by decide)  kt) ?_
    refine Go.by (S' := s₁.setTop (mkF m 28 #[.val (.long q0), .second, .val (.long q1), .second, .val (.long q2), .second, .val (.int p3), .val (.int (0 : Int32)), .unset, .unset, .unset, .unset, .unset, .unset, .unset, .unset, .unset] [(.int (XT.cmpL q0 (1 : Int64)))])) (fun _ kt => XT.lcmp X0.here hx rfl (hb hby at_27) rfl  kt) ?_
    by_cases hc28_16 : q0 = (1 : Int64)
    · refine Go.by (S' := s₁.setTop (mkF m 31 #[.val (.long q0), .second, .val (.long q1), .second, .val (.long q2), .second, .val (.int p3), .val (.int (0 : Int32)), .unset, .unset, .unset, .unset, .unset, .unset, .unset, .unset, .unset] [])) (fun _ kt => XS.ifNo X0.here hx rfl (hb hby at_28) rfl (XT.ll_ne_f hc28_16)  kt) ?_
      refine Go.by (S' := s₁.setTop (mkF m 32 #[.val (.long q0), .second, .val (.long q1), .second, .val (.long q2), .second, .val (.int p3), .val (.int (0 : Int32)), .unset, .unset, .unset, .unset, .unset, .unset, .unset, .unset, .unset] [(.long (0 : Int64))])) (fun _ kt => XT.lconstV X0.here hx rfl (0 : Int64) (hb hby at_31) (by decide)  kt) ?_
      refine Go.by (S' := s₁.setTop (mkF m 34 #[.val (.long q0), .second, .val (.long q1), .second, .val (.long q2), .second, .val (.int p3), .val (.int (0 : Int32)), .val (.long (0 : Int64)), .second, .unset, .unset, .unset, .unset, .unset, .unset, .unset] [])) (fun _ kt => XS.lstore X0.here hx rfl (hb hby at_32) rfl (l' := #[.val (.long q0), .second, .val (.long q1), .second, .val (.long q2), .second, .val (.int p3), .val (.int (0 : Int32)), .val (.long (0 : Int64)), .second, .unset, .unset, .unset, .unset, .unset, .unset, .unset]) rfl  kt) ?_
      refine Go.by (S' := s₁.setTop (mkF m 40 #[.val (.long q0), .second, .val (.long q1), .second, .val (.long q2), .second, .val (.int p3), .val (.int (0 : Int32)), .val (.long (0 : Int64)), .second, .unset, .unset, .unset, .unset, .unset, .unset, .unset] [])) (fun _ kt => XS.goto X0.here hx rfl (pc0 := 34) (pc' := 40) rfl (hb hby at_34) (by decide) (by decide)  kt) ?_
      refine Go.by (S' := s₁.setTop (mkF m 42 #[.val (.long q0), .second, .val (.long q1), .second, .val (.long q2), .second, .val (.int p3), .val (.int (0 : Int32)), .val (.long (0 : Int64)), .second, .unset, .unset, .unset, .unset, .unset, .unset, .unset] [(.long (0 : Int64))])) (fun _ kt => XS.lload X0.here hx rfl (hb hby at_40) rfl  kt) ?_
      refine Go.by (S' := s₁.setTop (mkF m 43 #[.val (.long q0), .second, .val (.long q1), .second, .val (.long q2), .second, .val (.int p3), .val (.int (0 : Int32)), .val (.long (0 : Int64)), .second, .unset, .unset, .unset, .unset, .unset, .unset, .unset] [(.long (1 : Int64)), (.long (0 : Int64))])) (fun _ kt => XT.lconstV X0.here hx rfl (1 : Int64) (hb hby at_42) (by decide)  kt) ?_
      refine Go.by (S' := s₁.setTop (mkF m 44 #[.val (.long q0), .second, .val (.long q1), .second, .val (.long q2), .second, .val (.int p3), .val (.int (0 : Int32)), .val (.long (0 : Int64)), .second, .unset, .unset, .unset, .unset, .unset, .unset, .unset] [(.int (XT.cmpL (0 : Int64) (1 : Int64)))])) (fun _ kt => XT.lcmp X0.here hx rfl (hb hby at_43) rfl  kt) ?_
      refine Go.by (S' := s₁.setTop (mkF m 51 #[.val (.long q0), .second, .val (.long q1), .second, .val (.long q2), .second, .val (.int p3), .val (.int (0 : Int32)), .val (.long (0 : Int64)), .second, .unset, .unset, .unset, .unset, .unset, .unset, .unset] [])) (fun _ kt => XS.ifYes X0.here hx rfl (pc0 := 44) (pc' := 51) rfl (hb hby at_44) rfl (XT.ll_ne_t (by decide)) (by decide) (by decide)  kt) ?_
      refine Go.by (S' := s₁.setTop (mkF m 52 #[.val (.long q0), .second, .val (.long q1), .second, .val (.long q2), .second, .val (.int p3), .val (.int (0 : Int32)), .val (.long (0 : Int64)), .second, .unset, .unset, .unset, .unset, .unset, .unset, .unset] [(.int (0 : Int32))])) (fun _ kt => XT.iconstV X0.here hx rfl (0 : Int32) (hb hby at_51) (by decide)  kt) ?_
      refine Go.by (S' := s₁.setTop (mkF m 54 #[.val (.long q0), .second, .val (.long q1), .second, .val (.long q2), .second, .val (.int p3), .val (.int (0 : Int32)), .val (.long (0 : Int64)), .second, .val (.int (0 : Int32)), .unset, .unset, .unset, .unset, .unset, .unset] [])) (fun _ kt => XS.istore X0.here hx rfl (hb hby at_52) rfl (l' := #[.val (.long q0), .second, .val (.long q1), .second, .val (.long q2), .second, .val (.int p3), .val (.int (0 : Int32)), .val (.long (0 : Int64)), .second, .val (.int (0 : Int32)), .unset, .unset, .unset, .unset, .unset, .unset]) rfl  kt) ?_
      refine Go.by (S' := s₁.setTop (mkF m 55 #[.val (.long q0), .second, .val (.long q1), .second, .val (.long q2), .second, .val (.int p3), .val (.int (0 : Int32)), .val (.long (0 : Int64)), .second, .val (.int (0 : Int32)), .unset, .unset, .unset, .unset, .unset, .unset] [(.long q1)])) (fun _ kt => XS.lloadN X0.here hx rfl (hb hby at_54) rfl  kt) ?_
      refine Go.by (S' := s₁.setTop (mkF m 58 #[.val (.long q0), .second, .val (.long q1), .second, .val (.long q2), .second, .val (.int p3), .val (.int (0 : Int32)), .val (.long (0 : Int64)), .second, .val (.int (0 : Int32)), .unset, .unset, .unset, .unset, .unset, .unset] [(.long (2147483647 : Int64)), (.long q1)])) (X0.ldc2Long hx hown (mvT hZ (hw _ (List.mem_of_getElem? (i := 0) rfl))) (g := (mkF m 55 #[.val (.long q0), .second, .val (.long q1), .second, .val (.long q2), .second, .val (.int p3), .val (.int (0 : Int32)), .val (.long (0 : Int64)), .second, .val (.int (0 : Int32)), .unset, .unset, .unset, .unset, .unset, .unset] [(.long q1)])) rfl (hb hby at_55)) ?_
      refine Go.by (S' := s₁.setTop (mkF m 59 #[.val (.long q0), .second, .val (.long q1), .second, .val (.long q2), .second, .val (.int p3), .val (.int (0 : Int32)), .val (.long (0 : Int64)), .second, .val (.int (0 : Int32)), .unset, .unset, .unset, .unset, .unset, .unset] [(.long (q1 &&& (2147483647 : Int64)))])) (fun _ kt => XS.land X0.here hx rfl (hb hby at_58) rfl  kt) ?_
      have hremr := own_rem q1
      generalize (q1 &&& (2147483647 : Int64)) = rem at hremr ⊢
      refine Go.by (S' := s₁.setTop (mkF m 61 #[.val (.long q0), .second, .val (.long q1), .second, .val (.long q2), .second, .val (.int p3), .val (.int (0 : Int32)), .val (.long (0 : Int64)), .second, .val (.int (0 : Int32)), .val (.long rem), .second, .unset, .unset, .unset, .unset] [])) (fun _ kt => XS.lstore X0.here hx rfl (hb hby at_59) rfl (l' := #[.val (.long q0), .second, .val (.long q1), .second, .val (.long q2), .second, .val (.int p3), .val (.int (0 : Int32)), .val (.long (0 : Int64)), .second, .val (.int (0 : Int32)), .val (.long rem), .second, .unset, .unset, .unset, .unset]) rfl  kt) ?_
      refine Go.by (S' := s₁.setTop (mkF m 63 #[.val (.long q0), .second, .val (.long q1), .second, .val (.long q2), .second, .val (.int p3), .val (.int (0 : Int32)), .val (.long (0 : Int64)), .second, .val (.int (0 : Int32)), .val (.long rem), .second, .unset, .unset, .unset, .unset] [(.int (0 : Int32))])) (fun _ kt => XS.iload X0.here hx rfl (hb hby at_61) rfl  kt) ?_
      refine Go.by (S' := s₁.setTop (mkF m 70 #[.val (.long q0), .second, .val (.long q1), .second, .val (.long q2), .second, .val (.int p3), .val (.int (0 : Int32)), .val (.long (0 : Int64)), .second, .val (.int (0 : Int32)), .val (.long rem), .second, .unset, .unset, .unset, .unset] [])) (fun _ kt => XS.ifYes X0.here hx rfl (pc0 := 63) (pc' := 70) rfl (hb hby at_63) rfl (XT.i0_eq_t (by decide)) (by decide) (by decide)  kt) ?_
      refine Go.by (S' := s₁.setTop (mkF m 72 #[.val (.long q0), .second, .val (.long q1), .second, .val (.long q2), .second, .val (.int p3), .val (.int (0 : Int32)), .val (.long (0 : Int64)), .second, .val (.int (0 : Int32)), .val (.long rem), .second, .unset, .unset, .unset, .unset] [(.long q2)])) (fun _ kt => XS.lload X0.here hx rfl (hb hby at_70) rfl  kt) ?_
      refine Go.by (S' := s₁.setTop (mkF m 75 #[.val (.long q0), .second, .val (.long q1), .second, .val (.long q2), .second, .val (.int p3), .val (.int (0 : Int32)), .val (.long (0 : Int64)), .second, .val (.int (0 : Int32)), .val (.long rem), .second, .unset, .unset, .unset, .unset] [(.long (9223372036854775807 : Int64)), (.long q2)])) (X0.ldc2Long hx hown (mvT hZ (hw _ (List.mem_of_getElem? (i := 1) rfl))) (g := (mkF m 72 #[.val (.long q0), .second, .val (.long q1), .second, .val (.long q2), .second, .val (.int p3), .val (.int (0 : Int32)), .val (.long (0 : Int64)), .second, .val (.int (0 : Int32)), .val (.long rem), .second, .unset, .unset, .unset, .unset] [(.long q2)])) rfl (hb hby at_72)) ?_
      refine Go.by (S' := s₁.setTop (mkF m 76 #[.val (.long q0), .second, .val (.long q1), .second, .val (.long q2), .second, .val (.int p3), .val (.int (0 : Int32)), .val (.long (0 : Int64)), .second, .val (.int (0 : Int32)), .val (.long rem), .second, .unset, .unset, .unset, .unset] [(.long (q2 &&& (9223372036854775807 : Int64)))])) (fun _ kt => XS.land X0.here hx rfl (hb hby at_75) rfl  kt) ?_
      refine Go.by (S' := s₁.setTop (mkF m 78 #[.val (.long q0), .second, .val (.long q1), .second, .val (.long q2), .second, .val (.int p3), .val (.int (0 : Int32)), .val (.long (0 : Int64)), .second, .val (.int (0 : Int32)), .val (.long rem), .second, .val (.long (q2 &&& (9223372036854775807 : Int64))), .second, .unset, .unset] [])) (fun _ kt => XS.lstore X0.here hx rfl (hb hby at_76) rfl (l' := #[.val (.long q0), .second, .val (.long q1), .second, .val (.long q2), .second, .val (.int p3), .val (.int (0 : Int32)), .val (.long (0 : Int64)), .second, .val (.int (0 : Int32)), .val (.long rem), .second, .val (.long (q2 &&& (9223372036854775807 : Int64))), .second, .unset, .unset]) rfl  kt) ?_
      exact t78 _ _ _ _ _ hremr (Or.inr ⟨(by decide), rfl, own_ms q2⟩)
    · refine Go.by (S' := s₁.setTop (mkF m 37 #[.val (.long q0), .second, .val (.long q1), .second, .val (.long q2), .second, .val (.int p3), .val (.int (0 : Int32)), .unset, .unset, .unset, .unset, .unset, .unset, .unset, .unset, .unset] [])) (fun _ kt => XS.ifYes X0.here hx rfl (pc0 := 28) (pc' := 37) rfl (hb hby at_28) rfl (XT.ll_ne_t hc28_16) (by decide) (by decide)  kt) ?_
      refine Go.by (S' := s₁.setTop (mkF m 38 #[.val (.long q0), .second, .val (.long q1), .second, .val (.long q2), .second, .val (.int p3), .val (.int (0 : Int32)), .unset, .unset, .unset, .unset, .unset, .unset, .unset, .unset, .unset] [(.long q0)])) (fun _ kt => XS.lloadN X0.here hx rfl (hb hby at_37) rfl  kt) ?_
      refine Go.by (S' := s₁.setTop (mkF m 40 #[.val (.long q0), .second, .val (.long q1), .second, .val (.long q2), .second, .val (.int p3), .val (.int (0 : Int32)), .val (.long q0), .second, .unset, .unset, .unset, .unset, .unset, .unset, .unset] [])) (fun _ kt => XS.lstore X0.here hx rfl (hb hby at_38) rfl (l' := #[.val (.long q0), .second, .val (.long q1), .second, .val (.long q2), .second, .val (.int p3), .val (.int (0 : Int32)), .val (.long q0), .second, .unset, .unset, .unset, .unset, .unset, .unset, .unset]) rfl  kt) ?_
      refine Go.by (S' := s₁.setTop (mkF m 42 #[.val (.long q0), .second, .val (.long q1), .second, .val (.long q2), .second, .val (.int p3), .val (.int (0 : Int32)), .val (.long q0), .second, .unset, .unset, .unset, .unset, .unset, .unset, .unset] [(.long q0)])) (fun _ kt => XS.lload X0.here hx rfl (hb hby at_40) rfl  kt) ?_
      refine Go.by (S' := s₁.setTop (mkF m 43 #[.val (.long q0), .second, .val (.long q1), .second, .val (.long q2), .second, .val (.int p3), .val (.int (0 : Int32)), .val (.long q0), .second, .unset, .unset, .unset, .unset, .unset, .unset, .unset] [(.long (1 : Int64)), (.long q0)])) (fun _ kt => XT.lconstV X0.here hx rfl (1 : Int64) (hb hby at_42) (by decide)  kt) ?_
      refine Go.by (S' := s₁.setTop (mkF m 44 #[.val (.long q0), .second, .val (.long q1), .second, .val (.long q2), .second, .val (.int p3), .val (.int (0 : Int32)), .val (.long q0), .second, .unset, .unset, .unset, .unset, .unset, .unset, .unset] [(.int (XT.cmpL q0 (1 : Int64)))])) (fun _ kt => XT.lcmp X0.here hx rfl (hb hby at_43) rfl  kt) ?_
      refine Go.by (S' := s₁.setTop (mkF m 51 #[.val (.long q0), .second, .val (.long q1), .second, .val (.long q2), .second, .val (.int p3), .val (.int (0 : Int32)), .val (.long q0), .second, .unset, .unset, .unset, .unset, .unset, .unset, .unset] [])) (fun _ kt => XS.ifYes X0.here hx rfl (pc0 := 44) (pc' := 51) rfl (hb hby at_44) rfl (XT.ll_ne_t hc28_16) (by decide) (by decide)  kt) ?_
      refine Go.by (S' := s₁.setTop (mkF m 52 #[.val (.long q0), .second, .val (.long q1), .second, .val (.long q2), .second, .val (.int p3), .val (.int (0 : Int32)), .val (.long q0), .second, .unset, .unset, .unset, .unset, .unset, .unset, .unset] [(.int (0 : Int32))])) (fun _ kt => XT.iconstV X0.here hx rfl (0 : Int32) (hb hby at_51) (by decide)  kt) ?_
      refine Go.by (S' := s₁.setTop (mkF m 54 #[.val (.long q0), .second, .val (.long q1), .second, .val (.long q2), .second, .val (.int p3), .val (.int (0 : Int32)), .val (.long q0), .second, .val (.int (0 : Int32)), .unset, .unset, .unset, .unset, .unset, .unset] [])) (fun _ kt => XS.istore X0.here hx rfl (hb hby at_52) rfl (l' := #[.val (.long q0), .second, .val (.long q1), .second, .val (.long q2), .second, .val (.int p3), .val (.int (0 : Int32)), .val (.long q0), .second, .val (.int (0 : Int32)), .unset, .unset, .unset, .unset, .unset, .unset]) rfl  kt) ?_
      refine Go.by (S' := s₁.setTop (mkF m 55 #[.val (.long q0), .second, .val (.long q1), .second, .val (.long q2), .second, .val (.int p3), .val (.int (0 : Int32)), .val (.long q0), .second, .val (.int (0 : Int32)), .unset, .unset, .unset, .unset, .unset, .unset] [(.long q1)])) (fun _ kt => XS.lloadN X0.here hx rfl (hb hby at_54) rfl  kt) ?_
      refine Go.by (S' := s₁.setTop (mkF m 58 #[.val (.long q0), .second, .val (.long q1), .second, .val (.long q2), .second, .val (.int p3), .val (.int (0 : Int32)), .val (.long q0), .second, .val (.int (0 : Int32)), .unset, .unset, .unset, .unset, .unset, .unset] [(.long (2147483647 : Int64)), (.long q1)])) (X0.ldc2Long hx hown (mvT hZ (hw _ (List.mem_of_getElem? (i := 0) rfl))) (g := (mkF m 55 #[.val (.long q0), .second, .val (.long q1), .second, .val (.long q2), .second, .val (.int p3), .val (.int (0 : Int32)), .val (.long q0), .second, .val (.int (0 : Int32)), .unset, .unset, .unset, .unset, .unset, .unset] [(.long q1)])) rfl (hb hby at_55)) ?_
      refine Go.by (S' := s₁.setTop (mkF m 59 #[.val (.long q0), .second, .val (.long q1), .second, .val (.long q2), .second, .val (.int p3), .val (.int (0 : Int32)), .val (.long q0), .second, .val (.int (0 : Int32)), .unset, .unset, .unset, .unset, .unset, .unset] [(.long (q1 &&& (2147483647 : Int64)))])) (fun _ kt => XS.land X0.here hx rfl (hb hby at_58) rfl  kt) ?_
      have hremr := own_rem q1
      generalize (q1 &&& (2147483647 : Int64)) = rem at hremr ⊢
      refine Go.by (S' := s₁.setTop (mkF m 61 #[.val (.long q0), .second, .val (.long q1), .second, .val (.long q2), .second, .val (.int p3), .val (.int (0 : Int32)), .val (.long q0), .second, .val (.int (0 : Int32)), .val (.long rem), .second, .unset, .unset, .unset, .unset] [])) (fun _ kt => XS.lstore X0.here hx rfl (hb hby at_59) rfl (l' := #[.val (.long q0), .second, .val (.long q1), .second, .val (.long q2), .second, .val (.int p3), .val (.int (0 : Int32)), .val (.long q0), .second, .val (.int (0 : Int32)), .val (.long rem), .second, .unset, .unset, .unset, .unset]) rfl  kt) ?_
      refine Go.by (S' := s₁.setTop (mkF m 63 #[.val (.long q0), .second, .val (.long q1), .second, .val (.long q2), .second, .val (.int p3), .val (.int (0 : Int32)), .val (.long q0), .second, .val (.int (0 : Int32)), .val (.long rem), .second, .unset, .unset, .unset, .unset] [(.int (0 : Int32))])) (fun _ kt => XS.iload X0.here hx rfl (hb hby at_61) rfl  kt) ?_
      refine Go.by (S' := s₁.setTop (mkF m 70 #[.val (.long q0), .second, .val (.long q1), .second, .val (.long q2), .second, .val (.int p3), .val (.int (0 : Int32)), .val (.long q0), .second, .val (.int (0 : Int32)), .val (.long rem), .second, .unset, .unset, .unset, .unset] [])) (fun _ kt => XS.ifYes X0.here hx rfl (pc0 := 63) (pc' := 70) rfl (hb hby at_63) rfl (XT.i0_eq_t (by decide)) (by decide) (by decide)  kt) ?_
      refine Go.by (S' := s₁.setTop (mkF m 72 #[.val (.long q0), .second, .val (.long q1), .second, .val (.long q2), .second, .val (.int p3), .val (.int (0 : Int32)), .val (.long q0), .second, .val (.int (0 : Int32)), .val (.long rem), .second, .unset, .unset, .unset, .unset] [(.long q2)])) (fun _ kt => XS.lload X0.here hx rfl (hb hby at_70) rfl  kt) ?_
      refine Go.by (S' := s₁.setTop (mkF m 75 #[.val (.long q0), .second, .val (.long q1), .second, .val (.long q2), .second, .val (.int p3), .val (.int (0 : Int32)), .val (.long q0), .second, .val (.int (0 : Int32)), .val (.long rem), .second, .unset, .unset, .unset, .unset] [(.long (9223372036854775807 : Int64)), (.long q2)])) (X0.ldc2Long hx hown (mvT hZ (hw _ (List.mem_of_getElem? (i := 1) rfl))) (g := (mkF m 72 #[.val (.long q0), .second, .val (.long q1), .second, .val (.long q2), .second, .val (.int p3), .val (.int (0 : Int32)), .val (.long q0), .second, .val (.int (0 : Int32)), .val (.long rem), .second, .unset, .unset, .unset, .unset] [(.long q2)])) rfl (hb hby at_72)) ?_
      refine Go.by (S' := s₁.setTop (mkF m 76 #[.val (.long q0), .second, .val (.long q1), .second, .val (.long q2), .second, .val (.int p3), .val (.int (0 : Int32)), .val (.long q0), .second, .val (.int (0 : Int32)), .val (.long rem), .second, .unset, .unset, .unset, .unset] [(.long (q2 &&& (9223372036854775807 : Int64)))])) (fun _ kt => XS.land X0.here hx rfl (hb hby at_75) rfl  kt) ?_
      refine Go.by (S' := s₁.setTop (mkF m 78 #[.val (.long q0), .second, .val (.long q1), .second, .val (.long q2), .second, .val (.int p3), .val (.int (0 : Int32)), .val (.long q0), .second, .val (.int (0 : Int32)), .val (.long rem), .second, .val (.long (q2 &&& (9223372036854775807 : Int64))), .second, .unset, .unset] [])) (fun _ kt => XS.lstore X0.here hx rfl (hb hby at_76) rfl (l' := #[.val (.long q0), .second, .val (.long q1), .second, .val (.long q2), .second, .val (.int p3), .val (.int (0 : Int32)), .val (.long q0), .second, .val (.int (0 : Int32)), .val (.long rem), .second, .val (.long (q2 &&& (9223372036854775807 : Int64))), .second, .unset, .unset]) rfl  kt) ?_
      exact t78 _ _ _ _ _ hremr (Or.inr ⟨hc28_16, rfl, own_ms q2⟩)
  · refine Go.by (S' := s₁.setTop (mkF m 7 #[.val (.long q0), .second, .val (.long q1), .second, .val (.long q2), .second, .val (.int p3), .unset, .unset, .unset, .unset, .unset, .unset, .unset, .unset, .unset, .unset] [])) (fun _ kt => XS.ifNo X0.here hx rfl (hb hby at_4) rfl (XT.i0_eq_f hc4_15)  kt) ?_
    refine Go.by (S' := s₁.setTop (mkF m 8 #[.val (.long q0), .second, .val (.long q1), .second, .val (.long q2), .second, .val (.int p3), .unset, .unset, .unset, .unset, .unset, .unset, .unset, .unset, .unset, .unset] [(.int (1 : Int32))])) (fun _ kt => XT.iconstV X0.here hx rfl (1 : Int32) (hb hby at_7) (by decide)  kt) ?_
    refine Go.by (S' := s₁.setTop (mkF m 12 #[.val (.long q0), .second, .val (.long q1), .second, .val (.long q2), .second, .val (.int p3), .unset, .unset, .unset, .unset, .unset, .unset, .unset, .unset, .unset, .unset] [(.int (1 : Int32))])) (fun _ kt => XS.goto X0.here hx rfl (pc0 := 8) (pc' := 12) rfl (hb hby at_8) (by decide) (by decide)  kt) ?_
    refine Go.by (S' := s₁.setTop (mkF m 14 #[.val (.long q0), .second, .val (.long q1), .second, .val (.long q2), .second, .val (.int p3), .val (.int (1 : Int32)), .unset, .unset, .unset, .unset, .unset, .unset, .unset, .unset, .unset] [])) (fun _ kt => XS.istore X0.here hx rfl (hb hby at_12) rfl (l' := #[.val (.long q0), .second, .val (.long q1), .second, .val (.long q2), .second, .val (.int p3), .val (.int (1 : Int32)), .unset, .unset, .unset, .unset, .unset, .unset, .unset, .unset, .unset]) rfl  kt) ?_
    refine Go.by (S' := s₁.setTop (mkF m 16 #[.val (.long q0), .second, .val (.long q1), .second, .val (.long q2), .second, .val (.int p3), .val (.int (1 : Int32)), .unset, .unset, .unset, .unset, .unset, .unset, .unset, .unset, .unset] [(.int (1 : Int32))])) (fun _ kt => XS.iload X0.here hx rfl (hb hby at_14) rfl  kt) ?_
    refine Go.by (S' := s₁.setTop (mkF m 19 #[.val (.long q0), .second, .val (.long q1), .second, .val (.long q2), .second, .val (.int p3), .val (.int (1 : Int32)), .unset, .unset, .unset, .unset, .unset, .unset, .unset, .unset, .unset] [])) (fun _ kt => XS.ifNo X0.here hx rfl (hb hby at_16) rfl (XT.i0_eq_f (by decide))  kt) ?_
    refine Go.by (S' := s₁.setTop (mkF m 20 #[.val (.long q0), .second, .val (.long q1), .second, .val (.long q2), .second, .val (.int p3), .val (.int (1 : Int32)), .unset, .unset, .unset, .unset, .unset, .unset, .unset, .unset, .unset] [(.long (1 : Int64))])) (fun _ kt => XT.lconstV X0.here hx rfl (1 : Int64) (hb hby at_19) (by decide)  kt) ?_
    refine Go.by (S' := s₁.setTop (mkF m 22 #[.val (.long q0), .second, .val (.long q1), .second, .val (.long q2), .second, .val (.int p3), .val (.int (1 : Int32)), .val (.long (1 : Int64)), .second, .unset, .unset, .unset, .unset, .unset, .unset, .unset] [])) (fun _ kt => XS.lstore X0.here hx rfl (hb hby at_20) rfl (l' := #[.val (.long q0), .second, .val (.long q1), .second, .val (.long q2), .second, .val (.int p3), .val (.int (1 : Int32)), .val (.long (1 : Int64)), .second, .unset, .unset, .unset, .unset, .unset, .unset, .unset]) rfl  kt) ?_
    refine Go.by (S' := s₁.setTop (mkF m 40 #[.val (.long q0), .second, .val (.long q1), .second, .val (.long q2), .second, .val (.int p3), .val (.int (1 : Int32)), .val (.long (1 : Int64)), .second, .unset, .unset, .unset, .unset, .unset, .unset, .unset] [])) (fun _ kt => XS.goto X0.here hx rfl (pc0 := 22) (pc' := 40) rfl (hb hby at_22) (by decide) (by decide)  kt) ?_
    refine Go.by (S' := s₁.setTop (mkF m 42 #[.val (.long q0), .second, .val (.long q1), .second, .val (.long q2), .second, .val (.int p3), .val (.int (1 : Int32)), .val (.long (1 : Int64)), .second, .unset, .unset, .unset, .unset, .unset, .unset, .unset] [(.long (1 : Int64))])) (fun _ kt => XS.lload X0.here hx rfl (hb hby at_40) rfl  kt) ?_
    refine Go.by (S' := s₁.setTop (mkF m 43 #[.val (.long q0), .second, .val (.long q1), .second, .val (.long q2), .second, .val (.int p3), .val (.int (1 : Int32)), .val (.long (1 : Int64)), .second, .unset, .unset, .unset, .unset, .unset, .unset, .unset] [(.long (1 : Int64)), (.long (1 : Int64))])) (fun _ kt => XT.lconstV X0.here hx rfl (1 : Int64) (hb hby at_42) (by decide)  kt) ?_
    refine Go.by (S' := s₁.setTop (mkF m 44 #[.val (.long q0), .second, .val (.long q1), .second, .val (.long q2), .second, .val (.int p3), .val (.int (1 : Int32)), .val (.long (1 : Int64)), .second, .unset, .unset, .unset, .unset, .unset, .unset, .unset] [(.int (XT.cmpL (1 : Int64) (1 : Int64)))])) (fun _ kt => XT.lcmp X0.here hx rfl (hb hby at_43) rfl  kt) ?_
    refine Go.by (S' := s₁.setTop (mkF m 47 #[.val (.long q0), .second, .val (.long q1), .second, .val (.long q2), .second, .val (.int p3), .val (.int (1 : Int32)), .val (.long (1 : Int64)), .second, .unset, .unset, .unset, .unset, .unset, .unset, .unset] [])) (fun _ kt => XS.ifNo X0.here hx rfl (hb hby at_44) rfl (XT.ll_ne_f (by decide))  kt) ?_
    refine Go.by (S' := s₁.setTop (mkF m 48 #[.val (.long q0), .second, .val (.long q1), .second, .val (.long q2), .second, .val (.int p3), .val (.int (1 : Int32)), .val (.long (1 : Int64)), .second, .unset, .unset, .unset, .unset, .unset, .unset, .unset] [(.int (1 : Int32))])) (fun _ kt => XT.iconstV X0.here hx rfl (1 : Int32) (hb hby at_47) (by decide)  kt) ?_
    refine Go.by (S' := s₁.setTop (mkF m 52 #[.val (.long q0), .second, .val (.long q1), .second, .val (.long q2), .second, .val (.int p3), .val (.int (1 : Int32)), .val (.long (1 : Int64)), .second, .unset, .unset, .unset, .unset, .unset, .unset, .unset] [(.int (1 : Int32))])) (fun _ kt => XS.goto X0.here hx rfl (pc0 := 48) (pc' := 52) rfl (hb hby at_48) (by decide) (by decide)  kt) ?_
    refine Go.by (S' := s₁.setTop (mkF m 54 #[.val (.long q0), .second, .val (.long q1), .second, .val (.long q2), .second, .val (.int p3), .val (.int (1 : Int32)), .val (.long (1 : Int64)), .second, .val (.int (1 : Int32)), .unset, .unset, .unset, .unset, .unset, .unset] [])) (fun _ kt => XS.istore X0.here hx rfl (hb hby at_52) rfl (l' := #[.val (.long q0), .second, .val (.long q1), .second, .val (.long q2), .second, .val (.int p3), .val (.int (1 : Int32)), .val (.long (1 : Int64)), .second, .val (.int (1 : Int32)), .unset, .unset, .unset, .unset, .unset, .unset]) rfl  kt) ?_
    refine Go.by (S' := s₁.setTop (mkF m 55 #[.val (.long q0), .second, .val (.long q1), .second, .val (.long q2), .second, .val (.int p3), .val (.int (1 : Int32)), .val (.long (1 : Int64)), .second, .val (.int (1 : Int32)), .unset, .unset, .unset, .unset, .unset, .unset] [(.long q1)])) (fun _ kt => XS.lloadN X0.here hx rfl (hb hby at_54) rfl  kt) ?_
    refine Go.by (S' := s₁.setTop (mkF m 58 #[.val (.long q0), .second, .val (.long q1), .second, .val (.long q2), .second, .val (.int p3), .val (.int (1 : Int32)), .val (.long (1 : Int64)), .second, .val (.int (1 : Int32)), .unset, .unset, .unset, .unset, .unset, .unset] [(.long (2147483647 : Int64)), (.long q1)])) (X0.ldc2Long hx hown (mvT hZ (hw _ (List.mem_of_getElem? (i := 0) rfl))) (g := (mkF m 55 #[.val (.long q0), .second, .val (.long q1), .second, .val (.long q2), .second, .val (.int p3), .val (.int (1 : Int32)), .val (.long (1 : Int64)), .second, .val (.int (1 : Int32)), .unset, .unset, .unset, .unset, .unset, .unset] [(.long q1)])) rfl (hb hby at_55)) ?_
    refine Go.by (S' := s₁.setTop (mkF m 59 #[.val (.long q0), .second, .val (.long q1), .second, .val (.long q2), .second, .val (.int p3), .val (.int (1 : Int32)), .val (.long (1 : Int64)), .second, .val (.int (1 : Int32)), .unset, .unset, .unset, .unset, .unset, .unset] [(.long (q1 &&& (2147483647 : Int64)))])) (fun _ kt => XS.land X0.here hx rfl (hb hby at_58) rfl  kt) ?_
    have hremr := own_rem q1
    generalize (q1 &&& (2147483647 : Int64)) = rem at hremr ⊢
    refine Go.by (S' := s₁.setTop (mkF m 61 #[.val (.long q0), .second, .val (.long q1), .second, .val (.long q2), .second, .val (.int p3), .val (.int (1 : Int32)), .val (.long (1 : Int64)), .second, .val (.int (1 : Int32)), .val (.long rem), .second, .unset, .unset, .unset, .unset] [])) (fun _ kt => XS.lstore X0.here hx rfl (hb hby at_59) rfl (l' := #[.val (.long q0), .second, .val (.long q1), .second, .val (.long q2), .second, .val (.int p3), .val (.int (1 : Int32)), .val (.long (1 : Int64)), .second, .val (.int (1 : Int32)), .val (.long rem), .second, .unset, .unset, .unset, .unset]) rfl  kt) ?_
    refine Go.by (S' := s₁.setTop (mkF m 63 #[.val (.long q0), .second, .val (.long q1), .second, .val (.long q2), .second, .val (.int p3), .val (.int (1 : Int32)), .val (.long (1 : Int64)), .second, .val (.int (1 : Int32)), .val (.long rem), .second, .unset, .unset, .unset, .unset] [(.int (1 : Int32))])) (fun _ kt => XS.iload X0.here hx rfl (hb hby at_61) rfl  kt) ?_
    refine Go.by (S' := s₁.setTop (mkF m 66 #[.val (.long q0), .second, .val (.long q1), .second, .val (.long q2), .second, .val (.int p3), .val (.int (1 : Int32)), .val (.long (1 : Int64)), .second, .val (.int (1 : Int32)), .val (.long rem), .second, .unset, .unset, .unset, .unset] [])) (fun _ kt => XS.ifNo X0.here hx rfl (hb hby at_63) rfl (XT.i0_eq_f (by decide))  kt) ?_
    refine Go.by (S' := s₁.setTop (mkF m 67 #[.val (.long q0), .second, .val (.long q1), .second, .val (.long q2), .second, .val (.int p3), .val (.int (1 : Int32)), .val (.long (1 : Int64)), .second, .val (.int (1 : Int32)), .val (.long rem), .second, .unset, .unset, .unset, .unset] [(.long (0 : Int64))])) (fun _ kt => XT.lconstV X0.here hx rfl (0 : Int64) (hb hby at_66) (by decide)  kt) ?_
    refine Go.by (S' := s₁.setTop (mkF m 76 #[.val (.long q0), .second, .val (.long q1), .second, .val (.long q2), .second, .val (.int p3), .val (.int (1 : Int32)), .val (.long (1 : Int64)), .second, .val (.int (1 : Int32)), .val (.long rem), .second, .unset, .unset, .unset, .unset] [(.long (0 : Int64))])) (fun _ kt => XS.goto X0.here hx rfl (pc0 := 67) (pc' := 76) rfl (hb hby at_67) (by decide) (by decide)  kt) ?_
    refine Go.by (S' := s₁.setTop (mkF m 78 #[.val (.long q0), .second, .val (.long q1), .second, .val (.long q2), .second, .val (.int p3), .val (.int (1 : Int32)), .val (.long (1 : Int64)), .second, .val (.int (1 : Int32)), .val (.long rem), .second, .val (.long (0 : Int64)), .second, .unset, .unset] [])) (fun _ kt => XS.lstore X0.here hx rfl (hb hby at_76) rfl (l' := #[.val (.long q0), .second, .val (.long q1), .second, .val (.long q2), .second, .val (.int p3), .val (.int (1 : Int32)), .val (.long (1 : Int64)), .second, .val (.int (1 : Int32)), .val (.long rem), .second, .val (.long (0 : Int64)), .second, .unset, .unset]) rfl  kt) ?_
    exact t78 _ _ _ _ _ hremr (Or.inl ⟨rfl, rfl, rfl⟩)
theorem own_len {s : State} {args : Array Value} {t : Term} {a : Addr} {cl : Cell} {ty : FieldType} {k : Int32} {n : Nat} (hk : k.toInt = n) (et : ∀ idx, t.eval args s none idx s = some (.ref a)) (A : Arr s s.heap a cl ty)
    (h : (Jvm.Cond.eq (.length t) (.int k)).value args s none s [] = some true) : cl.slots.size = n := by
  have e := eqv_i (F := Jvm.Term.int k) rfl h
  have hat : s.arrayAt? a = some cl := A.fin (Vm.Alike.refl _)
  by_cases q : cl.slots.size < 2 ^ 31
  · have e' : cl.slots.size.toInt32 = k := by simpa [Term.eval, et, hat, q] using e
    have := congrArg Int32.toInt e'
    rw [len_toInt q, hk] at this
    omega
  · simp [Term.eval, et, hat, q] at e
set_option maxRecDepth 65536 in
set_option maxHeartbeats 40000000 in
theorem comes_1 {Post : Tables → Env → Array Value → State → Outcome → State → Prop} (hpost : ∀ tb e args s v u, (limb_1_1.after args s (.returned v) u = true ∧ limb_1_2.after args s (.returned v) u = true ∧ True) → ReturnedEndW s (.returned v) u (Jvm.fieldLocs frame_1_writes args s ++ Jvm.arrayLocs frame_1_arrays args s ++ Jvm.staticLocs frame_1_statics s) 32 1152 → Post tb e args s (.returned v) u) :
    ArmFor flags0 classFile x code maxLocals ret World_1 tables_1 room_1 Calls_1 rest_1 Pre_1 Post := by
  intro l hfl _ _ p e ha hc hk s m args below hf hA hF happ hP
  obtain ⟨hcalls, hrest, hpre⟩ := hP
  obtain ⟨-, -, -, hnamed, -, -, -, hat⟩ := (Spec.applies_iff hf).mp happ
  obtain ⟨hg, hn⟩ := and_e (Cond.before_iff.mp (show (Jvm.Cond.and given_1 narrow_1).before args s = true from hpre))
  obtain ⟨gc, gr0⟩ := and_e hg
  obtain ⟨gi0, gr1⟩ := and_e gr0
  obtain ⟨gi1, gr2⟩ := and_e gr1
  obtain ⟨gi2, gr3⟩ := and_e gr2
  have gi3 := gr3
  obtain ⟨w0, w1, w2, w3, rfl⟩ : ∃ w0 w1 w2 w3 : Value, args = #[w0, w1, w2, w3] := by
    have hs : args.size = 4 := by simpa [Cond.value, given_1] using gc
    obtain ⟨L⟩ := args
    match L, hs with
    | [w0, w1, w2, w3], _ => exact ⟨w0, w1, w2, w3, rfl⟩
  have hw := fun d (hd : d ∈ tables_1) => atoms_spec (ws := Jvm.Cond.code x code maxLocals ret :: tables_1) hat d (List.mem_cons_of_mem _ hd)
  have hfit : Fit s := fun {y c} hc i hi => by
    obtain ⟨ha, rfl⟩ := Array.getElem?_eq_some_iff.mp hc
    have q := List.all_eq_true.mp ((Array.all_eq_true_iff_forall_mem.mp hF) _ (Array.getElem_mem ha)) i (List.mem_range.mpr hi)
    simpa [Array.getElem?_eq_getElem hi] using q
  obtain ⟨hsets, hown0⟩ := atoms_of _ (rest_1_c_eq ▸ (show rest_1_c.before _ s = true from hrest))
  obtain ⟨i0, ei0⟩ := isL_v gi0
  obtain rfl : w0 = (.long i0) := Option.some.inj ei0
  obtain ⟨i1, ei1⟩ := isL_v gi1
  obtain rfl : w1 = (.long i1) := Option.some.inj ei1
  obtain ⟨i2, ei2⟩ := isL_v gi2
  obtain rfl : w2 = (.long i2) := Option.some.inj ei2
  obtain ⟨i3, ei3⟩ := is_v gi3
  obtain rfl : w3 = (.int i3) := Option.some.inj ei3
  have q6 := Cond.before_iff.mp (hsets _ (List.mem_of_getElem? (i := 6) rfl))
  obtain ⟨te, ete⟩ := arr_v q6
  have etE : ∀ idx, (Jvm.Term.static "java/util/ArrayList" "DEFAULTCAPACITY_EMPTY_ELEMENTDATA" "[Ljava/lang/Object;").eval #[.long i0, .long i1, .long i2, .int i3] s none idx s = some (.ref te) := fun _ => ete
  obtain ⟨clE, AE⟩ := Arr.start ete q6
  have SD := Sta.start ete (Or.inr ⟨(hw _ (List.mem_of_getElem? (i := 4) rfl)), (hsets _ (List.mem_of_getElem? (i := 2) rfl))⟩)
  have szE : clE.slots.size = 0 := own_len (by decide) etE AE (Cond.before_iff.mp (hsets _ (List.mem_of_getElem? (i := 8) rfl)))
  have q11 := Cond.before_iff.mp (hsets _ (List.mem_of_getElem? (i := 11) rfl))
  obtain ⟨tc, etc⟩ := arr_v q11
  have etC : ∀ idx, (Jvm.Term.static "java/lang/Long$LongCache" "cache" "[Ljava/lang/Long;").eval #[.long i0, .long i1, .long i2, .int i3] s none idx s = some (.ref tc) := fun _ => etc
  obtain ⟨cl, AC⟩ := Arr.start etc q11
  have SC := Sta.start etc (Or.inr ⟨(hw _ (List.mem_of_getElem? (i := 35) rfl)), (hsets _ (List.mem_of_getElem? (i := 9) rfl))⟩)
  have szC : cl.slots.size = 256 := own_len (by decide) etC AC (Cond.before_iff.mp (hsets _ (List.mem_of_getElem? (i := 13) rfl)))
  have BX : Bxs s tc cl "java/lang/Long" "J" 256 (fun j => .long (j - 128).toInt64) := Bxs.start (F := Jvm.Term.op1 .i2l (Jvm.Term.sub (Jvm.Term.index 0) (Jvm.Term.int 128))) etC AC (by rw [szC]; decide) (by rw [szC]; rfl) (by decide) (Cond.before_iff.mp (hsets _ (List.mem_of_getElem? (i := 14) rfl))) (fun X j nn hh => eqv_l (i2l_at (by simp [Term.eval, (back32 nn).1])) hh)
  have q17 := Cond.before_iff.mp (hsets _ (List.mem_of_getElem? (i := 17) rfl))
  obtain ⟨tz, etz⟩ := exa_v q17
  have SZ := Sta.start etz (Or.inr ⟨(hw _ (List.mem_of_getElem? (i := 129) rfl)), (hsets _ (List.mem_of_getElem? (i := 15) rfl))⟩)
  have E_tz := Exa.start etz q17
  have F_tz_seconds : Fld s s.heap tz "java/time/Duration" "seconds" "J" (.long 0) := Fld.start ((fld_at etz).symm.trans (eqv_l (F := Jvm.Term.long 0) rfl (Cond.before_iff.mp (hsets _ (List.mem_of_getElem? (i := 18) rfl)))))
  have F_tz_nanos : Fld s s.heap tz "java/time/Duration" "nanos" "I" (.int 0) := Fld.start ((fld_at etz).symm.trans (eqv_i (F := Jvm.Term.int 0) rfl (Cond.before_iff.mp (hsets _ (List.mem_of_getElem? (i := 19) rfl)))))
  obtain ⟨n, o, h1, h2, h3, _, L, rfl, ⟨rfl, N⟩, hq⟩ := rm0 l s _ hw tables_1 i0 i1 i2 i3 te clE tc cl _ tz s.heap s.heap.size (Nat.le_refl _) rfl SD AE szE SC BX (fun _ => rfl) (own_ext_refl _) SZ E_tz F_tz_seconds F_tz_nanos p e ha hc hk s m _ below hf ((Spec.applies_iff_loose hf).mp happ).1 ⟨rfl, State.Warmed39.refl s, rfl⟩ trivial
  refine ⟨n, _, h1, h2, h3, hpost _ _ _ _ _ _ ⟨Cond.after_iff.mpr rfl, Cond.after_iff.mpr (eq_i res_at (Term.int_eval (1)) rfl), trivial⟩ ⟨hq.1, hq.2.1, hq.2.2.1, (hq.2.2.2.sift fun y hy => Or.inr (N y hy)).mono (by decide) (by decide)⟩⟩
theorem main_1_1 : Claimed_1_1 := comes_1 fun _ _ _ _ _ _ h hF => ⟨h.1, hF⟩
theorem main_1_2 : Claimed_1_2 := comes_1 fun _ _ _ _ _ _ h hF => ⟨h.2.1, hF⟩
end Jvm.Pilot.@@N@@
namespace Jvm.Pilot.@@N@@
open Jvm Jvm.ClassFile Sem Op Lib Jvm.Free Jvm.Stand Jvm.Pilot.@@N@@.Jvm.D
/-! MADE BY PROGRAM (witnessworld.py) out of the Statement's table words and the real class files: 33 classes; the members and pool entries that the words name. The judged class is class 1, her method 1. -/
namespace start1
open Jvm.ClassFile
def u (s : String) : CpInfo := .utf8 (stringToUtf16 s)
/-- a pool by its gaps: so many unusable entries, then the entry; so many at the end -/
def gap : Nat → List CpInfo → List CpInfo
  | 0, r => r
  | n + 1, r => .unusable :: gap n r
def poolList (es : List (Nat × CpInfo)) (last : Nat) : List CpInfo := es.foldr (fun e r => gap e.1 (e.2 :: r)) (gap last [])
def pool (es : List (Nat × CpInfo)) (last : Nat) : Array CpInfo := ⟨poolList es last⟩
def fileOf (pool : Array CpInfo) (this : Nat) (attrs : Array Attribute := #[]) (ms : Array MethodInfo := #[]) (fl : Nat := 33) (sup : Nat := 0) (ifs : Array Nat := #[]) (fds : Array FieldInfo := #[]) : ClassFile where
  minorVersion := 0
  majorVersion := 65
  constantPool := pool
  accessFlags := fl
  thisClass := this
  superClass := sup
  interfaces := ifs
  fields := fds
  methods := ms
  attributes := attrs
def plain (name : String) (sup : Option ClassId) : Class where
  name := name
  kind := .ordinary
  loader := none
  accessFlags := 33
  super := sup
  interfaces := #[]
  cf := none
  fields := #[]
  methods := #[]
  instanceTypes := #[]
  staticTypes := #[]
  resolved := #[]
  callSites := []
  init := .initialized
  statics := none
  mirror := none

def pool0 : Array CpInfo := pool [(5, u "<init>"), (0, u "()V"), (1, .class_ 10), (1, u "java/lang/Object")] 113

def k0c0 : Code := { maxStack := 0, maxLocals := 1, code := object_method_1_code, exceptionTable := #[], attributes := #[] }
def k0m0 : Method := { name := "<init>", desc := "()V", sig := { parameters := [], returnType := none }, accessFlags := 1, code := some k0c0 }
/-- java/lang/Object -/
def k0 : Class := { plain "java/lang/Object" none with
  accessFlags := 33
  interfaces := #[]
  cf := some (fileOf pool0 8 #[] #[{ accessFlags := 1, nameIndex := 5, descriptorIndex := 6, attributes := #[] }] 33 0 #[] #[])
  fields := #[]
  methods := #[k0m0]
  instanceTypes := #[]
  staticTypes := #[]
  resolved := Array.replicate 124 none
  statics := none }

def pool1 : Array CpInfo := pool [(2, .class_ 4), (0, .nameAndType 5 6), (0, u "java/lang/Object"), (0, u "<init>"), (0, u "()V"), (0, .long 2147483647), (1, .class_ 10), (0, u "java/lang/Long"), (0, .long 9223372036854775807), (1, .class_ 14), (0, u "java/util/ArrayList"), (0, .methodref 13 3), (0, .methodref 9 17), (0, .nameAndType 18 19), (0, u "valueOf"), (0, u "(J)Ljava/lang/Long;"), (0, .methodref 13 21), (0, .nameAndType 22 23), (0, u "add"), (0, u "(Ljava/lang/Object;)Z"), (0, .methodref 25 26), (0, .class_ 27), (0, .nameAndType 28 29), (0, u "com/example/keys_to_patterns/keystopatterns/limit/Decision"), (0, u "fromReply"), (0, u "(Ljava/lang/Object;)Lcom/example/keys_to_patterns/keystopatterns/limit/Decision;"), (0, .methodref 25 31), (0, .nameAndType 32 33), (0, u "allowed"), (0, u "()Z"), (0, .methodref 25 35), (0, .nameAndType 36 37), (0, u "remaining"), (0, u "()I"), (0, .methodref 25 39), (0, .nameAndType 40 41), (0, u "retryAfter"), (0, u "()Ljava/time/Duration;"), (0, .methodref 43 44), (0, .class_ 45), (0, .nameAndType 46 47), (0, u "java/time/Duration"), (0, u "ofMillis"), (0, u "(J)Ljava/time/Duration;"), (0, .methodref 43 49), (0, .nameAndType 50 23), (0, u "equals"), (0, .class_ 52), (0, u "com/example/keys_to_patterns/keystopatterns/limit/DecisionFromReplyPinLaw"), (2, u "law"), (0, u "(JJJI)Z")] 3

def k1m0 : Method := { name := "<init>", desc := "()V", sig := { parameters := [], returnType := none }, accessFlags := 1, code := none }
def k1c1 : Code := { maxStack := 4, maxLocals := 17, code := code, exceptionTable := #[], attributes := #[] }
def k1m1 : Method := { name := "law", desc := "(JJJI)Z", sig := { parameters := [.long, .long, .long, .int], returnType := some .boolean }, accessFlags := 9, code := some k1c1 }
/-- com/example/keys_to_patterns/keystopatterns/limit/DecisionFromReplyPinLaw -/
def k1 : Class := { plain "com/example/keys_to_patterns/keystopatterns/limit/DecisionFromReplyPinLaw" (some 0) with
  accessFlags := 49
  interfaces := #[]
  cf := some (fileOf pool1 51 #[] #[{ accessFlags := 1, nameIndex := 5, descriptorIndex := 6, attributes := #[] }, { accessFlags := 9, nameIndex := 55, descriptorIndex := 56, attributes := #[] }] 49 2 #[] #[])
  fields := #[]
  methods := #[k1m0, k1m1]
  instanceTypes := #[]
  staticTypes := #[]
  resolved := Array.replicate 60 none
  statics := none }

def pool2 : Array CpInfo := pool [(8, .class_ 10), (1, u "java/lang/Iterable"), (24, .class_ 36), (0, u "java/lang/Object")] 25

/-- java/lang/Iterable -/
def k2 : Class := { plain "java/lang/Iterable" (some 0) with
  accessFlags := 1537
  interfaces := #[]
  cf := some (fileOf pool2 8 #[] #[] 1537 35 #[] #[])
  fields := #[]
  methods := #[]
  instanceTypes := #[]
  staticTypes := #[]
  resolved := Array.replicate 62 none
  statics := none }

def pool3 : Array CpInfo := pool [(10, .class_ 12), (1, u "java/util/Collection"), (47, .class_ 61), (0, u "java/lang/Object"), (0, .class_ 63), (0, u "java/lang/Iterable")] 51

/-- java/util/Collection -/
def k3 : Class := { plain "java/util/Collection" (some 0) with
  accessFlags := 1537
  interfaces := #[2]
  cf := some (fileOf pool3 10 #[] #[] 1537 60 #[62] #[])
  fields := #[]
  methods := #[]
  instanceTypes := #[]
  staticTypes := #[]
  resolved := Array.replicate 115 none
  statics := none }

def pool4 : Array CpInfo := pool [(1, .methodref 2 3), (0, .class_ 4), (0, .nameAndType 5 6), (0, u "java/lang/Object"), (0, u "<init>"), (0, u "()V"), (1, .class_ 10), (1, u "java/util/AbstractCollection"), (66, .class_ 78), (0, u "java/util/Collection")] 81

def k4c0 : Code := { maxStack := 1, maxLocals := 1, code := jdk_22_method_1_code, exceptionTable := #[], attributes := #[] }
def k4m0 : Method := { name := "<init>", desc := "()V", sig := { parameters := [], returnType := none }, accessFlags := 4, code := some k4c0 }
/-- java/util/AbstractCollection -/
def k4 : Class := { plain "java/util/AbstractCollection" (some 0) with
  accessFlags := 1057
  interfaces := #[3]
  cf := some (fileOf pool4 8 #[] #[{ accessFlags := 4, nameIndex := 5, descriptorIndex := 6, attributes := #[] }] 1057 2 #[77] #[])
  fields := #[]
  methods := #[k4m0]
  instanceTypes := #[]
  staticTypes := #[]
  resolved := Array.replicate 160 none
  statics := none }

def pool5 : Array CpInfo := pool [(8, .class_ 10), (1, u "java/util/SequencedCollection"), (15, .class_ 27), (0, u "java/lang/Object"), (0, .class_ 29), (0, u "java/util/Collection")] 27

/-- java/util/SequencedCollection -/
def k5 : Class := { plain "java/util/SequencedCollection" (some 0) with
  accessFlags := 1537
  interfaces := #[3]
  cf := some (fileOf pool5 8 #[] #[] 1537 26 #[28] #[])
  fields := #[]
  methods := #[]
  instanceTypes := #[]
  staticTypes := #[]
  resolved := Array.replicate 57 none
  statics := none }

def pool6 : Array CpInfo := pool [(8, .class_ 10), (1, u "java/util/List"), (64, u "get"), (0, u "(I)Ljava/lang/Object;"), (26, .class_ 104), (0, u "java/lang/Object"), (15, .class_ 121), (0, u "java/util/SequencedCollection")] 129

def k6m0 : Method := { name := "get", desc := "(I)Ljava/lang/Object;", sig := { parameters := [.int], returnType := some (.object "java/lang/Object") }, accessFlags := 1025, code := none }
/-- java/util/List -/
def k6 : Class := { plain "java/util/List" (some 0) with
  accessFlags := 1537
  interfaces := #[5]
  cf := some (fileOf pool6 8 #[] #[{ accessFlags := 1025, nameIndex := 75, descriptorIndex := 76, attributes := #[] }] 1537 103 #[120] #[])
  fields := #[]
  methods := #[k6m0]
  instanceTypes := #[]
  staticTypes := #[]
  resolved := Array.replicate 251 none
  statics := none }

def pool7 : Array CpInfo := pool [(1, .methodref 2 3), (0, .class_ 4), (0, .nameAndType 5 6), (0, u "java/util/AbstractCollection"), (0, u "<init>"), (0, u "()V"), (0, .fieldref 8 9), (0, .class_ 10), (0, .nameAndType 11 12), (0, u "java/util/AbstractList"), (0, u "modCount"), (0, u "I"), (64, .class_ 78), (0, u "java/util/AbstractList$Itr"), (3, .class_ 83), (0, u "java/util/AbstractList$ListItr"), (9, .class_ 94), (0, u "java/util/AbstractList$RandomAccessSubList"), (3, .class_ 99), (0, u "java/util/AbstractList$SubList"), (33, .class_ 134), (0, u "java/util/List"), (73, .class_ 209), (0, u "java/util/AbstractList$SubList$1"), (0, .class_ 211), (0, u "java/util/AbstractList$RandomAccessSpliterator")] 6

def k7c0 : Code := { maxStack := 2, maxLocals := 1, code := jdk_39_method_1_code, exceptionTable := #[], attributes := #[] }
def k7m0 : Method := { name := "<init>", desc := "()V", sig := { parameters := [], returnType := none }, accessFlags := 4, code := some k7c0 }
/-- java/util/AbstractList -/
def k7 : Class := { plain "java/util/AbstractList" (some 4) with
  accessFlags := 1057
  interfaces := #[6]
  cf := some (fileOf pool7 8 #[.nestMembers #[93, 98, 208, 210, 82, 77]] #[{ accessFlags := 4, nameIndex := 5, descriptorIndex := 6, attributes := #[] }] 1057 2 #[133] #[{ accessFlags := 132, nameIndex := 11, descriptorIndex := 12, attributes := #[] }])
  fields := #[{ name := "modCount", type := .int, accessFlags := 132, slot := 0, constantValue := 0 }]
  methods := #[k7m0]
  instanceTypes := #[.int]
  staticTypes := #[]
  resolved := Array.replicate 218 none
  statics := none }

def pool8 : Array CpInfo := pool [(1, .class_ 2), (0, u "java/util/RandomAccess"), (0, .class_ 4), (0, u "java/lang/Object")] 2

/-- java/util/RandomAccess -/
def k8 : Class := { plain "java/util/RandomAccess" (some 0) with
  accessFlags := 1537
  interfaces := #[]
  cf := some (fileOf pool8 1 #[] #[] 1537 3 #[] #[])
  fields := #[]
  methods := #[]
  instanceTypes := #[]
  staticTypes := #[]
  resolved := Array.replicate 7 none
  statics := none }

def pool9 : Array CpInfo := pool [(1, .class_ 2), (0, u "java/lang/Cloneable"), (0, .class_ 4), (0, u "java/lang/Object")] 2

/-- java/lang/Cloneable -/
def k9 : Class := { plain "java/lang/Cloneable" (some 0) with
  accessFlags := 1537
  interfaces := #[]
  cf := some (fileOf pool9 1 #[] #[] 1537 3 #[] #[])
  fields := #[]
  methods := #[]
  instanceTypes := #[]
  staticTypes := #[]
  resolved := Array.replicate 7 none
  statics := none }

def pool10 : Array CpInfo := pool [(1, .class_ 2), (0, u "java/io/Serializable"), (0, .class_ 4), (0, u "java/lang/Object")] 2

/-- java/io/Serializable -/
def k10 : Class := { plain "java/io/Serializable" (some 0) with
  accessFlags := 1537
  interfaces := #[]
  cf := some (fileOf pool10 1 #[] #[] 1537 3 #[] #[])
  fields := #[]
  methods := #[]
  instanceTypes := #[]
  staticTypes := #[]
  resolved := Array.replicate 7 none
  statics := none }

def pool11 : Array CpInfo := pool [(1, .methodref 2 3), (0, .class_ 4), (0, .nameAndType 5 6), (0, u "java/util/AbstractList"), (0, u "<init>"), (0, u "()V"), (0, .class_ 8), (0, u "java/lang/Object"), (0, .fieldref 10 11), (0, .class_ 12), (0, .nameAndType 13 14), (0, u "java/util/ArrayList"), (0, u "elementData"), (0, u "[Ljava/lang/Object;"), (2, u "EMPTY_ELEMENTDATA"), (21, .fieldref 10 40), (0, .nameAndType 41 14), (0, u "DEFAULTCAPACITY_EMPTY_ELEMENTDATA"), (5, u "()[Ljava/lang/Object;"), (0, .fieldref 10 49), (0, .nameAndType 50 51), (0, u "size"), (0, u "I"), (11, .fieldref 10 64), (0, .nameAndType 65 51), (0, u "modCount"), (3, .methodref 10 70), (0, .nameAndType 71 72), (0, u "grow"), (0, u "(I)[Ljava/lang/Object;"), (6, .methodref 80 81), (0, .class_ 82), (0, .nameAndType 83 84), (0, u "java/lang/Math"), (0, u "max"), (0, u "(II)I"), (11, u "(Ljava/lang/Object;)Z"), (21, .methodref 119 120), (0, .class_ 121), (0, .nameAndType 122 84), (0, u "java/util/Objects"), (0, u "checkIndex"), (0, .methodref 10 124), (0, .nameAndType 13 125), (0, u "(I)Ljava/lang/Object;"), (3, .methodref 10 130), (0, .nameAndType 71 47), (0, .methodref 10 132), (0, .nameAndType 133 134), (0, u "add"), (0, u "(Ljava/lang/Object;[Ljava/lang/Object;I)V"), (13, .class_ 149), (0, u "java/util/List"), (112, .class_ 263), (0, u "java/util/ArrayList$ListItr"), (3, .class_ 268), (0, u "java/util/ArrayList$Itr"), (7, .class_ 277), (0, u "java/util/ArrayList$SubList"), (12, .class_ 291), (0, u "java/util/ArrayList$ArrayListSpliterator"), (37, .class_ 330), (0, u "java/util/RandomAccess"), (0, .class_ 332), (0, u "java/lang/Cloneable"), (0, .class_ 334), (0, u "java/io/Serializable"), (0, u "serialVersionUID"), (0, u "J"), (3, u "DEFAULT_CAPACITY"), (40, u "get"), (118, .class_ 501), (0, u "java/util/ArrayList$SubList$2"), (0, .class_ 503), (0, u "java/util/ArrayList$SubList$1")] 5

def k11c0 : Code := { maxStack := 2, maxLocals := 1, code := jdk_38_method_2_code, exceptionTable := #[], attributes := #[] }
def k11m0 : Method := { name := "<init>", desc := "()V", sig := { parameters := [], returnType := none }, accessFlags := 1, code := some k11c0 }
def k11c1 : Code := { maxStack := 4, maxLocals := 4, code := jdk_38_method_6_code, exceptionTable := #[], attributes := #[] }
def k11m1 : Method := { name := "grow", desc := "(I)[Ljava/lang/Object;", sig := { parameters := [.int], returnType := some (.array (.object "java/lang/Object")) }, accessFlags := 2, code := some k11c1 }
def k11c2 : Code := { maxStack := 3, maxLocals := 1, code := jdk_38_method_7_code, exceptionTable := #[], attributes := #[] }
def k11m2 : Method := { name := "grow", desc := "()[Ljava/lang/Object;", sig := { parameters := [], returnType := some (.array (.object "java/lang/Object")) }, accessFlags := 2, code := some k11c2 }
def k11c3 : Code := { maxStack := 2, maxLocals := 2, code := jdk_38_method_18_code, exceptionTable := #[], attributes := #[] }
def k11m3 : Method := { name := "elementData", desc := "(I)Ljava/lang/Object;", sig := { parameters := [.int], returnType := some (.object "java/lang/Object") }, accessFlags := 0, code := some k11c3 }
def k11c4 : Code := { maxStack := 2, maxLocals := 2, code := jdk_38_method_20_code, exceptionTable := #[], attributes := #[] }
def k11m4 : Method := { name := "get", desc := "(I)Ljava/lang/Object;", sig := { parameters := [.int], returnType := some (.object "java/lang/Object") }, accessFlags := 1, code := some k11c4 }
def k11c5 : Code := { maxStack := 3, maxLocals := 4, code := jdk_38_method_24_code, exceptionTable := #[], attributes := #[] }
def k11m5 : Method := { name := "add", desc := "(Ljava/lang/Object;[Ljava/lang/Object;I)V", sig := { parameters := [(.object "java/lang/Object"), (.array (.object "java/lang/Object")), .int], returnType := none }, accessFlags := 2, code := some k11c5 }
def k11c6 : Code := { maxStack := 4, maxLocals := 2, code := jdk_38_method_25_code, exceptionTable := #[], attributes := #[] }
def k11m6 : Method := { name := "add", desc := "(Ljava/lang/Object;)Z", sig := { parameters := [(.object "java/lang/Object")], returnType := some .boolean }, accessFlags := 1, code := some k11c6 }
/-- java/util/ArrayList -/
def k11 : Class := { plain "java/util/ArrayList" (some 7) with
  accessFlags := 33
  interfaces := #[6, 8, 9, 10]
  cf := some (fileOf pool11 10 #[.nestMembers #[290, 276, 500, 502, 262, 267]] #[{ accessFlags := 1, nameIndex := 5, descriptorIndex := 6, attributes := #[] }, { accessFlags := 2, nameIndex := 71, descriptorIndex := 72, attributes := #[] }, { accessFlags := 2, nameIndex := 71, descriptorIndex := 47, attributes := #[] }, { accessFlags := 0, nameIndex := 13, descriptorIndex := 125, attributes := #[] }, { accessFlags := 1, nameIndex := 381, descriptorIndex := 125, attributes := #[] }, { accessFlags := 2, nameIndex := 133, descriptorIndex := 134, attributes := #[] }, { accessFlags := 1, nameIndex := 133, descriptorIndex := 96, attributes := #[] }] 33 2 #[148, 329, 331, 333] #[{ accessFlags := 26, nameIndex := 335, descriptorIndex := 336, attributes := #[] }, { accessFlags := 26, nameIndex := 340, descriptorIndex := 51, attributes := #[] }, { accessFlags := 26, nameIndex := 17, descriptorIndex := 14, attributes := #[] }, { accessFlags := 26, nameIndex := 41, descriptorIndex := 14, attributes := #[] }, { accessFlags := 128, nameIndex := 13, descriptorIndex := 14, attributes := #[] }, { accessFlags := 2, nameIndex := 50, descriptorIndex := 51, attributes := #[] }])
  fields := #[{ name := "serialVersionUID", type := .long, accessFlags := 26, slot := 0, constantValue := 0 }, { name := "DEFAULT_CAPACITY", type := .int, accessFlags := 26, slot := 1, constantValue := 0 }, { name := "EMPTY_ELEMENTDATA", type := (.array (.object "java/lang/Object")), accessFlags := 26, slot := 2, constantValue := 0 }, { name := "DEFAULTCAPACITY_EMPTY_ELEMENTDATA", type := (.array (.object "java/lang/Object")), accessFlags := 26, slot := 3, constantValue := 0 }, { name := "elementData", type := (.array (.object "java/lang/Object")), accessFlags := 128, slot := 1, constantValue := 0 }, { name := "size", type := .int, accessFlags := 2, slot := 2, constantValue := 0 }]
  methods := #[k11m0, k11m1, k11m2, k11m3, k11m4, k11m5, k11m6]
  instanceTypes := #[.int, (.array (.object "java/lang/Object")), .int]
  staticTypes := #[.long, .int, (.array (.object "java/lang/Object")), (.array (.object "java/lang/Object"))]
  resolved := Array.replicate 509 none
  statics := some 0 }

def pool12 : Array CpInfo := pool [(1, .methodref 2 3), (0, .class_ 4), (0, .nameAndType 5 6), (0, u "java/lang/Object"), (0, u "<init>"), (0, u "()V"), (1, .class_ 10), (1, u "java/lang/Number"), (2, .class_ 14), (0, u "java/io/Serializable"), (0, u "serialVersionUID"), (0, u "J")] 20

def k12c0 : Code := { maxStack := 1, maxLocals := 1, code := jdk_18_method_1_code, exceptionTable := #[], attributes := #[] }
def k12m0 : Method := { name := "<init>", desc := "()V", sig := { parameters := [], returnType := none }, accessFlags := 1, code := some k12c0 }
/-- java/lang/Number -/
def k12 : Class := { plain "java/lang/Number" (some 0) with
  accessFlags := 1057
  interfaces := #[10]
  cf := some (fileOf pool12 8 #[] #[{ accessFlags := 1, nameIndex := 5, descriptorIndex := 6, attributes := #[] }] 1057 2 #[13] #[{ accessFlags := 26, nameIndex := 15, descriptorIndex := 16, attributes := #[] }])
  fields := #[{ name := "serialVersionUID", type := .long, accessFlags := 26, slot := 0, constantValue := 0 }]
  methods := #[k12m0]
  instanceTypes := #[]
  staticTypes := #[.long]
  resolved := Array.replicate 37 none
  statics := none }

def pool13 : Array CpInfo := pool [(1, .class_ 2), (0, u "java/lang/Comparable"), (0, .class_ 4), (0, u "java/lang/Object")] 7

/-- java/lang/Comparable -/
def k13 : Class := { plain "java/lang/Comparable" (some 0) with
  accessFlags := 1537
  interfaces := #[]
  cf := some (fileOf pool13 1 #[] #[] 1537 3 #[] #[])
  fields := #[]
  methods := #[]
  instanceTypes := #[]
  staticTypes := #[]
  resolved := Array.replicate 12 none
  statics := none }

def pool14 : Array CpInfo := pool [(1, .class_ 2), (0, u "java/lang/constant/Constable"), (0, .class_ 4), (0, u "java/lang/Object")] 6

/-- java/lang/constant/Constable -/
def k14 : Class := { plain "java/lang/constant/Constable" (some 0) with
  accessFlags := 1537
  interfaces := #[]
  cf := some (fileOf pool14 1 #[] #[] 1537 3 #[] #[])
  fields := #[]
  methods := #[]
  instanceTypes := #[]
  staticTypes := #[]
  resolved := Array.replicate 11 none
  statics := none }

def pool15 : Array CpInfo := pool [(1, .class_ 2), (0, u "java/lang/constant/ConstantDesc"), (0, .class_ 4), (0, u "java/lang/Object")] 32

/-- java/lang/constant/ConstantDesc -/
def k15 : Class := { plain "java/lang/constant/ConstantDesc" (some 0) with
  accessFlags := 1537
  interfaces := #[]
  cf := some (fileOf pool15 1 #[] #[] 1537 3 #[] #[])
  fields := #[]
  methods := #[]
  instanceTypes := #[]
  staticTypes := #[]
  resolved := Array.replicate 37 none
  statics := none }

def pool16 : Array CpInfo := pool [(1, .class_ 2), (0, u "java/lang/Long"), (55, .nameAndType 59 60), (0, u "<init>"), (0, u "()V"), (24, u "valueOf"), (143, u "(J)Ljava/lang/Long;"), (0, .long 18446744073709551488), (1, .long 127), (1, .fieldref 235 236), (0, .class_ 237), (0, .nameAndType 238 239), (0, u "java/lang/Long$LongCache"), (0, u "cache"), (0, u "[Ljava/lang/Long;"), (0, .methodref 1 241), (0, .nameAndType 59 242), (0, u "(J)V"), (27, .methodref 271 58), (0, .class_ 272), (0, u "java/lang/Number"), (0, .fieldref 1 274), (0, .nameAndType 275 276), (0, u "value"), (0, u "J"), (3, .methodref 1 281), (0, .nameAndType 282 283), (0, u "longValue"), (0, u "()J"), (77, u "TYPE"), (0, u "Ljava/lang/Class;"), (0, .class_ 364), (0, u "java/lang/Comparable"), (0, .class_ 366), (0, u "java/lang/constant/Constable"), (0, .class_ 368), (0, u "java/lang/constant/ConstantDesc"), (0, u "MIN_VALUE"), (1, u "MAX_VALUE"), (4, u "SIZE"), (0, u "I"), (1, u "BYTES"), (1, u "serialVersionUID"), (77, u "equals"), (0, u "(Ljava/lang/Object;)Z")] 63

def k16c0 : Code := { maxStack := 4, maxLocals := 3, code := jdk_35_method_24_code, exceptionTable := #[], attributes := #[] }
def k16m0 : Method := { name := "valueOf", desc := "(J)Ljava/lang/Long;", sig := { parameters := [.long], returnType := some (.object "java/lang/Long") }, accessFlags := 9, code := some k16c0 }
def k16c1 : Code := { maxStack := 3, maxLocals := 3, code := jdk_35_method_26_code, exceptionTable := #[], attributes := #[] }
def k16m1 : Method := { name := "<init>", desc := "(J)V", sig := { parameters := [.long], returnType := none }, accessFlags := 1, code := some k16c1 }
def k16c2 : Code := { maxStack := 2, maxLocals := 1, code := jdk_35_method_31_code, exceptionTable := #[], attributes := #[] }
def k16m2 : Method := { name := "longValue", desc := "()J", sig := { parameters := [], returnType := some .long }, accessFlags := 1, code := some k16c2 }
def k16c3 : Code := { maxStack := 4, maxLocals := 2, code := jdk_35_method_37_code, exceptionTable := #[], attributes := #[] }
def k16m3 : Method := { name := "equals", desc := "(Ljava/lang/Object;)Z", sig := { parameters := [(.object "java/lang/Object")], returnType := some .boolean }, accessFlags := 1, code := some k16c3 }
/-- java/lang/Long -/
def k16 : Class := { plain "java/lang/Long" (some 12) with
  accessFlags := 49
  interfaces := #[13, 14, 15]
  cf := some (fileOf pool16 1 #[.nestMembers #[235]] #[{ accessFlags := 9, nameIndex := 85, descriptorIndex := 229, attributes := #[] }, { accessFlags := 1, nameIndex := 59, descriptorIndex := 242, attributes := #[] }, { accessFlags := 1, nameIndex := 282, descriptorIndex := 283, attributes := #[] }, { accessFlags := 1, nameIndex := 459, descriptorIndex := 460, attributes := #[] }] 49 271 #[363, 365, 367] #[{ accessFlags := 25, nameIndex := 369, descriptorIndex := 276, attributes := #[] }, { accessFlags := 25, nameIndex := 371, descriptorIndex := 276, attributes := #[] }, { accessFlags := 25, nameIndex := 361, descriptorIndex := 362, attributes := #[] }, { accessFlags := 18, nameIndex := 275, descriptorIndex := 276, attributes := #[] }, { accessFlags := 25, nameIndex := 376, descriptorIndex := 377, attributes := #[] }, { accessFlags := 25, nameIndex := 379, descriptorIndex := 377, attributes := #[] }, { accessFlags := 26, nameIndex := 381, descriptorIndex := 276, attributes := #[] }])
  fields := #[{ name := "MIN_VALUE", type := .long, accessFlags := 25, slot := 0, constantValue := 0 }, { name := "MAX_VALUE", type := .long, accessFlags := 25, slot := 1, constantValue := 0 }, { name := "TYPE", type := (.object "java/lang/Class"), accessFlags := 25, slot := 2, constantValue := 0 }, { name := "value", type := .long, accessFlags := 18, slot := 0, constantValue := 0 }, { name := "SIZE", type := .int, accessFlags := 25, slot := 3, constantValue := 0 }, { name := "BYTES", type := .int, accessFlags := 25, slot := 4, constantValue := 0 }, { name := "serialVersionUID", type := .long, accessFlags := 26, slot := 5, constantValue := 0 }]
  methods := #[k16m0, k16m1, k16m2, k16m3]
  instanceTypes := #[.long]
  staticTypes := #[.long, .long, (.object "java/lang/Class"), .int, .int, .long]
  resolved := Array.replicate 524 none
  statics := none }

def pool17 : Array CpInfo := pool [(2, .class_ 4), (1, u "java/lang/Object"), (0, u "<init>"), (0, u "()V"), (0, .class_ 8), (0, u "java/lang/Long"), (7, .class_ 18), (1, u "java/lang/Long$LongCache"), (0, u "$assertionsDisabled"), (0, u "Z"), (8, u "archivedCache"), (0, u "[Ljava/lang/Long;"), (7, u "cache")] 24

def k17m0 : Method := { name := "<init>", desc := "()V", sig := { parameters := [], returnType := none }, accessFlags := 2, code := none }
/-- java/lang/Long$LongCache -/
def k17 : Class := { plain "java/lang/Long$LongCache" (some 0) with
  accessFlags := 48
  interfaces := #[]
  cf := some (fileOf pool17 16 #[.nestHost 7] #[{ accessFlags := 2, nameIndex := 5, descriptorIndex := 6, attributes := #[] }] 48 2 #[] #[{ accessFlags := 24, nameIndex := 38, descriptorIndex := 30, attributes := #[] }, { accessFlags := 8, nameIndex := 29, descriptorIndex := 30, attributes := #[] }, { accessFlags := 4120, nameIndex := 19, descriptorIndex := 20, attributes := #[] }])
  fields := #[{ name := "cache", type := (.array (.object "java/lang/Long")), accessFlags := 24, slot := 0, constantValue := 0 }, { name := "archivedCache", type := (.array (.object "java/lang/Long")), accessFlags := 8, slot := 1, constantValue := 0 }, { name := "$assertionsDisabled", type := .boolean, accessFlags := 4120, slot := 2, constantValue := 0 }]
  methods := #[k17m0]
  instanceTypes := #[]
  staticTypes := #[(.array (.object "java/lang/Long")), (.array (.object "java/lang/Long")), .boolean]
  resolved := Array.replicate 63 none
  statics := some 1 }

def pool18 : Array CpInfo := pool [(1, .class_ 2), (0, u "java/lang/Math"), (1, .class_ 6), (1, u "java/lang/Object"), (0, u "<init>"), (0, u "()V"), (89, .class_ 100), (1, u "java/lang/Math$RandomNumberGeneratorHolder"), (71, u "negativeZeroFloatBits"), (0, u "J"), (2, u "negativeZeroDoubleBits"), (21, u "max"), (46, u "$assertionsDisabled"), (0, u "Z"), (88, u "(II)I"), (2, u "twoToTheDoubleScaleDown"), (0, u "D"), (4, u "twoToTheDoubleScaleUp"), (9, u "E"), (3, u "PI"), (2, u "TAU"), (2, u "DEGREES_TO_RADIANS"), (0, u "RADIANS_TO_DEGREES"), (39, u "toIntExact"), (0, u "(J)I")] 53

def k18m0 : Method := { name := "<init>", desc := "()V", sig := { parameters := [], returnType := none }, accessFlags := 2, code := none }
def k18c1 : Code := { maxStack := 4, maxLocals := 2, code := jdk_29_method_43_code, exceptionTable := #[], attributes := #[] }
def k18m1 : Method := { name := "toIntExact", desc := "(J)I", sig := { parameters := [.long], returnType := some .int }, accessFlags := 9, code := some k18c1 }
def k18c2 : Code := { maxStack := 2, maxLocals := 2, code := jdk_29_method_65_code, exceptionTable := #[], attributes := #[] }
def k18m2 : Method := { name := "max", desc := "(II)I", sig := { parameters := [.int, .int], returnType := some .int }, accessFlags := 9, code := some k18c2 }
/-- java/lang/Math -/
def k18 : Class := { plain "java/lang/Math" (some 0) with
  accessFlags := 49
  interfaces := #[]
  cf := some (fileOf pool18 1 #[.nestMembers #[98]] #[{ accessFlags := 2, nameIndex := 7, descriptorIndex := 8, attributes := #[] }, { accessFlags := 9, nameIndex := 405, descriptorIndex := 406, attributes := #[] }, { accessFlags := 9, nameIndex := 198, descriptorIndex := 335, attributes := #[] }] 49 4 #[] #[{ accessFlags := 25, nameIndex := 354, descriptorIndex := 339, attributes := #[] }, { accessFlags := 25, nameIndex := 358, descriptorIndex := 339, attributes := #[] }, { accessFlags := 25, nameIndex := 361, descriptorIndex := 339, attributes := #[] }, { accessFlags := 26, nameIndex := 364, descriptorIndex := 339, attributes := #[] }, { accessFlags := 26, nameIndex := 365, descriptorIndex := 339, attributes := #[] }, { accessFlags := 26, nameIndex := 172, descriptorIndex := 173, attributes := #[] }, { accessFlags := 26, nameIndex := 176, descriptorIndex := 173, attributes := #[] }, { accessFlags := 8, nameIndex := 344, descriptorIndex := 339, attributes := #[] }, { accessFlags := 8, nameIndex := 338, descriptorIndex := 339, attributes := #[] }, { accessFlags := 4120, nameIndex := 245, descriptorIndex := 246, attributes := #[] }])
  fields := #[{ name := "E", type := .double, accessFlags := 25, slot := 0, constantValue := 0 }, { name := "PI", type := .double, accessFlags := 25, slot := 1, constantValue := 0 }, { name := "TAU", type := .double, accessFlags := 25, slot := 2, constantValue := 0 }, { name := "DEGREES_TO_RADIANS", type := .double, accessFlags := 26, slot := 3, constantValue := 0 }, { name := "RADIANS_TO_DEGREES", type := .double, accessFlags := 26, slot := 4, constantValue := 0 }, { name := "negativeZeroFloatBits", type := .long, accessFlags := 26, slot := 5, constantValue := 0 }, { name := "negativeZeroDoubleBits", type := .long, accessFlags := 26, slot := 6, constantValue := 0 }, { name := "twoToTheDoubleScaleUp", type := .double, accessFlags := 8, slot := 7, constantValue := 0 }, { name := "twoToTheDoubleScaleDown", type := .double, accessFlags := 8, slot := 8, constantValue := 0 }, { name := "$assertionsDisabled", type := .boolean, accessFlags := 4120, slot := 9, constantValue := 0 }]
  methods := #[k18m0, k18m1, k18m2]
  instanceTypes := #[]
  staticTypes := #[.double, .double, .double, .double, .double, .long, .long, .double, .double, .boolean]
  resolved := Array.replicate 460 none
  statics := none }

def pool19 : Array CpInfo := pool [(1, .methodref 2 3), (0, .class_ 4), (0, .nameAndType 5 6), (0, u "java/lang/Object"), (0, u "<init>"), (0, u "()V"), (0, .class_ 8), (0, u "java/lang/Record")] 13

def k19c0 : Code := { maxStack := 1, maxLocals := 1, code := jdk_30_method_1_code, exceptionTable := #[], attributes := #[] }
def k19m0 : Method := { name := "<init>", desc := "()V", sig := { parameters := [], returnType := none }, accessFlags := 4, code := some k19c0 }
/-- java/lang/Record -/
def k19 : Class := { plain "java/lang/Record" (some 0) with
  accessFlags := 1057
  interfaces := #[]
  cf := some (fileOf pool19 7 #[] #[{ accessFlags := 4, nameIndex := 5, descriptorIndex := 6, attributes := #[] }] 1057 2 #[] #[])
  fields := #[]
  methods := #[k19m0]
  instanceTypes := #[]
  staticTypes := #[]
  resolved := Array.replicate 22 none
  statics := none }

def pool20 : Array CpInfo := pool [(1, .methodref 2 3), (0, .class_ 4), (0, .nameAndType 5 6), (0, u "java/lang/Record"), (0, u "<init>"), (0, u "()V"), (0, .string 8), (0, u "retryAfter"), (0, .methodref 10 11), (0, .class_ 12), (0, .nameAndType 13 14), (0, u "java/util/Objects"), (0, u "requireNonNull"), (0, u "(Ljava/lang/Object;Ljava/lang/String;)Ljava/lang/Object;"), (9, .methodref 25 26), (0, .class_ 27), (0, .nameAndType 28 29), (0, u "java/time/Duration"), (0, u "isNegative"), (0, u "()Z"), (0, .methodref 25 31), (0, .nameAndType 32 29), (0, u "isZero"), (4, u "valueOf"), (4, .fieldref 43 44), (0, .class_ 45), (0, .nameAndType 46 47), (0, u "com/example/keys_to_patterns/keystopatterns/limit/Decision"), (0, u "allowed"), (0, u "Z"), (0, .fieldref 43 49), (0, .nameAndType 50 51), (0, u "remaining"), (0, u "I"), (0, .fieldref 43 53), (0, .nameAndType 8 54), (0, u "Ljava/time/Duration;"), (0, .class_ 56), (0, u "java/util/List"), (0, .methodref 58 59), (0, .class_ 60), (0, .nameAndType 37 61), (0, u "java/lang/Long"), (0, u "(J)Ljava/lang/Long;"), (0, .interfaceMethodref 55 63), (0, .nameAndType 64 65), (0, u "get"), (0, u "(I)Ljava/lang/Object;"), (0, .methodref 58 67), (0, .nameAndType 68 69), (0, u "equals"), (0, u "(Ljava/lang/Object;)Z"), (0, .methodref 58 71), (0, .nameAndType 72 73), (0, u "longValue"), (0, u "()J"), (0, .methodref 75 76), (0, .class_ 77), (0, .nameAndType 78 79), (0, u "java/lang/Math"), (0, u "toIntExact"), (0, u "(J)I"), (0, .methodref 25 81), (0, .nameAndType 82 83), (0, u "ofMillis"), (0, u "(J)Ljava/time/Duration;"), (0, .methodref 43 85), (0, .nameAndType 5 86), (0, u "(ZILjava/time/Duration;)V"), (15, u "fromReply"), (0, u "(Ljava/lang/Object;)Lcom/example/keys_to_patterns/keystopatterns/limit/Decision;"), (1, u "()I"), (0, u "()Ljava/time/Duration;")] 32

def k20c0 : Code := { maxStack := 3, maxLocals := 4, code := prog_2_method_1_code, exceptionTable := #[], attributes := #[] }
def k20m0 : Method := { name := "<init>", desc := "(ZILjava/time/Duration;)V", sig := { parameters := [.boolean, .int, (.object "java/time/Duration")], returnType := none }, accessFlags := 1, code := some k20c0 }
def k20c1 : Code := { maxStack := 6, maxLocals := 2, code := prog_2_method_2_code, exceptionTable := #[], attributes := #[] }
def k20m1 : Method := { name := "fromReply", desc := "(Ljava/lang/Object;)Lcom/example/keys_to_patterns/keystopatterns/limit/Decision;", sig := { parameters := [(.object "java/lang/Object")], returnType := some (.object "com/example/keys_to_patterns/keystopatterns/limit/Decision") }, accessFlags := 8, code := some k20c1 }
def k20c2 : Code := { maxStack := 1, maxLocals := 1, code := prog_2_method_6_code, exceptionTable := #[], attributes := #[] }
def k20m2 : Method := { name := "allowed", desc := "()Z", sig := { parameters := [], returnType := some .boolean }, accessFlags := 1, code := some k20c2 }
def k20c3 : Code := { maxStack := 1, maxLocals := 1, code := prog_2_method_7_code, exceptionTable := #[], attributes := #[] }
def k20m3 : Method := { name := "remaining", desc := "()I", sig := { parameters := [], returnType := some .int }, accessFlags := 1, code := some k20c3 }
def k20c4 : Code := { maxStack := 1, maxLocals := 1, code := prog_2_method_8_code, exceptionTable := #[], attributes := #[] }
def k20m4 : Method := { name := "retryAfter", desc := "()Ljava/time/Duration;", sig := { parameters := [], returnType := some (.object "java/time/Duration") }, accessFlags := 1, code := some k20c4 }
/-- com/example/keys_to_patterns/keystopatterns/limit/Decision -/
def k20 : Class := { plain "com/example/keys_to_patterns/keystopatterns/limit/Decision" (some 19) with
  accessFlags := 49
  interfaces := #[]
  cf := some (fileOf pool20 43 #[] #[{ accessFlags := 1, nameIndex := 5, descriptorIndex := 86, attributes := #[] }, { accessFlags := 8, nameIndex := 102, descriptorIndex := 103, attributes := #[] }, { accessFlags := 1, nameIndex := 46, descriptorIndex := 29, attributes := #[] }, { accessFlags := 1, nameIndex := 50, descriptorIndex := 105, attributes := #[] }, { accessFlags := 1, nameIndex := 8, descriptorIndex := 106, attributes := #[] }] 49 2 #[] #[{ accessFlags := 18, nameIndex := 46, descriptorIndex := 47, attributes := #[] }, { accessFlags := 18, nameIndex := 50, descriptorIndex := 51, attributes := #[] }, { accessFlags := 18, nameIndex := 8, descriptorIndex := 54, attributes := #[] }])
  fields := #[{ name := "allowed", type := .boolean, accessFlags := 18, slot := 0, constantValue := 0 }, { name := "remaining", type := .int, accessFlags := 18, slot := 1, constantValue := 0 }, { name := "retryAfter", type := (.object "java/time/Duration"), accessFlags := 18, slot := 2, constantValue := 0 }]
  methods := #[k20m0, k20m1, k20m2, k20m3, k20m4]
  instanceTypes := #[.boolean, .int, (.object "java/time/Duration")]
  staticTypes := #[]
  resolved := Array.replicate 139 none
  statics := none }

def pool21 : Array CpInfo := pool [(2, .class_ 4), (1, u "java/lang/Object"), (0, u "<init>"), (0, u "()V"), (35, .class_ 44), (1, u "java/util/Objects"), (0, u "requireNonNull"), (48, u "(Ljava/lang/Object;Ljava/lang/String;)Ljava/lang/Object;"), (10, .methodref 106 107), (0, .class_ 108), (0, .nameAndType 109 110), (0, u "jdk/internal/util/Preconditions"), (0, u "checkIndex"), (0, u "(IILjava/util/function/BiFunction;)I"), (60, u "(II)I")] 12

def k21m0 : Method := { name := "<init>", desc := "()V", sig := { parameters := [], returnType := none }, accessFlags := 2, code := none }
def k21c1 : Code := { maxStack := 3, maxLocals := 2, code := jdk_31_method_11_code, exceptionTable := #[], attributes := #[] }
def k21m1 : Method := { name := "requireNonNull", desc := "(Ljava/lang/Object;Ljava/lang/String;)Ljava/lang/Object;", sig := { parameters := [(.object "java/lang/Object"), (.object "java/lang/String")], returnType := some (.object "java/lang/Object") }, accessFlags := 9, code := some k21c1 }
def k21c2 : Code := { maxStack := 3, maxLocals := 2, code := jdk_31_method_17_code, exceptionTable := #[], attributes := #[] }
def k21m2 : Method := { name := "checkIndex", desc := "(II)I", sig := { parameters := [.int, .int], returnType := some .int }, accessFlags := 9, code := some k21c2 }
/-- java/util/Objects -/
def k21 : Class := { plain "java/util/Objects" (some 0) with
  accessFlags := 49
  interfaces := #[]
  cf := some (fileOf pool21 42 #[] #[{ accessFlags := 2, nameIndex := 5, descriptorIndex := 6, attributes := #[] }, { accessFlags := 9, nameIndex := 45, descriptorIndex := 94, attributes := #[] }, { accessFlags := 9, nameIndex := 109, descriptorIndex := 171, attributes := #[] }] 49 2 #[] #[])
  fields := #[]
  methods := #[k21m0, k21m1, k21m2]
  instanceTypes := #[]
  staticTypes := #[]
  resolved := Array.replicate 184 none
  statics := none }

def pool22 : Array CpInfo := pool [(2, .class_ 4), (1, u "java/lang/Object"), (0, u "<init>"), (0, u "()V"), (17, .class_ 26), (1, u "jdk/internal/util/Preconditions"), (6, u "checkIndex"), (21, .class_ 56), (0, u "jdk/internal/util/Preconditions$4"), (57, .class_ 115), (0, u "jdk/internal/util/Preconditions$1"), (7, u "SIOOBE_FORMATTER"), (0, u "Ljava/util/function/BiFunction;"), (0, .class_ 126), (0, u "jdk/internal/util/Preconditions$2"), (3, u "AIOOBE_FORMATTER"), (0, .class_ 132), (0, u "jdk/internal/util/Preconditions$3"), (3, u "IOOBE_FORMATTER"), (41, u "(IILjava/util/function/BiFunction;)I")] 15

def k22m0 : Method := { name := "<init>", desc := "()V", sig := { parameters := [], returnType := none }, accessFlags := 1, code := none }
def k22c1 : Code := { maxStack := 3, maxLocals := 3, code := jdk_41_method_11_code, exceptionTable := #[], attributes := #[] }
def k22m1 : Method := { name := "checkIndex", desc := "(IILjava/util/function/BiFunction;)I", sig := { parameters := [.int, .int, (.object "java/util/function/BiFunction")], returnType := some .int }, accessFlags := 9, code := some k22c1 }
/-- jdk/internal/util/Preconditions -/
def k22 : Class := { plain "jdk/internal/util/Preconditions" (some 0) with
  accessFlags := 33
  interfaces := #[]
  cf := some (fileOf pool22 24 #[.nestMembers #[55, 131, 125, 114]] #[{ accessFlags := 1, nameIndex := 5, descriptorIndex := 6, attributes := #[] }, { accessFlags := 9, nameIndex := 33, descriptorIndex := 178, attributes := #[] }] 33 2 #[] #[{ accessFlags := 25, nameIndex := 123, descriptorIndex := 124, attributes := #[] }, { accessFlags := 25, nameIndex := 130, descriptorIndex := 124, attributes := #[] }, { accessFlags := 25, nameIndex := 136, descriptorIndex := 124, attributes := #[] }])
  fields := #[{ name := "SIOOBE_FORMATTER", type := (.object "java/util/function/BiFunction"), accessFlags := 25, slot := 0, constantValue := 0 }, { name := "AIOOBE_FORMATTER", type := (.object "java/util/function/BiFunction"), accessFlags := 25, slot := 1, constantValue := 0 }, { name := "IOOBE_FORMATTER", type := (.object "java/util/function/BiFunction"), accessFlags := 25, slot := 2, constantValue := 0 }]
  methods := #[k22m0, k22m1]
  instanceTypes := #[]
  staticTypes := #[(.object "java/util/function/BiFunction"), (.object "java/util/function/BiFunction"), (.object "java/util/function/BiFunction")]
  resolved := Array.replicate 194 none
  statics := none }

def pool23 : Array CpInfo := pool [(1, .class_ 2), (0, u "java/time/temporal/TemporalAmount"), (0, .class_ 4), (0, u "java/lang/Object")] 11

/-- java/time/temporal/TemporalAmount -/
def k23 : Class := { plain "java/time/temporal/TemporalAmount" (some 0) with
  accessFlags := 1537
  interfaces := #[]
  cf := some (fileOf pool23 1 #[] #[] 1537 3 #[] #[])
  fields := #[]
  methods := #[]
  instanceTypes := #[]
  staticTypes := #[]
  resolved := Array.replicate 16 none
  statics := none }

def pool24 : Array CpInfo := pool [(10, .methodref 11 12), (0, .class_ 13), (0, .nameAndType 14 15), (0, u "java/time/Duration"), (0, u "create"), (0, u "(JI)Ljava/time/Duration;"), (12, .long 1000), (1, .integer 1000000), (1, .fieldref 11 33), (0, .nameAndType 34 35), (0, u "ZERO"), (0, u "Ljava/time/Duration;"), (13, .class_ 51), (1, u "java/time/temporal/TemporalAmount"), (13, u "()Z"), (13, .class_ 81), (1, u "java/time/Duration$Lazy"), (35, u "seconds"), (21, u "<init>"), (17, .nameAndType 139 158), (0, u "()V"), (40, u "(J)Ljava/time/Duration;"), (15, .methodref 11 216), (0, .nameAndType 139 217), (0, u "(JI)V"), (0, .methodref 219 157), (0, .class_ 220), (0, u "java/lang/Object"), (0, .fieldref 11 222), (0, .nameAndType 117 223), (0, u "J"), (0, .fieldref 11 225), (0, .nameAndType 226 227), (0, u "nanos"), (0, u "I"), (11, .class_ 241), (1, u "java/time/Duration$DurationUnits"), (27, .class_ 271), (1, u "java/time/Duration$1"), (91, u "BI_NANOS_PER_SECOND"), (0, u "Ljava/math/BigInteger;"), (21, u "isNegative"), (98, .class_ 486), (0, u "java/lang/Comparable"), (0, .class_ 488), (0, u "java/io/Serializable"), (0, u "serialVersionUID"), (12, u "ofMillis"), (53, u "isZero"), (62, u "equals"), (0, u "(Ljava/lang/Object;)Z")] 35

def k24c0 : Code := { maxStack := 4, maxLocals := 5, code := jdk_2316_method_6_code, exceptionTable := #[], attributes := #[] }
def k24m0 : Method := { name := "ofMillis", desc := "(J)Ljava/time/Duration;", sig := { parameters := [.long], returnType := some (.object "java/time/Duration") }, accessFlags := 9, code := some k24c0 }
def k24c1 : Code := { maxStack := 5, maxLocals := 3, code := jdk_2316_method_16_code, exceptionTable := #[], attributes := #[] }
def k24m1 : Method := { name := "create", desc := "(JI)Ljava/time/Duration;", sig := { parameters := [.long, .int], returnType := some (.object "java/time/Duration") }, accessFlags := 10, code := some k24c1 }
def k24c2 : Code := { maxStack := 3, maxLocals := 4, code := jdk_2316_method_17_code, exceptionTable := #[], attributes := #[] }
def k24m2 : Method := { name := "<init>", desc := "(JI)V", sig := { parameters := [.long, .int], returnType := none }, accessFlags := 2, code := some k24c2 }
def k24c3 : Code := { maxStack := 4, maxLocals := 1, code := jdk_2316_method_21_code, exceptionTable := #[], attributes := #[] }
def k24m3 : Method := { name := "isZero", desc := "()Z", sig := { parameters := [], returnType := some .boolean }, accessFlags := 1, code := some k24c3 }
def k24c4 : Code := { maxStack := 4, maxLocals := 1, code := jdk_2316_method_22_code, exceptionTable := #[], attributes := #[] }
def k24m4 : Method := { name := "isNegative", desc := "()Z", sig := { parameters := [], returnType := some .boolean }, accessFlags := 1, code := some k24c4 }
def k24c5 : Code := { maxStack := 4, maxLocals := 3, code := jdk_2316_method_67_code, exceptionTable := #[], attributes := #[] }
def k24m5 : Method := { name := "equals", desc := "(Ljava/lang/Object;)Z", sig := { parameters := [(.object "java/lang/Object")], returnType := some .boolean }, accessFlags := 1, code := some k24c5 }
/-- java/time/Duration -/
def k24 : Class := { plain "java/time/Duration" (some 0) with
  accessFlags := 49
  interfaces := #[23, 13, 10]
  cf := some (fileOf pool24 11 #[.nestMembers #[269, 239, 79]] #[{ accessFlags := 9, nameIndex := 502, descriptorIndex := 199, attributes := #[] }, { accessFlags := 10, nameIndex := 14, descriptorIndex := 15, attributes := #[] }, { accessFlags := 2, nameIndex := 139, descriptorIndex := 217, attributes := #[] }, { accessFlags := 1, nameIndex := 556, descriptorIndex := 65, attributes := #[] }, { accessFlags := 1, nameIndex := 386, descriptorIndex := 65, attributes := #[] }, { accessFlags := 1, nameIndex := 619, descriptorIndex := 620, attributes := #[] }] 49 219 #[49, 485, 487] #[{ accessFlags := 25, nameIndex := 34, descriptorIndex := 35, attributes := #[] }, { accessFlags := 26, nameIndex := 489, descriptorIndex := 223, attributes := #[] }, { accessFlags := 26, nameIndex := 363, descriptorIndex := 364, attributes := #[] }, { accessFlags := 18, nameIndex := 117, descriptorIndex := 223, attributes := #[] }, { accessFlags := 18, nameIndex := 226, descriptorIndex := 227, attributes := #[] }])
  fields := #[{ name := "ZERO", type := (.object "java/time/Duration"), accessFlags := 25, slot := 0, constantValue := 0 }, { name := "serialVersionUID", type := .long, accessFlags := 26, slot := 1, constantValue := 0 }, { name := "BI_NANOS_PER_SECOND", type := (.object "java/math/BigInteger"), accessFlags := 26, slot := 2, constantValue := 0 }, { name := "seconds", type := .long, accessFlags := 18, slot := 0, constantValue := 0 }, { name := "nanos", type := .int, accessFlags := 18, slot := 1, constantValue := 0 }]
  methods := #[k24m0, k24m1, k24m2, k24m3, k24m4, k24m5]
  instanceTypes := #[.long, .int]
  staticTypes := #[(.object "java/time/Duration"), .long, (.object "java/math/BigInteger")]
  resolved := Array.replicate 656 none
  statics := some 2 }

def pool25 : Array CpInfo := pool [(2, .class_ 4), (1, u "java/lang/CharSequence"), (42, .class_ 48), (0, u "java/lang/CharSequence$1CodePointIterator"), (10, .class_ 60), (0, u "java/lang/CharSequence$1CharIterator"), (5, .class_ 67), (0, u "java/lang/Object")] 63

/-- java/lang/CharSequence -/
def k25 : Class := { plain "java/lang/CharSequence" (some 0) with
  accessFlags := 1537
  interfaces := #[]
  cf := some (fileOf pool25 2 #[.nestMembers #[47, 59]] #[] 1537 66 #[] #[])
  fields := #[]
  methods := #[]
  instanceTypes := #[]
  staticTypes := #[]
  resolved := Array.replicate 131 none
  statics := none }

def pool26 : Array CpInfo := pool [(2, .class_ 4), (1, u "java/lang/Object"), (0, u "<init>"), (0, u "()V"), (3, .class_ 12), (1, u "java/lang/String"), (0, u "value"), (0, u "[B"), (2, u "coder"), (0, u "B"), (2, u "hash"), (0, u "I"), (2, u "hashIsZero"), (0, u "Z"), (13, u "COMPACT_STRINGS"), (534, .class_ 576), (0, u "java/lang/CharSequence"), (22, u "CASE_INSENSITIVE_ORDER"), (0, u "Ljava/util/Comparator;"), (500, u "serialPersistentFields"), (0, u "[Ljava/io/ObjectStreamField;"), (0, .class_ 1104), (0, u "java/lang/String$CaseInsensitiveComparator"), (1, .class_ 1107), (0, u "java/io/Serializable"), (0, .class_ 1109), (0, u "java/lang/Comparable"), (0, .class_ 1111), (0, u "java/lang/constant/Constable"), (0, .class_ 1113), (0, u "java/lang/constant/ConstantDesc"), (2, u "serialVersionUID"), (0, u "J"), (3, u "REPL"), (0, u "C"), (2, u "LATIN1"), (1, u "UTF16")] 323

def k26m0 : Method := { name := "<init>", desc := "()V", sig := { parameters := [], returnType := none }, accessFlags := 1, code := none }
/-- java/lang/String -/
def k26 : Class := { plain "java/lang/String" (some 0) with
  accessFlags := 49
  interfaces := #[10, 13, 25, 14, 15]
  cf := some (fileOf pool26 10 #[.nestMembers #[1103]] #[{ accessFlags := 1, nameIndex := 5, descriptorIndex := 6, attributes := #[] }] 49 2 #[1106, 1108, 575, 1110, 1112] #[{ accessFlags := 18, nameIndex := 13, descriptorIndex := 14, attributes := #[] }, { accessFlags := 18, nameIndex := 17, descriptorIndex := 18, attributes := #[] }, { accessFlags := 2, nameIndex := 21, descriptorIndex := 22, attributes := #[] }, { accessFlags := 2, nameIndex := 25, descriptorIndex := 26, attributes := #[] }, { accessFlags := 26, nameIndex := 1116, descriptorIndex := 1117, attributes := #[] }, { accessFlags := 24, nameIndex := 40, descriptorIndex := 26, attributes := #[] }, { accessFlags := 26, nameIndex := 1101, descriptorIndex := 1102, attributes := #[] }, { accessFlags := 26, nameIndex := 1121, descriptorIndex := 1122, attributes := #[] }, { accessFlags := 25, nameIndex := 599, descriptorIndex := 600, attributes := #[] }, { accessFlags := 24, nameIndex := 1125, descriptorIndex := 18, attributes := #[] }, { accessFlags := 24, nameIndex := 1127, descriptorIndex := 18, attributes := #[] }])
  fields := #[{ name := "value", type := (.array .byte), accessFlags := 18, slot := 0, constantValue := 0 }, { name := "coder", type := .byte, accessFlags := 18, slot := 1, constantValue := 0 }, { name := "hash", type := .int, accessFlags := 2, slot := 2, constantValue := 0 }, { name := "hashIsZero", type := .boolean, accessFlags := 2, slot := 3, constantValue := 0 }, { name := "serialVersionUID", type := .long, accessFlags := 26, slot := 0, constantValue := 0 }, { name := "COMPACT_STRINGS", type := .boolean, accessFlags := 24, slot := 1, constantValue := 0 }, { name := "serialPersistentFields", type := (.array (.object "java/io/ObjectStreamField")), accessFlags := 26, slot := 2, constantValue := 0 }, { name := "REPL", type := .char, accessFlags := 26, slot := 3, constantValue := 0 }, { name := "CASE_INSENSITIVE_ORDER", type := (.object "java/util/Comparator"), accessFlags := 25, slot := 4, constantValue := 0 }, { name := "LATIN1", type := .byte, accessFlags := 24, slot := 5, constantValue := 0 }, { name := "UTF16", type := .byte, accessFlags := 24, slot := 6, constantValue := 0 }]
  methods := #[k26m0]
  instanceTypes := #[(.array .byte), .byte, .int, .boolean]
  staticTypes := #[.long, .boolean, (.array (.object "java/io/ObjectStreamField")), .char, (.object "java/util/Comparator"), .byte, .byte]
  resolved := Array.replicate 1451 none
  statics := none }

/-- the primitive byte -/
def k27 : Class := { plain "byte" none with kind := .primitive 'B', accessFlags := 0x411 }
/-- [B -/
def k28 : Class := { plain "[B" (some 0) with kind := .array 27 .byte, interfaces := #[9, 10], accessFlags := 1041 }

/-- the primitive int -/
def k29 : Class := { plain "int" none with kind := .primitive 'I', accessFlags := 0x411 }
/-- [I -/
def k30 : Class := { plain "[I" (some 0) with kind := .array 29 .int, interfaces := #[9, 10], accessFlags := 1041 }

/-- [Ljava/lang/Long; -/
def k31 : Class := { plain "[Ljava/lang/Long;" (some 0) with kind := .array 16 (.object "java/lang/Long"), interfaces := #[9, 10], accessFlags := 1041 }

/-- [Ljava/lang/Object; -/
def k32 : Class := { plain "[Ljava/lang/Object;" (some 0) with kind := .array 0 (.object "java/lang/Object"), interfaces := #[9, 10], accessFlags := 1041 }

def heap : Heap := #[{ cls := 11, slots := #[.long 0, .int 0, .ref 4, .ref 5], vm := .statics 11 },
  { cls := 17, slots := #[.ref 3, .null, .int 0], vm := .statics 17 },
  { cls := 24, slots := #[.ref 262, .long 0, .null], vm := .statics 24 },
  { cls := 31, slots := #[.ref 6, .ref 7, .ref 8, .ref 9, .ref 10, .ref 11, .ref 12, .ref 13, .ref 14, .ref 15, .ref 16, .ref 17, .ref 18, .ref 19, .ref 20, .ref 21, .ref 22, .ref 23, .ref 24, .ref 25, .ref 26, .ref 27, .ref 28, .ref 29, .ref 30, .ref 31, .ref 32, .ref 33, .ref 34, .ref 35, .ref 36, .ref 37, .ref 38, .ref 39, .ref 40, .ref 41, .ref 42, .ref 43, .ref 44, .ref 45, .ref 46, .ref 47, .ref 48, .ref 49, .ref 50, .ref 51, .ref 52, .ref 53, .ref 54, .ref 55, .ref 56, .ref 57, .ref 58, .ref 59, .ref 60, .ref 61, .ref 62, .ref 63, .ref 64, .ref 65, .ref 66, .ref 67, .ref 68, .ref 69, .ref 70, .ref 71, .ref 72, .ref 73, .ref 74, .ref 75, .ref 76, .ref 77, .ref 78, .ref 79, .ref 80, .ref 81, .ref 82, .ref 83, .ref 84, .ref 85, .ref 86, .ref 87, .ref 88, .ref 89, .ref 90, .ref 91, .ref 92, .ref 93, .ref 94, .ref 95, .ref 96, .ref 97, .ref 98, .ref 99, .ref 100, .ref 101, .ref 102, .ref 103, .ref 104, .ref 105, .ref 106, .ref 107, .ref 108, .ref 109, .ref 110, .ref 111, .ref 112, .ref 113, .ref 114, .ref 115, .ref 116, .ref 117, .ref 118, .ref 119, .ref 120, .ref 121, .ref 122, .ref 123, .ref 124, .ref 125, .ref 126, .ref 127, .ref 128, .ref 129, .ref 130, .ref 131, .ref 132, .ref 133, .ref 134, .ref 135, .ref 136, .ref 137, .ref 138, .ref 139, .ref 140, .ref 141, .ref 142, .ref 143, .ref 144, .ref 145, .ref 146, .ref 147, .ref 148, .ref 149, .ref 150, .ref 151, .ref 152, .ref 153, .ref 154, .ref 155, .ref 156, .ref 157, .ref 158, .ref 159, .ref 160, .ref 161, .ref 162, .ref 163, .ref 164, .ref 165, .ref 166, .ref 167, .ref 168, .ref 169, .ref 170, .ref 171, .ref 172, .ref 173, .ref 174, .ref 175, .ref 176, .ref 177, .ref 178, .ref 179, .ref 180, .ref 181, .ref 182, .ref 183, .ref 184, .ref 185, .ref 186, .ref 187, .ref 188, .ref 189, .ref 190, .ref 191, .ref 192, .ref 193, .ref 194, .ref 195, .ref 196, .ref 197, .ref 198, .ref 199, .ref 200, .ref 201, .ref 202, .ref 203, .ref 204, .ref 205, .ref 206, .ref 207, .ref 208, .ref 209, .ref 210, .ref 211, .ref 212, .ref 213, .ref 214, .ref 215, .ref 216, .ref 217, .ref 218, .ref 219, .ref 220, .ref 221, .ref 222, .ref 223, .ref 224, .ref 225, .ref 226, .ref 227, .ref 228, .ref 229, .ref 230, .ref 231, .ref 232, .ref 233, .ref 234, .ref 235, .ref 236, .ref 237, .ref 238, .ref 239, .ref 240, .ref 241, .ref 242, .ref 243, .ref 244, .ref 245, .ref 246, .ref 247, .ref 248, .ref 249, .ref 250, .ref 251, .ref 252, .ref 253, .ref 254, .ref 255, .ref 256, .ref 257, .ref 258, .ref 259, .ref 260, .ref 261], vm := .none },
  { cls := 32, slots := #[], vm := .none },
  { cls := 32, slots := #[], vm := .none },
  { cls := 16, slots := #[.long (-128)], vm := .none },
  { cls := 16, slots := #[.long (-127)], vm := .none },
  { cls := 16, slots := #[.long (-126)], vm := .none },
  { cls := 16, slots := #[.long (-125)], vm := .none },
  { cls := 16, slots := #[.long (-124)], vm := .none },
  { cls := 16, slots := #[.long (-123)], vm := .none },
  { cls := 16, slots := #[.long (-122)], vm := .none },
  { cls := 16, slots := #[.long (-121)], vm := .none },
  { cls := 16, slots := #[.long (-120)], vm := .none },
  { cls := 16, slots := #[.long (-119)], vm := .none },
  { cls := 16, slots := #[.long (-118)], vm := .none },
  { cls := 16, slots := #[.long (-117)], vm := .none },
  { cls := 16, slots := #[.long (-116)], vm := .none },
  { cls := 16, slots := #[.long (-115)], vm := .none },
  { cls := 16, slots := #[.long (-114)], vm := .none },
  { cls := 16, slots := #[.long (-113)], vm := .none },
  { cls := 16, slots := #[.long (-112)], vm := .none },
  { cls := 16, slots := #[.long (-111)], vm := .none },
  { cls := 16, slots := #[.long (-110)], vm := .none },
  { cls := 16, slots := #[.long (-109)], vm := .none },
  { cls := 16, slots := #[.long (-108)], vm := .none },
  { cls := 16, slots := #[.long (-107)], vm := .none },
  { cls := 16, slots := #[.long (-106)], vm := .none },
  { cls := 16, slots := #[.long (-105)], vm := .none },
  { cls := 16, slots := #[.long (-104)], vm := .none },
  { cls := 16, slots := #[.long (-103)], vm := .none },
  { cls := 16, slots := #[.long (-102)], vm := .none },
  { cls := 16, slots := #[.long (-101)], vm := .none },
  { cls := 16, slots := #[.long (-100)], vm := .none },
  { cls := 16, slots := #[.long (-99)], vm := .none },
  { cls := 16, slots := #[.long (-98)], vm := .none },
  { cls := 16, slots := #[.long (-97)], vm := .none },
  { cls := 16, slots := #[.long (-96)], vm := .none },
  { cls := 16, slots := #[.long (-95)], vm := .none },
  { cls := 16, slots := #[.long (-94)], vm := .none },
  { cls := 16, slots := #[.long (-93)], vm := .none },
  { cls := 16, slots := #[.long (-92)], vm := .none },
  { cls := 16, slots := #[.long (-91)], vm := .none },
  { cls := 16, slots := #[.long (-90)], vm := .none },
  { cls := 16, slots := #[.long (-89)], vm := .none },
  { cls := 16, slots := #[.long (-88)], vm := .none },
  { cls := 16, slots := #[.long (-87)], vm := .none },
  { cls := 16, slots := #[.long (-86)], vm := .none },
  { cls := 16, slots := #[.long (-85)], vm := .none },
  { cls := 16, slots := #[.long (-84)], vm := .none },
  { cls := 16, slots := #[.long (-83)], vm := .none },
  { cls := 16, slots := #[.long (-82)], vm := .none },
  { cls := 16, slots := #[.long (-81)], vm := .none },
  { cls := 16, slots := #[.long (-80)], vm := .none },
  { cls := 16, slots := #[.long (-79)], vm := .none },
  { cls := 16, slots := #[.long (-78)], vm := .none },
  { cls := 16, slots := #[.long (-77)], vm := .none },
  { cls := 16, slots := #[.long (-76)], vm := .none },
  { cls := 16, slots := #[.long (-75)], vm := .none },
  { cls := 16, slots := #[.long (-74)], vm := .none },
  { cls := 16, slots := #[.long (-73)], vm := .none },
  { cls := 16, slots := #[.long (-72)], vm := .none },
  { cls := 16, slots := #[.long (-71)], vm := .none },
  { cls := 16, slots := #[.long (-70)], vm := .none },
  { cls := 16, slots := #[.long (-69)], vm := .none },
  { cls := 16, slots := #[.long (-68)], vm := .none },
  { cls := 16, slots := #[.long (-67)], vm := .none },
  { cls := 16, slots := #[.long (-66)], vm := .none },
  { cls := 16, slots := #[.long (-65)], vm := .none },
  { cls := 16, slots := #[.long (-64)], vm := .none },
  { cls := 16, slots := #[.long (-63)], vm := .none },
  { cls := 16, slots := #[.long (-62)], vm := .none },
  { cls := 16, slots := #[.long (-61)], vm := .none },
  { cls := 16, slots := #[.long (-60)], vm := .none },
  { cls := 16, slots := #[.long (-59)], vm := .none },
  { cls := 16, slots := #[.long (-58)], vm := .none },
  { cls := 16, slots := #[.long (-57)], vm := .none },
  { cls := 16, slots := #[.long (-56)], vm := .none },
  { cls := 16, slots := #[.long (-55)], vm := .none },
  { cls := 16, slots := #[.long (-54)], vm := .none },
  { cls := 16, slots := #[.long (-53)], vm := .none },
  { cls := 16, slots := #[.long (-52)], vm := .none },
  { cls := 16, slots := #[.long (-51)], vm := .none },
  { cls := 16, slots := #[.long (-50)], vm := .none },
  { cls := 16, slots := #[.long (-49)], vm := .none },
  { cls := 16, slots := #[.long (-48)], vm := .none },
  { cls := 16, slots := #[.long (-47)], vm := .none },
  { cls := 16, slots := #[.long (-46)], vm := .none },
  { cls := 16, slots := #[.long (-45)], vm := .none },
  { cls := 16, slots := #[.long (-44)], vm := .none },
  { cls := 16, slots := #[.long (-43)], vm := .none },
  { cls := 16, slots := #[.long (-42)], vm := .none },
  { cls := 16, slots := #[.long (-41)], vm := .none },
  { cls := 16, slots := #[.long (-40)], vm := .none },
  { cls := 16, slots := #[.long (-39)], vm := .none },
  { cls := 16, slots := #[.long (-38)], vm := .none },
  { cls := 16, slots := #[.long (-37)], vm := .none },
  { cls := 16, slots := #[.long (-36)], vm := .none },
  { cls := 16, slots := #[.long (-35)], vm := .none },
  { cls := 16, slots := #[.long (-34)], vm := .none },
  { cls := 16, slots := #[.long (-33)], vm := .none },
  { cls := 16, slots := #[.long (-32)], vm := .none },
  { cls := 16, slots := #[.long (-31)], vm := .none },
  { cls := 16, slots := #[.long (-30)], vm := .none },
  { cls := 16, slots := #[.long (-29)], vm := .none },
  { cls := 16, slots := #[.long (-28)], vm := .none },
  { cls := 16, slots := #[.long (-27)], vm := .none },
  { cls := 16, slots := #[.long (-26)], vm := .none },
  { cls := 16, slots := #[.long (-25)], vm := .none },
  { cls := 16, slots := #[.long (-24)], vm := .none },
  { cls := 16, slots := #[.long (-23)], vm := .none },
  { cls := 16, slots := #[.long (-22)], vm := .none },
  { cls := 16, slots := #[.long (-21)], vm := .none },
  { cls := 16, slots := #[.long (-20)], vm := .none },
  { cls := 16, slots := #[.long (-19)], vm := .none },
  { cls := 16, slots := #[.long (-18)], vm := .none },
  { cls := 16, slots := #[.long (-17)], vm := .none },
  { cls := 16, slots := #[.long (-16)], vm := .none },
  { cls := 16, slots := #[.long (-15)], vm := .none },
  { cls := 16, slots := #[.long (-14)], vm := .none },
  { cls := 16, slots := #[.long (-13)], vm := .none },
  { cls := 16, slots := #[.long (-12)], vm := .none },
  { cls := 16, slots := #[.long (-11)], vm := .none },
  { cls := 16, slots := #[.long (-10)], vm := .none },
  { cls := 16, slots := #[.long (-9)], vm := .none },
  { cls := 16, slots := #[.long (-8)], vm := .none },
  { cls := 16, slots := #[.long (-7)], vm := .none },
  { cls := 16, slots := #[.long (-6)], vm := .none },
  { cls := 16, slots := #[.long (-5)], vm := .none },
  { cls := 16, slots := #[.long (-4)], vm := .none },
  { cls := 16, slots := #[.long (-3)], vm := .none },
  { cls := 16, slots := #[.long (-2)], vm := .none },
  { cls := 16, slots := #[.long (-1)], vm := .none },
  { cls := 16, slots := #[.long 0], vm := .none },
  { cls := 16, slots := #[.long 1], vm := .none },
  { cls := 16, slots := #[.long 2], vm := .none },
  { cls := 16, slots := #[.long 3], vm := .none },
  { cls := 16, slots := #[.long 4], vm := .none },
  { cls := 16, slots := #[.long 5], vm := .none },
  { cls := 16, slots := #[.long 6], vm := .none },
  { cls := 16, slots := #[.long 7], vm := .none },
  { cls := 16, slots := #[.long 8], vm := .none },
  { cls := 16, slots := #[.long 9], vm := .none },
  { cls := 16, slots := #[.long 10], vm := .none },
  { cls := 16, slots := #[.long 11], vm := .none },
  { cls := 16, slots := #[.long 12], vm := .none },
  { cls := 16, slots := #[.long 13], vm := .none },
  { cls := 16, slots := #[.long 14], vm := .none },
  { cls := 16, slots := #[.long 15], vm := .none },
  { cls := 16, slots := #[.long 16], vm := .none },
  { cls := 16, slots := #[.long 17], vm := .none },
  { cls := 16, slots := #[.long 18], vm := .none },
  { cls := 16, slots := #[.long 19], vm := .none },
  { cls := 16, slots := #[.long 20], vm := .none },
  { cls := 16, slots := #[.long 21], vm := .none },
  { cls := 16, slots := #[.long 22], vm := .none },
  { cls := 16, slots := #[.long 23], vm := .none },
  { cls := 16, slots := #[.long 24], vm := .none },
  { cls := 16, slots := #[.long 25], vm := .none },
  { cls := 16, slots := #[.long 26], vm := .none },
  { cls := 16, slots := #[.long 27], vm := .none },
  { cls := 16, slots := #[.long 28], vm := .none },
  { cls := 16, slots := #[.long 29], vm := .none },
  { cls := 16, slots := #[.long 30], vm := .none },
  { cls := 16, slots := #[.long 31], vm := .none },
  { cls := 16, slots := #[.long 32], vm := .none },
  { cls := 16, slots := #[.long 33], vm := .none },
  { cls := 16, slots := #[.long 34], vm := .none },
  { cls := 16, slots := #[.long 35], vm := .none },
  { cls := 16, slots := #[.long 36], vm := .none },
  { cls := 16, slots := #[.long 37], vm := .none },
  { cls := 16, slots := #[.long 38], vm := .none },
  { cls := 16, slots := #[.long 39], vm := .none },
  { cls := 16, slots := #[.long 40], vm := .none },
  { cls := 16, slots := #[.long 41], vm := .none },
  { cls := 16, slots := #[.long 42], vm := .none },
  { cls := 16, slots := #[.long 43], vm := .none },
  { cls := 16, slots := #[.long 44], vm := .none },
  { cls := 16, slots := #[.long 45], vm := .none },
  { cls := 16, slots := #[.long 46], vm := .none },
  { cls := 16, slots := #[.long 47], vm := .none },
  { cls := 16, slots := #[.long 48], vm := .none },
  { cls := 16, slots := #[.long 49], vm := .none },
  { cls := 16, slots := #[.long 50], vm := .none },
  { cls := 16, slots := #[.long 51], vm := .none },
  { cls := 16, slots := #[.long 52], vm := .none },
  { cls := 16, slots := #[.long 53], vm := .none },
  { cls := 16, slots := #[.long 54], vm := .none },
  { cls := 16, slots := #[.long 55], vm := .none },
  { cls := 16, slots := #[.long 56], vm := .none },
  { cls := 16, slots := #[.long 57], vm := .none },
  { cls := 16, slots := #[.long 58], vm := .none },
  { cls := 16, slots := #[.long 59], vm := .none },
  { cls := 16, slots := #[.long 60], vm := .none },
  { cls := 16, slots := #[.long 61], vm := .none },
  { cls := 16, slots := #[.long 62], vm := .none },
  { cls := 16, slots := #[.long 63], vm := .none },
  { cls := 16, slots := #[.long 64], vm := .none },
  { cls := 16, slots := #[.long 65], vm := .none },
  { cls := 16, slots := #[.long 66], vm := .none },
  { cls := 16, slots := #[.long 67], vm := .none },
  { cls := 16, slots := #[.long 68], vm := .none },
  { cls := 16, slots := #[.long 69], vm := .none },
  { cls := 16, slots := #[.long 70], vm := .none },
  { cls := 16, slots := #[.long 71], vm := .none },
  { cls := 16, slots := #[.long 72], vm := .none },
  { cls := 16, slots := #[.long 73], vm := .none },
  { cls := 16, slots := #[.long 74], vm := .none },
  { cls := 16, slots := #[.long 75], vm := .none },
  { cls := 16, slots := #[.long 76], vm := .none },
  { cls := 16, slots := #[.long 77], vm := .none },
  { cls := 16, slots := #[.long 78], vm := .none },
  { cls := 16, slots := #[.long 79], vm := .none },
  { cls := 16, slots := #[.long 80], vm := .none },
  { cls := 16, slots := #[.long 81], vm := .none },
  { cls := 16, slots := #[.long 82], vm := .none },
  { cls := 16, slots := #[.long 83], vm := .none },
  { cls := 16, slots := #[.long 84], vm := .none },
  { cls := 16, slots := #[.long 85], vm := .none },
  { cls := 16, slots := #[.long 86], vm := .none },
  { cls := 16, slots := #[.long 87], vm := .none },
  { cls := 16, slots := #[.long 88], vm := .none },
  { cls := 16, slots := #[.long 89], vm := .none },
  { cls := 16, slots := #[.long 90], vm := .none },
  { cls := 16, slots := #[.long 91], vm := .none },
  { cls := 16, slots := #[.long 92], vm := .none },
  { cls := 16, slots := #[.long 93], vm := .none },
  { cls := 16, slots := #[.long 94], vm := .none },
  { cls := 16, slots := #[.long 95], vm := .none },
  { cls := 16, slots := #[.long 96], vm := .none },
  { cls := 16, slots := #[.long 97], vm := .none },
  { cls := 16, slots := #[.long 98], vm := .none },
  { cls := 16, slots := #[.long 99], vm := .none },
  { cls := 16, slots := #[.long 100], vm := .none },
  { cls := 16, slots := #[.long 101], vm := .none },
  { cls := 16, slots := #[.long 102], vm := .none },
  { cls := 16, slots := #[.long 103], vm := .none },
  { cls := 16, slots := #[.long 104], vm := .none },
  { cls := 16, slots := #[.long 105], vm := .none },
  { cls := 16, slots := #[.long 106], vm := .none },
  { cls := 16, slots := #[.long 107], vm := .none },
  { cls := 16, slots := #[.long 108], vm := .none },
  { cls := 16, slots := #[.long 109], vm := .none },
  { cls := 16, slots := #[.long 110], vm := .none },
  { cls := 16, slots := #[.long 111], vm := .none },
  { cls := 16, slots := #[.long 112], vm := .none },
  { cls := 16, slots := #[.long 113], vm := .none },
  { cls := 16, slots := #[.long 114], vm := .none },
  { cls := 16, slots := #[.long 115], vm := .none },
  { cls := 16, slots := #[.long 116], vm := .none },
  { cls := 16, slots := #[.long 117], vm := .none },
  { cls := 16, slots := #[.long 118], vm := .none },
  { cls := 16, slots := #[.long 119], vm := .none },
  { cls := 16, slots := #[.long 120], vm := .none },
  { cls := 16, slots := #[.long 121], vm := .none },
  { cls := 16, slots := #[.long 122], vm := .none },
  { cls := 16, slots := #[.long 123], vm := .none },
  { cls := 16, slots := #[.long 124], vm := .none },
  { cls := 16, slots := #[.long 125], vm := .none },
  { cls := 16, slots := #[.long 126], vm := .none },
  { cls := 16, slots := #[.long 127], vm := .none },
  { cls := 24, slots := #[.long 0, .int 0], vm := .none }]
def classes : Array Class := #[k0, k1, k2, k3, k4, k5, k6, k7, k8, k9, k10, k11, k12, k13, k14, k15, k16, k17, k18, k19, k20, k21, k22, k23, k24, k25, k26, k27, k28, k29, k30, k31, k32]
def interned : List (Array UInt16 × Addr) := []
def slotsUsed : Nat := 524
def theMethod : MethodId := ⟨1, 1⟩
def args0 : Array Value := #[.long 1, .long 2, .long 3, .int 1]
def aboutOver (below : List Frame) : State where
  vm := { classes := classes, interned := interned.toArray }
  heap := heap
  slotsUsed := slotsUsed
  threads := #[{ frames := .invoking theMethod args0 :: below }]
def below0 : List Frame := [.native { method := ⟨0, 0⟩, args := #[] }]
def about1 : State := aboutOver below0
def p0 : Program := .bare "" "" ""
def e0 : Env := launch0.env 0 0 0
theorem w_frames : about1.frames = Frame.invoking theMethod args0 :: below0 := rfl
set_option maxRecDepth 65536 in
theorem w_args : argsFit about1.vm theMethod args0 = true := by decide +kernel
set_option maxRecDepth 65536 in
theorem w_heap : heapFits about1 = true := by decide +kernel
set_option maxRecDepth 65536 in
theorem w_runnable : about1.curStatus? = some .runnable := by decide +kernel
set_option maxRecDepth 65536 in
theorem w_alone : about1.alone = true := by decide +kernel
set_option maxRecDepth 65536 in
theorem w_named : about1.methodNamed? x = some theMethod := by decide +kernel
set_option maxRecDepth 65536 in
theorem w_hears : about1.hears theMethod below0 = true := by decide +kernel
set_option maxRecDepth 65536 in
theorem w_ripe : about1.ripe theMethod args0 below0 = true := by decide +kernel
theorem w_running : about1.status = .running := rfl
set_option maxRecDepth 65536 in
theorem w_room : about1.hasRoom e0.platform room_1 = true :=
  launch0.hasRoom_least _ room_1 (by decide +kernel) (by decide +kernel) (by decide +kernel) (by decide +kernel) (by decide +kernel) (by decide +kernel)
theorem allAtoms_all (ts : List Jvm.Cond) (a : Array Jvm.Value) (st : Jvm.State) : (allAtoms ts).before a st = ts.all (fun c => c.before a st) := by
  induction ts with
  | nil => rfl
  | cons c t ih =>
    show (Jvm.Cond.and c (allAtoms t)).before a st = _
    rw [Jvm.Cond.before_and, ih, List.all_cons]
def words1 : List Jvm.Cond := Jvm.Cond.code x code maxLocals ret :: tables_1
/-- a 'code' word, met by the world's own term for the bytes: nothing is compared byte by byte -/
theorem code_word {y : MethodName} {bytes : ByteArray} {mx : Nat} {rt : Option FieldType} {a : Array Value} {s : State} {m : MethodId} {meth : Method} {c : Code} (h1 : s.methodNamed? y = some m) (h2 : s.vm.method? m = some meth) (h3 : meth.code = some c) (h4 : c.code = bytes)
    (h5 : (c.maxLocals == mx && c.exceptionTable.isEmpty && decide (c.maxStack ≤ mostOperands) && decide (meth.sig.returnType = rt) && !meth.locks && decide (parseMethodDescriptor y.desc = some meth.sig)) = true) : (Jvm.Cond.code y bytes mx rt).before a s = true := by
  simp only [Bool.and_eq_true, beq_iff_eq, Bool.not_eq_true', decide_eq_true_eq] at h5
  obtain ⟨⟨⟨⟨⟨g1, g2⟩, g3⟩, g4⟩, g5⟩, g6⟩ := h5
  simp [Cond.before, Cond.holds, Cond.value, h1, h2, h3, h4, g1, g2, g3, g4, g5, g6]
def isCode : Jvm.Cond → Bool
  | .code _ _ _ _ => true
  | _ => false
theorem all_split {L : List Jvm.Cond} {P : Jvm.Cond → Bool} (h1 : L.all (fun c => isCode c || P c) = true) (h2 : ∀ c ∈ L.filter isCode, P c = true) : L.all P = true := by
  refine List.all_eq_true.mpr fun c hc => ?_
  have h := List.all_eq_true.mp h1 c hc
  rcases Bool.eq_false_or_eq_true (isCode c) with hi | hi
  · exact h2 c (List.mem_filter.mpr ⟨hc, hi⟩)
  · simpa [hi] using h
set_option maxRecDepth 65536 in
theorem w_c0 : (Jvm.Cond.code x code maxLocals ret).before args0 about1 = true := code_word (m := ⟨1, 1⟩) (meth := k1m1) (c := k1c1) (by decide +kernel) rfl rfl rfl (by decide +kernel)
set_option maxRecDepth 65536 in
theorem w_c1 : (Jvm.Cond.code ({ cls := "java/util/ArrayList", name := "<init>", desc := "()V" } : Jvm.MethodName) jdk_38_method_2_code (1 : Nat) (Option.none : Option Jvm.ClassFile.FieldType)).before args0 about1 = true := code_word (m := ⟨11, 0⟩) (meth := k11m0) (c := k11c0) (by decide +kernel) rfl rfl rfl (by decide +kernel)
set_option maxRecDepth 65536 in
theorem w_c2 : (Jvm.Cond.code ({ cls := "java/util/AbstractList", name := "<init>", desc := "()V" } : Jvm.MethodName) jdk_39_method_1_code (1 : Nat) (Option.none : Option Jvm.ClassFile.FieldType)).before args0 about1 = true := code_word (m := ⟨7, 0⟩) (meth := k7m0) (c := k7c0) (by decide +kernel) rfl rfl rfl (by decide +kernel)
set_option maxRecDepth 65536 in
theorem w_c3 : (Jvm.Cond.code ({ cls := "java/util/AbstractCollection", name := "<init>", desc := "()V" } : Jvm.MethodName) jdk_22_method_1_code (1 : Nat) (Option.none : Option Jvm.ClassFile.FieldType)).before args0 about1 = true := code_word (m := ⟨4, 0⟩) (meth := k4m0) (c := k4c0) (by decide +kernel) rfl rfl rfl (by decide +kernel)
set_option maxRecDepth 65536 in
theorem w_c4 : (Jvm.Cond.code ({ cls := "java/lang/Object", name := "<init>", desc := "()V" } : Jvm.MethodName) object_method_1_code (1 : Nat) (Option.none : Option Jvm.ClassFile.FieldType)).before args0 about1 = true := code_word (m := ⟨0, 0⟩) (meth := k0m0) (c := k0c0) (by decide +kernel) rfl rfl rfl (by decide +kernel)
set_option maxRecDepth 65536 in
theorem w_c5 : (Jvm.Cond.code ({ cls := "java/lang/Long", name := "valueOf", desc := "(J)Ljava/lang/Long;" } : Jvm.MethodName) jdk_35_method_24_code (3 : Nat) (Option.some (Jvm.ClassFile.FieldType.object "java/lang/Long"))).before args0 about1 = true := code_word (m := ⟨16, 0⟩) (meth := k16m0) (c := k16c0) (by decide +kernel) rfl rfl rfl (by decide +kernel)
set_option maxRecDepth 65536 in
theorem w_c6 : (Jvm.Cond.code ({ cls := "java/util/ArrayList", name := "add", desc := "(Ljava/lang/Object;)Z" } : Jvm.MethodName) jdk_38_method_25_code (2 : Nat) (Option.some Jvm.ClassFile.FieldType.boolean)).before args0 about1 = true := code_word (m := ⟨11, 6⟩) (meth := k11m6) (c := k11c6) (by decide +kernel) rfl rfl rfl (by decide +kernel)
set_option maxRecDepth 65536 in
theorem w_c7 : (Jvm.Cond.code ({ cls := "java/util/ArrayList", name := "add", desc := "(Ljava/lang/Object;[Ljava/lang/Object;I)V" } : Jvm.MethodName) jdk_38_method_24_code (4 : Nat) (Option.none : Option Jvm.ClassFile.FieldType)).before args0 about1 = true := code_word (m := ⟨11, 5⟩) (meth := k11m5) (c := k11c5) (by decide +kernel) rfl rfl rfl (by decide +kernel)
set_option maxRecDepth 65536 in
theorem w_c8 : (Jvm.Cond.code ({ cls := "java/util/ArrayList", name := "grow", desc := "()[Ljava/lang/Object;" } : Jvm.MethodName) jdk_38_method_7_code (1 : Nat) (Option.some (Jvm.ClassFile.FieldType.array (Jvm.ClassFile.FieldType.object "java/lang/Object")))).before args0 about1 = true := code_word (m := ⟨11, 2⟩) (meth := k11m2) (c := k11c2) (by decide +kernel) rfl rfl rfl (by decide +kernel)
set_option maxRecDepth 65536 in
theorem w_c9 : (Jvm.Cond.code ({ cls := "java/util/ArrayList", name := "grow", desc := "(I)[Ljava/lang/Object;" } : Jvm.MethodName) jdk_38_method_6_code (4 : Nat) (Option.some (Jvm.ClassFile.FieldType.array (Jvm.ClassFile.FieldType.object "java/lang/Object")))).before args0 about1 = true := code_word (m := ⟨11, 1⟩) (meth := k11m1) (c := k11c1) (by decide +kernel) rfl rfl rfl (by decide +kernel)
set_option maxRecDepth 65536 in
theorem w_c10 : (Jvm.Cond.code ({ cls := "java/lang/Math", name := "max", desc := "(II)I" } : Jvm.MethodName) jdk_29_method_65_code (2 : Nat) (Option.some Jvm.ClassFile.FieldType.int)).before args0 about1 = true := code_word (m := ⟨18, 2⟩) (meth := k18m2) (c := k18c2) (by decide +kernel) rfl rfl rfl (by decide +kernel)
set_option maxRecDepth 65536 in
theorem w_c11 : (Jvm.Cond.code ({ cls := "java/lang/Long", name := "<init>", desc := "(J)V" } : Jvm.MethodName) jdk_35_method_26_code (3 : Nat) (Option.none : Option Jvm.ClassFile.FieldType)).before args0 about1 = true := code_word (m := ⟨16, 1⟩) (meth := k16m1) (c := k16c1) (by decide +kernel) rfl rfl rfl (by decide +kernel)
set_option maxRecDepth 65536 in
theorem w_c12 : (Jvm.Cond.code ({ cls := "java/lang/Number", name := "<init>", desc := "()V" } : Jvm.MethodName) jdk_18_method_1_code (1 : Nat) (Option.none : Option Jvm.ClassFile.FieldType)).before args0 about1 = true := code_word (m := ⟨12, 0⟩) (meth := k12m0) (c := k12c0) (by decide +kernel) rfl rfl rfl (by decide +kernel)
set_option maxRecDepth 65536 in
theorem w_c13 : (Jvm.Cond.code ({ cls := "com/example/keys_to_patterns/keystopatterns/limit/Decision", name := "fromReply", desc := "(Ljava/lang/Object;)Lcom/example/keys_to_patterns/keystopatterns/limit/Decision;" } : Jvm.MethodName) prog_2_method_2_code (2 : Nat) (Option.some (Jvm.ClassFile.FieldType.object "com/example/keys_to_patterns/keystopatterns/limit/Decision"))).before args0 about1 = true := code_word (m := ⟨20, 1⟩) (meth := k20m1) (c := k20c1) (by decide +kernel) rfl rfl rfl (by decide +kernel)
set_option maxRecDepth 65536 in
theorem w_c14 : (Jvm.Cond.code ({ cls := "java/util/ArrayList", name := "get", desc := "(I)Ljava/lang/Object;" } : Jvm.MethodName) jdk_38_method_20_code (2 : Nat) (Option.some (Jvm.ClassFile.FieldType.object "java/lang/Object"))).before args0 about1 = true := code_word (m := ⟨11, 4⟩) (meth := k11m4) (c := k11c4) (by decide +kernel) rfl rfl rfl (by decide +kernel)
set_option maxRecDepth 65536 in
theorem w_c15 : (Jvm.Cond.code ({ cls := "java/util/Objects", name := "checkIndex", desc := "(II)I" } : Jvm.MethodName) jdk_31_method_17_code (2 : Nat) (Option.some Jvm.ClassFile.FieldType.int)).before args0 about1 = true := code_word (m := ⟨21, 2⟩) (meth := k21m2) (c := k21c2) (by decide +kernel) rfl rfl rfl (by decide +kernel)
set_option maxRecDepth 65536 in
theorem w_c16 : (Jvm.Cond.code ({ cls := "jdk/internal/util/Preconditions", name := "checkIndex", desc := "(IILjava/util/function/BiFunction;)I" } : Jvm.MethodName) jdk_41_method_11_code (3 : Nat) (Option.some Jvm.ClassFile.FieldType.int)).before args0 about1 = true := code_word (m := ⟨22, 1⟩) (meth := k22m1) (c := k22c1) (by decide +kernel) rfl rfl rfl (by decide +kernel)
set_option maxRecDepth 65536 in
theorem w_c17 : (Jvm.Cond.code ({ cls := "java/util/ArrayList", name := "elementData", desc := "(I)Ljava/lang/Object;" } : Jvm.MethodName) jdk_38_method_18_code (2 : Nat) (Option.some (Jvm.ClassFile.FieldType.object "java/lang/Object"))).before args0 about1 = true := code_word (m := ⟨11, 3⟩) (meth := k11m3) (c := k11c3) (by decide +kernel) rfl rfl rfl (by decide +kernel)
set_option maxRecDepth 65536 in
theorem w_c18 : (Jvm.Cond.code ({ cls := "java/lang/Long", name := "equals", desc := "(Ljava/lang/Object;)Z" } : Jvm.MethodName) jdk_35_method_37_code (2 : Nat) (Option.some Jvm.ClassFile.FieldType.boolean)).before args0 about1 = true := code_word (m := ⟨16, 3⟩) (meth := k16m3) (c := k16c3) (by decide +kernel) rfl rfl rfl (by decide +kernel)
set_option maxRecDepth 65536 in
theorem w_c19 : (Jvm.Cond.code ({ cls := "java/lang/Long", name := "longValue", desc := "()J" } : Jvm.MethodName) jdk_35_method_31_code (1 : Nat) (Option.some Jvm.ClassFile.FieldType.long)).before args0 about1 = true := code_word (m := ⟨16, 2⟩) (meth := k16m2) (c := k16c2) (by decide +kernel) rfl rfl rfl (by decide +kernel)
set_option maxRecDepth 65536 in
theorem w_c20 : (Jvm.Cond.code ({ cls := "java/lang/Math", name := "toIntExact", desc := "(J)I" } : Jvm.MethodName) jdk_29_method_43_code (2 : Nat) (Option.some Jvm.ClassFile.FieldType.int)).before args0 about1 = true := code_word (m := ⟨18, 1⟩) (meth := k18m1) (c := k18c1) (by decide +kernel) rfl rfl rfl (by decide +kernel)
set_option maxRecDepth 65536 in
theorem w_c21 : (Jvm.Cond.code ({ cls := "java/time/Duration", name := "ofMillis", desc := "(J)Ljava/time/Duration;" } : Jvm.MethodName) jdk_2316_method_6_code (5 : Nat) (Option.some (Jvm.ClassFile.FieldType.object "java/time/Duration"))).before args0 about1 = true := code_word (m := ⟨24, 0⟩) (meth := k24m0) (c := k24c0) (by decide +kernel) rfl rfl rfl (by decide +kernel)
set_option maxRecDepth 65536 in
theorem w_c22 : (Jvm.Cond.code ({ cls := "java/time/Duration", name := "create", desc := "(JI)Ljava/time/Duration;" } : Jvm.MethodName) jdk_2316_method_16_code (3 : Nat) (Option.some (Jvm.ClassFile.FieldType.object "java/time/Duration"))).before args0 about1 = true := code_word (m := ⟨24, 1⟩) (meth := k24m1) (c := k24c1) (by decide +kernel) rfl rfl rfl (by decide +kernel)
set_option maxRecDepth 65536 in
theorem w_c23 : (Jvm.Cond.code ({ cls := "java/time/Duration", name := "<init>", desc := "(JI)V" } : Jvm.MethodName) jdk_2316_method_17_code (4 : Nat) (Option.none : Option Jvm.ClassFile.FieldType)).before args0 about1 = true := code_word (m := ⟨24, 2⟩) (meth := k24m2) (c := k24c2) (by decide +kernel) rfl rfl rfl (by decide +kernel)
set_option maxRecDepth 65536 in
theorem w_c24 : (Jvm.Cond.code ({ cls := "com/example/keys_to_patterns/keystopatterns/limit/Decision", name := "<init>", desc := "(ZILjava/time/Duration;)V" } : Jvm.MethodName) prog_2_method_1_code (4 : Nat) (Option.none : Option Jvm.ClassFile.FieldType)).before args0 about1 = true := code_word (m := ⟨20, 0⟩) (meth := k20m0) (c := k20c0) (by decide +kernel) rfl rfl rfl (by decide +kernel)
set_option maxRecDepth 65536 in
theorem w_c25 : (Jvm.Cond.code ({ cls := "java/lang/Record", name := "<init>", desc := "()V" } : Jvm.MethodName) jdk_30_method_1_code (1 : Nat) (Option.none : Option Jvm.ClassFile.FieldType)).before args0 about1 = true := code_word (m := ⟨19, 0⟩) (meth := k19m0) (c := k19c0) (by decide +kernel) rfl rfl rfl (by decide +kernel)
set_option maxRecDepth 65536 in
theorem w_c26 : (Jvm.Cond.code ({ cls := "java/util/Objects", name := "requireNonNull", desc := "(Ljava/lang/Object;Ljava/lang/String;)Ljava/lang/Object;" } : Jvm.MethodName) jdk_31_method_11_code (2 : Nat) (Option.some (Jvm.ClassFile.FieldType.object "java/lang/Object"))).before args0 about1 = true := code_word (m := ⟨21, 1⟩) (meth := k21m1) (c := k21c1) (by decide +kernel) rfl rfl rfl (by decide +kernel)
set_option maxRecDepth 65536 in
theorem w_c27 : (Jvm.Cond.code ({ cls := "java/time/Duration", name := "isNegative", desc := "()Z" } : Jvm.MethodName) jdk_2316_method_22_code (1 : Nat) (Option.some Jvm.ClassFile.FieldType.boolean)).before args0 about1 = true := code_word (m := ⟨24, 4⟩) (meth := k24m4) (c := k24c4) (by decide +kernel) rfl rfl rfl (by decide +kernel)
set_option maxRecDepth 65536 in
theorem w_c28 : (Jvm.Cond.code ({ cls := "com/example/keys_to_patterns/keystopatterns/limit/Decision", name := "allowed", desc := "()Z" } : Jvm.MethodName) prog_2_method_6_code (1 : Nat) (Option.some Jvm.ClassFile.FieldType.boolean)).before args0 about1 = true := code_word (m := ⟨20, 2⟩) (meth := k20m2) (c := k20c2) (by decide +kernel) rfl rfl rfl (by decide +kernel)
set_option maxRecDepth 65536 in
theorem w_c29 : (Jvm.Cond.code ({ cls := "com/example/keys_to_patterns/keystopatterns/limit/Decision", name := "remaining", desc := "()I" } : Jvm.MethodName) prog_2_method_7_code (1 : Nat) (Option.some Jvm.ClassFile.FieldType.int)).before args0 about1 = true := code_word (m := ⟨20, 3⟩) (meth := k20m3) (c := k20c3) (by decide +kernel) rfl rfl rfl (by decide +kernel)
set_option maxRecDepth 65536 in
theorem w_c30 : (Jvm.Cond.code ({ cls := "com/example/keys_to_patterns/keystopatterns/limit/Decision", name := "retryAfter", desc := "()Ljava/time/Duration;" } : Jvm.MethodName) prog_2_method_8_code (1 : Nat) (Option.some (Jvm.ClassFile.FieldType.object "java/time/Duration"))).before args0 about1 = true := code_word (m := ⟨20, 4⟩) (meth := k20m4) (c := k20c4) (by decide +kernel) rfl rfl rfl (by decide +kernel)
set_option maxRecDepth 65536 in
theorem w_c31 : (Jvm.Cond.code ({ cls := "java/time/Duration", name := "equals", desc := "(Ljava/lang/Object;)Z" } : Jvm.MethodName) jdk_2316_method_67_code (3 : Nat) (Option.some Jvm.ClassFile.FieldType.boolean)).before args0 about1 = true := code_word (m := ⟨24, 5⟩) (meth := k24m5) (c := k24c5) (by decide +kernel) rfl rfl rfl (by decide +kernel)
set_option maxRecDepth 65536 in
theorem w_c32 : (Jvm.Cond.code ({ cls := "java/time/Duration", name := "isZero", desc := "()Z" } : Jvm.MethodName) jdk_2316_method_21_code (1 : Nat) (Option.some Jvm.ClassFile.FieldType.boolean)).before args0 about1 = true := code_word (m := ⟨24, 3⟩) (meth := k24m3) (c := k24c3) (by decide +kernel) rfl rfl rfl (by decide +kernel)
def codes1 : List Jvm.Cond := [Jvm.Cond.code x code maxLocals ret, Jvm.Cond.code ({ cls := "java/util/ArrayList", name := "<init>", desc := "()V" } : Jvm.MethodName) jdk_38_method_2_code (1 : Nat) (Option.none : Option Jvm.ClassFile.FieldType), Jvm.Cond.code ({ cls := "java/util/AbstractList", name := "<init>", desc := "()V" } : Jvm.MethodName) jdk_39_method_1_code (1 : Nat) (Option.none : Option Jvm.ClassFile.FieldType), Jvm.Cond.code ({ cls := "java/util/AbstractCollection", name := "<init>", desc := "()V" } : Jvm.MethodName) jdk_22_method_1_code (1 : Nat) (Option.none : Option Jvm.ClassFile.FieldType), Jvm.Cond.code ({ cls := "java/lang/Object", name := "<init>", desc := "()V" } : Jvm.MethodName) object_method_1_code (1 : Nat) (Option.none : Option Jvm.ClassFile.FieldType), Jvm.Cond.code ({ cls := "java/lang/Long", name := "valueOf", desc := "(J)Ljava/lang/Long;" } : Jvm.MethodName) jdk_35_method_24_code (3 : Nat) (Option.some (Jvm.ClassFile.FieldType.object "java/lang/Long")), Jvm.Cond.code ({ cls := "java/util/ArrayList", name := "add", desc := "(Ljava/lang/Object;)Z" } : Jvm.MethodName) jdk_38_method_25_code (2 : Nat) (Option.some Jvm.ClassFile.FieldType.boolean), Jvm.Cond.code ({ cls := "java/util/ArrayList", name := "add", desc := "(Ljava/lang/Object;[Ljava/lang/Object;I)V" } : Jvm.MethodName) jdk_38_method_24_code (4 : Nat) (Option.none : Option Jvm.ClassFile.FieldType), Jvm.Cond.code ({ cls := "java/util/ArrayList", name := "grow", desc := "()[Ljava/lang/Object;" } : Jvm.MethodName) jdk_38_method_7_code (1 : Nat) (Option.some (Jvm.ClassFile.FieldType.array (Jvm.ClassFile.FieldType.object "java/lang/Object"))), Jvm.Cond.code ({ cls := "java/util/ArrayList", name := "grow", desc := "(I)[Ljava/lang/Object;" } : Jvm.MethodName) jdk_38_method_6_code (4 : Nat) (Option.some (Jvm.ClassFile.FieldType.array (Jvm.ClassFile.FieldType.object "java/lang/Object"))), Jvm.Cond.code ({ cls := "java/lang/Math", name := "max", desc := "(II)I" } : Jvm.MethodName) jdk_29_method_65_code (2 : Nat) (Option.some Jvm.ClassFile.FieldType.int), Jvm.Cond.code ({ cls := "java/lang/Long", name := "<init>", desc := "(J)V" } : Jvm.MethodName) jdk_35_method_26_code (3 : Nat) (Option.none : Option Jvm.ClassFile.FieldType), Jvm.Cond.code ({ cls := "java/lang/Number", name := "<init>", desc := "()V" } : Jvm.MethodName) jdk_18_method_1_code (1 : Nat) (Option.none : Option Jvm.ClassFile.FieldType), Jvm.Cond.code ({ cls := "com/example/keys_to_patterns/keystopatterns/limit/Decision", name := "fromReply", desc := "(Ljava/lang/Object;)Lcom/example/keys_to_patterns/keystopatterns/limit/Decision;" } : Jvm.MethodName) prog_2_method_2_code (2 : Nat) (Option.some (Jvm.ClassFile.FieldType.object "com/example/keys_to_patterns/keystopatterns/limit/Decision")), Jvm.Cond.code ({ cls := "java/util/ArrayList", name := "get", desc := "(I)Ljava/lang/Object;" } : Jvm.MethodName) jdk_38_method_20_code (2 : Nat) (Option.some (Jvm.ClassFile.FieldType.object "java/lang/Object")), Jvm.Cond.code ({ cls := "java/util/Objects", name := "checkIndex", desc := "(II)I" } : Jvm.MethodName) jdk_31_method_17_code (2 : Nat) (Option.some Jvm.ClassFile.FieldType.int), Jvm.Cond.code ({ cls := "jdk/internal/util/Preconditions", name := "checkIndex", desc := "(IILjava/util/function/BiFunction;)I" } : Jvm.MethodName) jdk_41_method_11_code (3 : Nat) (Option.some Jvm.ClassFile.FieldType.int), Jvm.Cond.code ({ cls := "java/util/ArrayList", name := "elementData", desc := "(I)Ljava/lang/Object;" } : Jvm.MethodName) jdk_38_method_18_code (2 : Nat) (Option.some (Jvm.ClassFile.FieldType.object "java/lang/Object")), Jvm.Cond.code ({ cls := "java/lang/Long", name := "equals", desc := "(Ljava/lang/Object;)Z" } : Jvm.MethodName) jdk_35_method_37_code (2 : Nat) (Option.some Jvm.ClassFile.FieldType.boolean), Jvm.Cond.code ({ cls := "java/lang/Long", name := "longValue", desc := "()J" } : Jvm.MethodName) jdk_35_method_31_code (1 : Nat) (Option.some Jvm.ClassFile.FieldType.long), Jvm.Cond.code ({ cls := "java/lang/Math", name := "toIntExact", desc := "(J)I" } : Jvm.MethodName) jdk_29_method_43_code (2 : Nat) (Option.some Jvm.ClassFile.FieldType.int), Jvm.Cond.code ({ cls := "java/time/Duration", name := "ofMillis", desc := "(J)Ljava/time/Duration;" } : Jvm.MethodName) jdk_2316_method_6_code (5 : Nat) (Option.some (Jvm.ClassFile.FieldType.object "java/time/Duration")), Jvm.Cond.code ({ cls := "java/time/Duration", name := "create", desc := "(JI)Ljava/time/Duration;" } : Jvm.MethodName) jdk_2316_method_16_code (3 : Nat) (Option.some (Jvm.ClassFile.FieldType.object "java/time/Duration")), Jvm.Cond.code ({ cls := "java/time/Duration", name := "<init>", desc := "(JI)V" } : Jvm.MethodName) jdk_2316_method_17_code (4 : Nat) (Option.none : Option Jvm.ClassFile.FieldType), Jvm.Cond.code ({ cls := "com/example/keys_to_patterns/keystopatterns/limit/Decision", name := "<init>", desc := "(ZILjava/time/Duration;)V" } : Jvm.MethodName) prog_2_method_1_code (4 : Nat) (Option.none : Option Jvm.ClassFile.FieldType), Jvm.Cond.code ({ cls := "java/lang/Record", name := "<init>", desc := "()V" } : Jvm.MethodName) jdk_30_method_1_code (1 : Nat) (Option.none : Option Jvm.ClassFile.FieldType), Jvm.Cond.code ({ cls := "java/util/Objects", name := "requireNonNull", desc := "(Ljava/lang/Object;Ljava/lang/String;)Ljava/lang/Object;" } : Jvm.MethodName) jdk_31_method_11_code (2 : Nat) (Option.some (Jvm.ClassFile.FieldType.object "java/lang/Object")), Jvm.Cond.code ({ cls := "java/time/Duration", name := "isNegative", desc := "()Z" } : Jvm.MethodName) jdk_2316_method_22_code (1 : Nat) (Option.some Jvm.ClassFile.FieldType.boolean), Jvm.Cond.code ({ cls := "com/example/keys_to_patterns/keystopatterns/limit/Decision", name := "allowed", desc := "()Z" } : Jvm.MethodName) prog_2_method_6_code (1 : Nat) (Option.some Jvm.ClassFile.FieldType.boolean), Jvm.Cond.code ({ cls := "com/example/keys_to_patterns/keystopatterns/limit/Decision", name := "remaining", desc := "()I" } : Jvm.MethodName) prog_2_method_7_code (1 : Nat) (Option.some Jvm.ClassFile.FieldType.int), Jvm.Cond.code ({ cls := "com/example/keys_to_patterns/keystopatterns/limit/Decision", name := "retryAfter", desc := "()Ljava/time/Duration;" } : Jvm.MethodName) prog_2_method_8_code (1 : Nat) (Option.some (Jvm.ClassFile.FieldType.object "java/time/Duration")), Jvm.Cond.code ({ cls := "java/time/Duration", name := "equals", desc := "(Ljava/lang/Object;)Z" } : Jvm.MethodName) jdk_2316_method_67_code (3 : Nat) (Option.some Jvm.ClassFile.FieldType.boolean), Jvm.Cond.code ({ cls := "java/time/Duration", name := "isZero", desc := "()Z" } : Jvm.MethodName) jdk_2316_method_21_code (1 : Nat) (Option.some Jvm.ClassFile.FieldType.boolean)]
set_option maxRecDepth 65536 in
theorem codes_eq : words1.filter isCode = codes1 := rfl
theorem w_codes : ∀ c ∈ words1.filter isCode, c.before args0 about1 = true := by
  rw [codes_eq]
  intro c hc
  simp only [codes1, List.mem_cons, List.not_mem_nil, or_false] at hc
  rcases hc with rfl | rfl | rfl | rfl | rfl | rfl | rfl | rfl | rfl | rfl | rfl | rfl | rfl | rfl | rfl | rfl | rfl | rfl | rfl | rfl | rfl | rfl | rfl | rfl | rfl | rfl | rfl | rfl | rfl | rfl | rfl | rfl | rfl
  · exact w_c0
  · exact w_c1
  · exact w_c2
  · exact w_c3
  · exact w_c4
  · exact w_c5
  · exact w_c6
  · exact w_c7
  · exact w_c8
  · exact w_c9
  · exact w_c10
  · exact w_c11
  · exact w_c12
  · exact w_c13
  · exact w_c14
  · exact w_c15
  · exact w_c16
  · exact w_c17
  · exact w_c18
  · exact w_c19
  · exact w_c20
  · exact w_c21
  · exact w_c22
  · exact w_c23
  · exact w_c24
  · exact w_c25
  · exact w_c26
  · exact w_c27
  · exact w_c28
  · exact w_c29
  · exact w_c30
  · exact w_c31
  · exact w_c32
set_option maxRecDepth 65536 in
theorem w_t1 : (words1.take 24).all (fun c => isCode c || c.before args0 about1) = true := by decide +kernel
set_option maxRecDepth 65536 in
theorem w_t2 : ((words1.drop 24).take 24).all (fun c => isCode c || c.before args0 about1) = true := by decide +kernel
set_option maxRecDepth 65536 in
theorem w_t3 : (((words1.drop 24).drop 24).take 24).all (fun c => isCode c || c.before args0 about1) = true := by decide +kernel
set_option maxRecDepth 65536 in
theorem w_t4 : ((((words1.drop 24).drop 24).drop 24).take 24).all (fun c => isCode c || c.before args0 about1) = true := by decide +kernel
set_option maxRecDepth 65536 in
theorem w_t5 : (((((words1.drop 24).drop 24).drop 24).drop 24).take 24).all (fun c => isCode c || c.before args0 about1) = true := by decide +kernel
set_option maxRecDepth 65536 in
theorem w_t6 : ((((((words1.drop 24).drop 24).drop 24).drop 24).drop 24).take 24).all (fun c => isCode c || c.before args0 about1) = true := by decide +kernel
set_option maxRecDepth 65536 in
theorem w_t7 : (((((((words1.drop 24).drop 24).drop 24).drop 24).drop 24).drop 24).take 24).all (fun c => isCode c || c.before args0 about1) = true := by decide +kernel
set_option maxRecDepth 65536 in
theorem w_t8 : ((((((((words1.drop 24).drop 24).drop 24).drop 24).drop 24).drop 24).drop 24).take 24).all (fun c => isCode c || c.before args0 about1) = true := by decide +kernel
set_option maxRecDepth 65536 in
theorem w_t9 : ((((((((words1.drop 24).drop 24).drop 24).drop 24).drop 24).drop 24).drop 24).drop 24).all (fun c => isCode c || c.before args0 about1) = true := by decide +kernel
theorem w_tables : (allAtoms (Jvm.Cond.code x code maxLocals ret :: tables_1)).before args0 about1 = true := by
  rw [allAtoms_all]
  show words1.all (fun c => c.before args0 about1) = true
  refine all_split ?_ w_codes
  rw [← List.take_append_drop 24 words1, List.all_append, w_t1, ← List.take_append_drop 24 (words1.drop 24), List.all_append, w_t2, ← List.take_append_drop 24 ((words1.drop 24).drop 24), List.all_append, w_t3, ← List.take_append_drop 24 (((words1.drop 24).drop 24).drop 24), List.all_append, w_t4, ← List.take_append_drop 24 ((((words1.drop 24).drop 24).drop 24).drop 24), List.all_append, w_t5, ← List.take_append_drop 24 (((((words1.drop 24).drop 24).drop 24).drop 24).drop 24), List.all_append, w_t6, ← List.take_append_drop 24 ((((((words1.drop 24).drop 24).drop 24).drop 24).drop 24).drop 24), List.all_append, w_t7, ← List.take_append_drop 24 (((((((words1.drop 24).drop 24).drop 24).drop 24).drop 24).drop 24).drop 24), List.all_append, w_t8, w_t9]
  rfl
set_option maxRecDepth 65536 in
theorem w_rest : rest_1_c.before args0 about1 = true := by decide +kernel
set_option maxRecDepth 65536 in
theorem w_case : (Jvm.Cond.and given_1 narrow_1).before args0 about1 = true := by decide +kernel
theorem w_applies : (headSpec (Jvm.Cond.code x code maxLocals ret :: tables_1) room_1).applies x e0.platform about1 = true :=
  (Spec.applies_iff w_frames).mpr ⟨w_running, w_runnable, w_alone, w_named, w_hears, w_ripe, w_room, w_tables⟩
theorem atStart : AtStart classFile x code maxLocals ret World_1 tables_1 room_1 Calls_1 rest_1 Pre_1 launch0 p0 e0 about1 theMethod args0 below0 :=
  ⟨lists_1, trivial, launch0.admits_env _ _ _, launch0.least_env, fairChoices_fair.cas, fairChoices_fair.clock, w_frames, w_args, w_heap, w_applies, trivial, w_rest, w_case⟩
end start1
theorem witness_1 : WitnessClaimed_1 := ⟨start1.p0, start1.e0, start1.about1, start1.theMethod, start1.args0, start1.below0, start1.atStart⟩
end Jvm.Pilot.@@N@@
