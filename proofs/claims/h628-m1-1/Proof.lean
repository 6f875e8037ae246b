import JvmDerived
import JvmDerived.Pilot.@@N@@Statement
import JvmDerived.Pilot.@@N@@Code
set_option linter.unusedVariables false
set_option linter.unusedSimpArgs false
namespace Jvm.Pilot.@@N@@
open Jvm Jvm.ClassFile Sem Op Lib Jvm.Free Jvm.Stand Jvm.LawKit Jvm.RoadKit Bundle Jvm.Pilot.@@N@@.Jvm.D
section OwnKit
variable {p : Program} {l : Launch} {e : Env} {R : Room} {s : State} {m : MethodId} {args : Array Value} {below : List Frame} {meth : Method} {c : Code} {T S S' : State} {locs : List Loc} {cells slots : Nat} {F : Outcome → State → Prop}
def Go (p : Program) (e : Env) (below : List Frame) (S : State) (F : Outcome → State → Prop) : Prop := ∃ (U : State) (o : Outcome), Steps p.tables e below S U ∧ U.status = .running ∧ Ended U below o ∧ F o U
theorem goIn {g g' : JFrame} (q : g = g') (k : Go p e below (T.setTop g') F) : ∃ (U : State) (o : Outcome), Steps p.tables e below (T.setTop g) U ∧ U.status = .running ∧ Ended U below o ∧ F o U := q ▸ k
theorem Go.by (st : ∀ t, Steps p.tables e below S' t → Steps p.tables e below S t) (k : Go p e below S' F) : Go p e below S F := by
  obtain ⟨U, o, h1, h2⟩ := k
  exact ⟨U, o, st _ h1, h2⟩
theorem Go.at (st : Steps p.tables e below S S') (k : Go p e below S' F) : Go p e below S F := by
  obtain ⟨U, o, h1, h2⟩ := k
  exact ⟨U, o, st.trans h1, h2⟩
theorem goRet {W : Option Value → Heap → List Loc → Prop} {C N : Nat} {v : Option Value} {g : JFrame} (X : Stand p l e R s m args below meth c T locs cells slots) (hv : meth.sig.returnType = none → v = none) (hlk : meth.locks = false)
    (hst : ∀ fs, (∀ (f : JFrame) (acts : List Action), f.method = m → f.locked = none → f.entered = [] → (doReturn e (T.setTop f) acts v).1 = T.setFrames fs) → Steps p.tables e below (T.setTop g) (T.setFrames fs))
    (hc : cells ≤ C) (hs : slots ≤ N) (hq : W v T.heap locs) : Go p e below (T.setTop g) (fun o U => ∃ v L, o = .returned v ∧ W v U.heap L ∧ FrameEnd s o U L C N) := by
  obtain ⟨fs, hr, hrun, hended, hW, hsame⟩ := X.leave (v := v) hv hlk
  exact ⟨_, _, hst fs hr, hrun, hended, _, _, rfl, hq, ⟨_, rfl⟩, hW, hsame.mono hc hs⟩
theorem goRetW {W : Option Value → Heap → List Loc → Prop} {C N n : Nat} {v : Option Value} {g : JFrame} {vm₁ : Vm} (X : Stand p l e R (s.setVm vm₁) m args below meth c T locs cells slots) (hS : s.Since vm₁ n) (hn : n ≤ T.heap.size) (hv : meth.sig.returnType = none → v = none) (hlk : meth.locks = false)
    (hst : ∀ fs, (∀ (f : JFrame) (acts : List Action), f.method = m → f.locked = none → f.entered = [] → (doReturn e (T.setTop f) acts v).1 = T.setFrames fs) → Steps p.tables e below (T.setTop g) (T.setFrames fs))
    (hc : cells ≤ C) (hs : slots ≤ N) (hq : W v T.heap locs) : Go p e below (T.setTop g) (fun o U => ∃ v L, o = .returned v ∧ W v U.heap L ∧ ReturnedEndW s o U L C N) := by
  obtain ⟨fs, hr, hrun, hended, h1, h2, h3, h4⟩ := X.leaveW hS hn (v := v) hv hlk
  exact ⟨_, _, hst fs hr, hrun, hended, _, _, rfl, hq, h1, h2, h3, h4.mono hc hs⟩
/-- it returns w; nothing old is written; the heap is h0 -/
def PureQ (w : Option Value) (h0 : Heap) (n0 : Nat) (v : Option Value) (h : Heap) (L : List Loc) : Prop := v = w ∧ Fr n0 L ∧ h = h0
end OwnKit
theorem pd_0 : parseMethodDescriptor "(IIJ)I" = some ⟨[.int, .int, .long], some .int⟩ := by decide +kernel
theorem pd_1 : parseMethodDescriptor "(II)I" = some ⟨[.int, .int], some .int⟩ := by decide +kernel
theorem pd_2 : parseMethodDescriptor "(I)I" = some ⟨[.int], some .int⟩ := by decide +kernel
theorem own_n1 : nar .boolean (1 : Int32) = 1 := by decide
theorem own_n0 : nar .boolean (0 : Int32) = 0 := by decide
def pB : BitVec 32 := 0x82F63B78#32
def oneB : BitVec 32 := 0x80000000#32
def sB (t : BitVec 32) : BitVec 32 := (t >>> 1) ^^^ (if t.getLsbD 0 then pB else 0#32)
theorem sB_xor (x y : BitVec 32) : sB (x ^^^ y) = sB x ^^^ sB y := by
  unfold sB
  rw [BitVec.getLsbD_xor]
  cases x.getLsbD 0 <;> cases y.getLsbD 0 <;> simp [BitVec.ushiftRight_xor_distrib]
  · rw [BitVec.xor_assoc]
  · rw [BitVec.xor_assoc, BitVec.xor_comm (y >>> 1) pB, ← BitVec.xor_assoc]
  · apply BitVec.eq_of_getLsbD_eq; intro i hi; simp only [BitVec.getLsbD_xor]; cases (x >>> 1).getLsbD i <;> cases (y >>> 1).getLsbD i <;> cases pB.getLsbD i <;> rfl
theorem sB_zero : sB 0#32 = 0#32 := by decide
def mulB : Nat → BitVec 32 → BitVec 32 → BitVec 32 → BitVec 32
  | 0, _, r, _ => r
  | i + 1, a, r, t => mulB i a (if a.getLsbD i then r ^^^ t else r) (sB t)
theorem mulB_s : ∀ (i : Nat) (a r t : BitVec 32), mulB i a (sB r) (sB t) = sB (mulB i a r t)
  | 0, _, _, _ => rfl
  | i + 1, a, r, t => by
    have e : (if a.getLsbD i then sB r ^^^ sB t else sB r) = sB (if a.getLsbD i then r ^^^ t else r) := by
      cases a.getLsbD i <;> simp [sB_xor]
    simp only [mulB]
    rw [e]
    exact mulB_s i a _ _
theorem sB_two : ∀ i, i < 31 → sB (BitVec.twoPow 32 (i + 1)) = BitVec.twoPow 32 i := by decide
theorem mulB_one (a : BitVec 32) : ∀ (i : Nat) (r t : BitVec 32), i ≤ 32 → (∀ j, i = j + 1 → t = BitVec.twoPow 32 j) → ∀ k, k < 32 → (mulB i a r t).getLsbD k = (r.getLsbD k ^^ (decide (k < i) && a.getLsbD k))
  | 0, r, t, _, _ => fun k hk => by simp [mulB]
  | i + 1, r, t, hi, ht => fun k hk => by
    have et : t = BitVec.twoPow 32 i := ht i rfl
    simp only [mulB]
    rw [mulB_one a i _ _ (by omega) (fun j hj => by subst hj; rw [et]; exact sB_two j (by omega)) k hk]
    subst et
    cases h : a.getLsbD i
    · by_cases q : k = i
      · subst q; simp [h]
      · have : decide (k < i) = decide (k < i + 1) := by simp; omega
        simp [this]
    · simp only [if_true, BitVec.getLsbD_xor, BitVec.getLsbD_twoPow]
      by_cases q : k = i
      · subst q; rw [h]; simp [hk]
      · have h1 : decide (k < i) = decide (k < i + 1) := by simp; omega
        have h2 : decide (i = k) = false := by simp; omega
        simp [h1, h2]
theorem mulB_id (a : BitVec 32) : mulB 32 a 0#32 oneB = a := by
  apply BitVec.eq_of_getLsbD_eq
  intro k hk
  rw [mulB_one a 32 0#32 oneB (by omega) (fun j hj => by obtain rfl : j = 31 := by omega
                                                         decide) k hk]
  simp [hk]
def itB : Nat → BitVec 32 → BitVec 32
  | 0, t => t
  | n + 1, t => itB n (sB t)
theorem itB_add (m n : Nat) (t : BitVec 32) : itB (m + n) t = itB n (itB m t) := by
  induction m generalizing t with
  | zero => simp [itB]
  | succ m ih => rw [Nat.succ_add]; simp only [itB]; exact ih _
theorem itB_s (n : Nat) (t : BitVec 32) : itB n (sB t) = sB (itB n t) := by
  induction n generalizing t with
  | zero => rfl
  | succ n ih => simp only [itB]; exact ih _
theorem itB_xor (n : Nat) (x y : BitVec 32) : itB n (x ^^^ y) = itB n x ^^^ itB n y := by
  induction n generalizing x y with
  | zero => rfl
  | succ n ih => simp only [itB, sB_xor]; exact ih _ _
theorem mulB_it (a : BitVec 32) (n : Nat) (t : BitVec 32) : mulB 32 a 0#32 (itB n t) = itB n (mulB 32 a 0#32 t) := by
  induction n generalizing t with
  | zero => rfl
  | succ n ih =>
    simp only [itB]
    rw [ih]
    congr 1
    have := mulB_s 32 a 0#32 t
    rw [sB_zero] at this
    exact this
theorem mulB_itone (a : BitVec 32) (n : Nat) : mulB 32 a 0#32 (itB n oneB) = itB n a := by rw [mulB_it, mulB_id]
def powL : List Int := [8388608, 32768, -2097792136, 1856165212, 414771736, 1359660442, -1205081771, -1191333401, -1998229646, 1958961316, -468243690, 224753194, 903297634, 675681636, -1085975959, -487968036, -25739034, -112828149, 1008750479, 1401259747, 1500670229, 1934447369, -1139095709, 2097619660, -762721602, -380851780, 95899455, -1524752574, 1073741824, 536870912, 134217728, 8388608, 32768, -2097792136, 1856165212, 414771736, 1359660442, -1205081771, -1191333401, -1998229646, 1958961316, -468243690, 224753194, 903297634, 675681636, -1085975959, -487968036, -25739034, -112828149, 1008750479, 1401259747, 1500670229, 1934447369, -1139095709, 2097619660, -762721602, -380851780, 95899455, -1524752574, 1073741824, 536870912, 134217728, 8388608]
def powB (i : Nat) : BitVec 32 := BitVec.ofInt 32 (powL.getD i 0)
theorem powB_zero : powB 0 = itB 8 oneB := by decide +kernel
theorem powB_sq : ∀ i, i < 62 → mulB 32 (powB i) 0#32 (powB i) = powB (i + 1) := by decide +kernel
theorem powB_it : ∀ i, i ≤ 62 → powB i = itB (8 * 2 ^ i) oneB
  | 0, _ => powB_zero
  | i + 1, h => by
    have ih := powB_it i (by omega)
    rw [← powB_sq i (by omega)]
    conv => lhs; arg 4; rw [ih]
    rw [mulB_itone, ih, ← itB_add]
    congr 1
    rw [Nat.pow_succ]; omega
theorem mulB_pow (v : BitVec 32) (i : Nat) (h : i ≤ 62) : mulB 32 v 0#32 (powB i) = itB (8 * 2 ^ i) v := by rw [powB_it i h, mulB_itone]

/-! to Int32 -/
def sI (t : Int32) : Int32 := Int32.ofBitVec (sB t.toBitVec)
def mulI (k : Nat) (a r t : Int32) : Int32 := Int32.ofBitVec (mulB k a.toBitVec r.toBitVec t.toBitVec)
def itI (n : Nat) (t : Int32) : Int32 := Int32.ofBitVec (itB n t.toBitVec)
theorem i32_ext {x y : Int32} (h : x.toBitVec = y.toBitVec) : x = y := Int32.toBitVec_inj.mp h
theorem ushr_bv (x : Int32) (k : Nat) (hk : k < 32) (y : Int32) (hy : y.toBitVec = BitVec.ofNat 32 k) : (XT.ushr x y).toBitVec = x.toBitVec >>> k := by
  have e : (y &&& 31).toBitVec = BitVec.ofNat 32 k := by
    rw [Int32.toBitVec_and, hy]
    apply BitVec.eq_of_toNat_eq
    rw [BitVec.toNat_and, show ((31 : Int32).toBitVec).toNat = 2 ^ 5 - 1 from by decide, Nat.and_two_pow_sub_one_eq_mod]
    simp only [BitVec.toNat_ofNat]
    omega
  unfold XT.ushr
  have e2 : (y &&& 31).toUInt32 = UInt32.ofNat k := by
    apply UInt32.toBitVec_inj.mp
    show (y &&& 31).toBitVec = _
    rw [e]; rfl
  rw [e2]
  show (x.toUInt32 >>> UInt32.ofNat k).toBitVec = _
  rw [UInt32.toBitVec_shiftRight]
  show x.toBitVec >>> ((UInt32.ofNat k).toBitVec % 32) = _
  have e3 : ((UInt32.ofNat k).toBitVec % 32) = BitVec.ofNat 32 k := by
    apply BitVec.eq_of_toNat_eq
    rw [BitVec.toNat_umod]
    show (BitVec.ofNat 32 k).toNat % 32 = _
    simp only [BitVec.toNat_ofNat]
    omega
  rw [e3]
  show x.toBitVec >>> (BitVec.ofNat 32 k).toNat = _
  congr 1
  simp only [BitVec.toNat_ofNat]; omega
theorem and1_bv (x : Int32) : x &&& 1 = 0 ↔ x.toBitVec.getLsbD 0 = false := by
  rw [← Int32.toBitVec_inj, Int32.toBitVec_and]
  show x.toBitVec &&& 1#32 = 0#32 ↔ _
  rw [BitVec.and_one_eq_setWidth_ofBool_getLsbD]
  cases x.toBitVec.getLsbD 0 <;> decide
theorem step_even {t : Int32} (h : t &&& 1 = 0) : XT.ushr t 1 = sI t := by
  apply i32_ext
  rw [ushr_bv t 1 (by decide) 1 (by decide)]
  show _ = sB t.toBitVec
  unfold sB
  rw [(and1_bv t).mp h]; simp
theorem step_odd {t : Int32} (h : ¬ t &&& 1 = 0) : XT.ushr t 1 ^^^ (-2097792136) = sI t := by
  apply i32_ext
  rw [Int32.toBitVec_xor, ushr_bv t 1 (by decide) 1 (by decide)]
  show _ = sB t.toBitVec
  unfold sB
  have : t.toBitVec.getLsbD 0 = true := by
    rw [and1_bv] at h; simpa using h
  rw [this]; rfl
def iv (k : Nat) : Int32 := Int32.ofInt ((k : Int) - 1)
theorem ofNat32 (k : Nat) : Int32.ofNat k = Int32.ofInt (k : Int) := i32_ext (BitVec.ofInt_natCast 32 k).symm
theorem ofNat64 (k : Nat) : Int64.ofNat k = Int64.ofInt (k : Int) := Int64.toBitVec_inj.mp (BitVec.ofInt_natCast 64 k).symm
theorem iv_toInt {k : Nat} (h : k ≤ 32) : (iv k).toInt = (k : Int) - 1 := by
  unfold iv; rw [Int32.toInt_ofInt]; show ((k : Int) - 1).bmod 4294967296 = _; apply Int.bmod_eq_of_le <;> omega
theorem iv_neg {k : Nat} (h : k ≤ 32) : iv k < 0 ↔ k = 0 := by
  rw [Int32.lt_iff_toInt_lt, iv_toInt h]; show (k : Int) - 1 < 0 ↔ _; omega
theorem iv_dec {k : Nat} (h : k + 1 ≤ 32) : iv (k + 1) + (-1) = iv k := by
  apply Int32.toInt_inj.mp
  rw [Int32.toInt_add, iv_toInt h, iv_toInt (by omega)]
  show (((k + 1 : Nat) : Int) - 1 + -1).bmod _ = _
  rw [Int.bmod_eq_of_le] <;> omega
theorem iv_bv {k : Nat} (h : k + 1 ≤ 32) : (iv (k + 1)).toBitVec = BitVec.ofNat 32 k := by
  have : iv (k + 1) = Int32.ofNat k := by unfold iv; rw [ofNat32]; congr 1; omega
  rw [this]; rfl
theorem iv_start : iv 32 = 31 := by decide
theorem bit_of (a : Int32) {k : Nat} (h : k + 1 ≤ 32) : (XT.ushr a (iv (k + 1)) &&& 1 = 0) ↔ a.toBitVec.getLsbD k = false := by
  rw [and1_bv, ushr_bv a k (by omega) _ (iv_bv h)]; simp
theorem mulI_zero (a r t : Int32) : mulI 0 a r t = r := rfl
theorem mulI_skip {a r t : Int32} {k : Nat} (h : k + 1 ≤ 32) (q : XT.ushr a (iv (k + 1)) &&& 1 = 0) : mulI (k + 1) a r t = mulI k a r (sI t) := by
  rw [bit_of a h] at q
  unfold mulI; simp only [mulB]; rw [q]; rfl
theorem mulI_add {a r t : Int32} {k : Nat} (h : k + 1 ≤ 32) (q : ¬ XT.ushr a (iv (k + 1)) &&& 1 = 0) : mulI (k + 1) a r t = mulI k a (r ^^^ t) (sI t) := by
  have q' : a.toBitVec.getLsbD k = true := by rw [bit_of a h] at q; simpa using q
  unfold mulI; simp only [mulB]; rw [q']; rfl
/-! the powers -/
def powI (i : Nat) : Int32 := Int32.ofInt (powL.getD i 0)
theorem mulI_pow (v : Int32) {i : Nat} (h : i ≤ 62) : mulI 32 v 0 (powI i) = itI (8 * 2 ^ i) v := by
  unfold mulI itI
  rw [← mulB_pow v.toBitVec i h]; rfl
theorem itI_add (m n : Nat) (t : Int32) : itI (m + n) t = itI n (itI m t) := by
  unfold itI; rw [itB_add]; rfl
theorem itI_xor (n : Nat) (x y : Int32) : itI n (x ^^^ y) = itI n x ^^^ itI n y := by
  apply i32_ext; rw [Int32.toBitVec_xor]; show itB n (x ^^^ y).toBitVec = itB n x.toBitVec ^^^ itB n y.toBitVec; rw [Int32.toBitVec_xor, itB_xor]
theorem itI_zero (t : Int32) : itI 0 t = t := rfl
theorem itI_eight (t : Int32) : itI 8 t = sI (sI (sI (sI (sI (sI (sI (sI t))))))) := rfl
/-! the length's bits -/
theorem ushrL_bv (x : Int64) (k : Nat) (hk : k < 64) (y : Int32) (hy : y.toInt = (k : Int)) : (XT.ushrL x y).toBitVec = x.toBitVec >>> k := by
  unfold XT.ushrL
  have e1 : y.toInt64.toBitVec = BitVec.ofNat 64 k := by
    have : y.toInt64 = Int64.ofNat k := by
      apply Int64.toInt_inj.mp
      rw [Int32.toInt_toInt64, hy, ofNat64, Int64.toInt_ofInt]
      show _ = (k : Int).bmod 18446744073709551616
      rw [Int.bmod_eq_of_le] <;> omega
    rw [this]; rfl
  show (x.toUInt64 >>> (y.toInt64.toUInt64 &&& Int64.toUInt64 63)).toBitVec = _
  rw [UInt64.toBitVec_shiftRight]
  show x.toBitVec >>> ((y.toInt64.toUInt64 &&& Int64.toUInt64 63).toBitVec % 64) = _
  have e3 : ((y.toInt64.toUInt64 &&& Int64.toUInt64 63).toBitVec % 64) = BitVec.ofNat 64 k := by
    rw [UInt64.toBitVec_and]
    show (y.toInt64.toBitVec &&& 63#64) % 64 = _
    rw [e1]
    apply BitVec.eq_of_toNat_eq
    rw [BitVec.toNat_umod, BitVec.toNat_and, show (63#64).toNat = 2 ^ 6 - 1 from by decide, Nat.and_two_pow_sub_one_eq_mod]
    simp only [BitVec.toNat_ofNat]
    show (k % 2 ^ 64 % 2 ^ 6) % 64 = _
    omega
  rw [e3]
  show x.toBitVec >>> (BitVec.ofNat 64 k).toNat = _
  congr 1
  simp only [BitVec.toNat_ofNat]; omega
def nat64 (x : Int64) : Nat := x.toBitVec.toNat
theorem bitI (b : Nat) (h : b ≤ 64) : (Int32.ofNat b).toInt = (b : Int) := by
  rw [ofNat32, Int32.toInt_ofInt]
  show (b : Int).bmod 4294967296 = _
  rw [Int.bmod_eq_of_le] <;> omega
theorem shr_zero (x : Int64) {b : Nat} (h : b < 64) : XT.ushrL x (Int32.ofNat b) = 0 ↔ nat64 x / 2 ^ b = 0 := by
  rw [← Int64.toBitVec_inj, ushrL_bv x b h _ (bitI b (by omega))]
  constructor
  · intro q
    have := congrArg BitVec.toNat q
    rw [BitVec.toNat_ushiftRight, Nat.shiftRight_eq_div_pow] at this
    exact this
  · intro q
    apply BitVec.eq_of_toNat_eq
    rw [BitVec.toNat_ushiftRight, Nat.shiftRight_eq_div_pow]
    exact q
theorem shr_odd (x : Int64) {b : Nat} (h : b < 64) : XT.ushrL x (Int32.ofNat b) &&& 1 = 0 ↔ nat64 x / 2 ^ b % 2 = 0 := by
  rw [← Int64.toBitVec_inj, Int64.toBitVec_and, ushrL_bv x b h _ (bitI b (by omega))]
  have e : (x.toBitVec >>> b &&& (1 : Int64).toBitVec).toNat = nat64 x / 2 ^ b % 2 := by
    rw [BitVec.toNat_and, show ((1 : Int64).toBitVec).toNat = 2 ^ 1 - 1 from by decide, Nat.and_two_pow_sub_one_eq_mod, BitVec.toNat_ushiftRight, Nat.shiftRight_eq_div_pow]; rfl
  constructor
  · intro q
    rw [← e, q]; rfl
  · intro q
    apply BitVec.eq_of_toNat_eq
    rw [e, q]; rfl
/-- from the bit b on: c by what is left of N -/
def combI (N b : Nat) (c : Int32) : Int32 := itI (8 * (2 ^ b * (N / 2 ^ b))) c
theorem combI_end {N b : Nat} (c : Int32) (h : N / 2 ^ b = 0) : combI N b c = c := by unfold combI; rw [h]; rfl
theorem combI_even {N b : Nat} (c : Int32) (h : N / 2 ^ b % 2 = 0) : combI N b c = combI N (b + 1) c := by
  unfold combI
  congr 2
  rw [Nat.pow_succ, ← Nat.div_div_eq_div_mul, Nat.mul_assoc]
  congr 1
  omega
theorem combI_odd {N b : Nat} (c : Int32) (hb : b ≤ 62) (h : ¬ N / 2 ^ b % 2 = 0) : combI N b c = combI N (b + 1) (mulI 32 c 0 (powI b)) := by
  rw [mulI_pow c hb]
  unfold combI
  rw [← itI_add]
  congr 1
  rw [← Nat.mul_add]
  congr 1
  rw [Nat.pow_succ, ← Nat.div_div_eq_div_mul, Nat.mul_assoc]
  have : 2 * (N / 2 ^ b / 2) + 1 = N / 2 ^ b := by omega
  conv => lhs; rw [← this]
  rw [Nat.mul_add]; omega
theorem combI_start (N : Nat) (c : Int32) : combI N 0 c = itI (8 * N) c := by unfold combI; simp
theorem lt_of_div {N b : Nat} (h : ¬ N / 2 ^ b = 0) (hN : N < 2 ^ 63) : b ≤ 62 := by
  refine Nat.le_of_not_lt fun q => h (Nat.div_eq_of_lt (Nat.lt_of_lt_of_le hN (Nat.pow_le_pow_right (by decide) q)))
theorem mask62 (p : Int64) : nat64 (p &&& 4611686018427387903) < 2 ^ 62 := by
  unfold nat64
  rw [Int64.toBitVec_and, BitVec.toNat_and, show ((4611686018427387903 : Int64).toBitVec).toNat = 2 ^ 62 - 1 from by decide, Nat.and_two_pow_sub_one_eq_mod]
  exact Nat.mod_lt _ (by decide)
theorem nat_add {x y : Int64} (hx : nat64 x < 2 ^ 62) (hy : nat64 y < 2 ^ 62) : nat64 (x + y) = nat64 x + nat64 y := by
  unfold nat64 at *
  rw [Int64.toBitVec_add, BitVec.toNat_add]
  exact Nat.mod_eq_of_lt (by omega)

theorem ef_rm4 (m : MethodId) (x0 : Int32) : entryFrame m #[(.int x0)] 1 = mkF m 0 #[.val (.int x0)] [] := by first | (simp [entryFrame, mkF, argsToLocals, Value.category]; done) | rfl
theorem pn_rm4 : plainName "drainline/Crc32cCombineCombinePinLaw" = true := by first | (simp [plainName, overriddenIn]; done) | decide +kernel
theorem d4_0 : decode method_2_code 0 = .ok (.iload_n 0, 1) := by decide +kernel
theorem d4_1 : decode method_2_code 1 = .ok (.iconst 1, 1) := by decide +kernel
theorem d4_2 : decode method_2_code 2 = .ok (.iand, 1) := by decide +kernel
theorem d4_3 : decode method_2_code 3 = .ok (.ifCond .eq 12, 3) := by decide +kernel
theorem d4_6 : decode method_2_code 6 = .ok (.iload_n 0, 1) := by decide +kernel
theorem d4_7 : decode method_2_code 7 = .ok (.iconst 1, 1) := by decide +kernel
theorem d4_8 : decode method_2_code 8 = .ok (.iushr, 1) := by decide +kernel
theorem d4_9 : decode method_2_code 9 = .ok (.ldc 7, 2) := by decide +kernel
theorem d4_11 : decode method_2_code 11 = .ok (.ixor, 1) := by decide +kernel
theorem d4_12 : decode method_2_code 12 = .ok (.goto 6, 3) := by decide +kernel
theorem d4_15 : decode method_2_code 15 = .ok (.iload_n 0, 1) := by decide +kernel
theorem d4_16 : decode method_2_code 16 = .ok (.iconst 1, 1) := by decide +kernel
theorem d4_17 : decode method_2_code 17 = .ok (.iushr, 1) := by decide +kernel
theorem d4_18 : decode method_2_code 18 = .ok (.ireturn, 1) := by decide +kernel
set_option maxRecDepth 65536 in
set_option maxHeartbeats 40000000 in
theorem rm4 (l : Launch) (Z : State) (a0 : Array Value) (hw : ∀ d ∈ tables_1, d.before a0 Z = true) (ws : List Jvm.Cond) (t : Int32)  (h0 : Heap) (n0 : Nat) :
    MetFree l (⟨"drainline/Crc32cCombineCombinePinLaw", "step", "(I)I"⟩ : MethodName) (head1 (Jvm.Cond.code (⟨"drainline/Crc32cCombineCombinePinLaw", "step", "(I)I"⟩ : MethodName) method_2_code 1 (some .int) :: ws) ({ frames := 0, cells := 0, slots := 0, locals := 0 } : Room)) (fun aa U => aa = #[(.int t)] ∧ Z.Warmed39 U.vm ∧ U.heap = h0) (fun _ _ _ _ _ => True) (fun _ U o U' => ∃ v L, o = .returned v ∧ PureQ (some (.int (sI t))) h0 n0 v U'.heap L ∧ FrameEnd U o U' L ({ frames := 0, cells := 0, slots := 0, locals := 0 } : Room).cells ({ frames := 0, cells := 0, slots := 0, locals := 0 } : Room).slots) := by
  refine MetFree.of_bodySF (plainFor_of_name pn_rm4) hisR ?_
  intro p e s m args below meth c s₁ Bd hml0 hP hK
  obtain ⟨rfl, hZ, hh⟩ := hP
  have hx := Bd.exec
  have hby := Bd.bytes
  have hml : c.maxLocals = 1 := hml0
  have hown : s.vm.findClass "drainline/Crc32cCombineCombinePinLaw" = some m.cls := findClass_of_methodNamed Bd.named
  have hnm := (name_of_methodNamed Bd.named Bd.method).1
  have X0 : Stand p l e ({ frames := 0, cells := 0, slots := 0, locals := 0 } : Room) s m #[(.int t)] below meth c s₁ [] 0 0 := Stand.of_body Bd
  have e0 : s₁.heap = h0 := by rw [← hh, Bd.state]; rfl
  have N0 := Fr.nil n0
  refine goIn (ef_rm4 m t) ?_
  refine Go.by (S' := s₁.setTop (mkF m 1 #[.val (.int t)] [(.int t)])) (fun _ kt => XS.iloadN X0.here hx rfl (hb hby d4_0) rfl  kt) ?_
  refine Go.by (S' := s₁.setTop (mkF m 2 #[.val (.int t)] [(.int (1 : Int32)), (.int t)])) (fun _ kt => XT.iconstV X0.here hx rfl (1 : Int32) (hb hby d4_1) (by decide)  kt) ?_
  refine Go.by (S' := s₁.setTop (mkF m 3 #[.val (.int t)] [(.int (t &&& (1 : Int32)))])) (fun _ kt => XS.iand X0.here hx rfl (hb hby d4_2) rfl  kt) ?_
  by_cases hc3_1 : (t &&& (1 : Int32)) = (0 : Int32)
  · refine Go.by (S' := s₁.setTop (mkF m 15 #[.val (.int t)] [])) (fun _ kt => XS.ifYes X0.here hx rfl (pc0 := 3) (pc' := 15) rfl (hb hby d4_3) rfl (XT.i0_eq_t hc3_1) (by decide) (by decide)  kt) ?_
    refine Go.by (S' := s₁.setTop (mkF m 16 #[.val (.int t)] [(.int t)])) (fun _ kt => XS.iloadN X0.here hx rfl (hb hby d4_15) rfl  kt) ?_
    refine Go.by (S' := s₁.setTop (mkF m 17 #[.val (.int t)] [(.int (1 : Int32)), (.int t)])) (fun _ kt => XT.iconstV X0.here hx rfl (1 : Int32) (hb hby d4_16) (by decide)  kt) ?_
    refine Go.by (S' := s₁.setTop (mkF m 18 #[.val (.int t)] [(.int (XT.ushr t (1 : Int32)))])) (fun _ kt => XT.iushr X0.here hx rfl (hb hby d4_17) rfl  kt) ?_
    refine goRet X0 (v := some (.int (XT.ushr t (1 : Int32)))) (fun h => by rw [Bd.returns] at h; cases h) Bd.notSynchronized (fun fs hr => retOut X0 hx Bd.returns rfl (Or.inl ⟨rfl, Or.inl rfl, _, rfl⟩) (hb hby d4_18) hr) (by decide) (by decide) ?_
    exact ⟨by rw [step_even hc3_1], N0, e0⟩
  · refine Go.by (S' := s₁.setTop (mkF m 6 #[.val (.int t)] [])) (fun _ kt => XS.ifNo X0.here hx rfl (hb hby d4_3) rfl (XT.i0_eq_f hc3_1)  kt) ?_
    refine Go.by (S' := s₁.setTop (mkF m 7 #[.val (.int t)] [(.int t)])) (fun _ kt => XS.iloadN X0.here hx rfl (hb hby d4_6) rfl  kt) ?_
    refine Go.by (S' := s₁.setTop (mkF m 8 #[.val (.int t)] [(.int (1 : Int32)), (.int t)])) (fun _ kt => XT.iconstV X0.here hx rfl (1 : Int32) (hb hby d4_7) (by decide)  kt) ?_
    refine Go.by (S' := s₁.setTop (mkF m 9 #[.val (.int t)] [(.int (XT.ushr t (1 : Int32)))])) (fun _ kt => XT.iushr X0.here hx rfl (hb hby d4_8) rfl  kt) ?_
    refine Go.by (S' := s₁.setTop (mkF m 11 #[.val (.int t)] [(.int (-2097792136 : Int32)), (.int (XT.ushr t (1 : Int32)))])) (X0.ldcInt hx hown (mvT hZ (hw _ (List.mem_of_getElem? (i := 19) rfl))) (g := (mkF m 9 #[.val (.int t)] [(.int (XT.ushr t (1 : Int32)))])) rfl (hb hby d4_9)) ?_
    refine Go.by (S' := s₁.setTop (mkF m 12 #[.val (.int t)] [(.int ((XT.ushr t (1 : Int32)) ^^^ (-2097792136 : Int32)))])) (fun _ kt => XS.ixor X0.here hx rfl (hb hby d4_11) rfl  kt) ?_
    refine Go.by (S' := s₁.setTop (mkF m 18 #[.val (.int t)] [(.int ((XT.ushr t (1 : Int32)) ^^^ (-2097792136 : Int32)))])) (fun _ kt => XS.goto X0.here hx rfl (pc0 := 12) (pc' := 18) rfl (hb hby d4_12) (by decide) (by decide)  kt) ?_
    refine goRet X0 (v := some (.int ((XT.ushr t (1 : Int32)) ^^^ (-2097792136 : Int32)))) (fun h => by rw [Bd.returns] at h; cases h) Bd.notSynchronized (fun fs hr => retOut X0 hx Bd.returns rfl (Or.inl ⟨rfl, Or.inl rfl, _, rfl⟩) (hb hby d4_18) hr) (by decide) (by decide) ?_
    exact ⟨by rw [step_odd hc3_1], N0, e0⟩
theorem ef_rm3 (m : MethodId) (x0 : Int32) : entryFrame m #[(.int x0)] 2 = mkF m 0 #[.val (.int x0), .unset] [] := by first | (simp [entryFrame, mkF, argsToLocals, Value.category]; done) | rfl
theorem pn_rm3 : plainName "drainline/Crc32cCombineCombinePinLaw" = true := by first | (simp [plainName, overriddenIn]; done) | decide +kernel
theorem d3_0 : decode method_3_code 0 = .ok (.iload_n 0, 1) := by decide +kernel
theorem d3_1 : decode method_3_code 1 = .ok (.invokestatic 8, 3) := by decide +kernel
theorem d3_4 : decode method_3_code 4 = .ok (.istore_n 1, 1) := by decide +kernel
theorem d3_5 : decode method_3_code 5 = .ok (.iload_n 1, 1) := by decide +kernel
theorem d3_6 : decode method_3_code 6 = .ok (.invokestatic 8, 3) := by decide +kernel
theorem d3_9 : decode method_3_code 9 = .ok (.istore_n 1, 1) := by decide +kernel
theorem d3_10 : decode method_3_code 10 = .ok (.iload_n 1, 1) := by decide +kernel
theorem d3_11 : decode method_3_code 11 = .ok (.invokestatic 8, 3) := by decide +kernel
theorem d3_14 : decode method_3_code 14 = .ok (.istore_n 1, 1) := by decide +kernel
theorem d3_15 : decode method_3_code 15 = .ok (.iload_n 1, 1) := by decide +kernel
theorem d3_16 : decode method_3_code 16 = .ok (.invokestatic 8, 3) := by decide +kernel
theorem d3_19 : decode method_3_code 19 = .ok (.istore_n 1, 1) := by decide +kernel
theorem d3_20 : decode method_3_code 20 = .ok (.iload_n 1, 1) := by decide +kernel
theorem d3_21 : decode method_3_code 21 = .ok (.invokestatic 8, 3) := by decide +kernel
theorem d3_24 : decode method_3_code 24 = .ok (.istore_n 1, 1) := by decide +kernel
theorem d3_25 : decode method_3_code 25 = .ok (.iload_n 1, 1) := by decide +kernel
theorem d3_26 : decode method_3_code 26 = .ok (.invokestatic 8, 3) := by decide +kernel
theorem d3_29 : decode method_3_code 29 = .ok (.istore_n 1, 1) := by decide +kernel
theorem d3_30 : decode method_3_code 30 = .ok (.iload_n 1, 1) := by decide +kernel
theorem d3_31 : decode method_3_code 31 = .ok (.invokestatic 8, 3) := by decide +kernel
theorem d3_34 : decode method_3_code 34 = .ok (.istore_n 1, 1) := by decide +kernel
theorem d3_35 : decode method_3_code 35 = .ok (.iload_n 1, 1) := by decide +kernel
theorem d3_36 : decode method_3_code 36 = .ok (.invokestatic 8, 3) := by decide +kernel
theorem d3_39 : decode method_3_code 39 = .ok (.istore_n 1, 1) := by decide +kernel
theorem d3_40 : decode method_3_code 40 = .ok (.iload_n 1, 1) := by decide +kernel
theorem d3_41 : decode method_3_code 41 = .ok (.ireturn, 1) := by decide +kernel
set_option maxRecDepth 65536 in
set_option maxHeartbeats 40000000 in
theorem rm3 (l : Launch) (Z : State) (a0 : Array Value) (hw : ∀ d ∈ tables_1, d.before a0 Z = true) (ws : List Jvm.Cond) (t : Int32)  (h0 : Heap) (n0 : Nat) :
    MetFree l (⟨"drainline/Crc32cCombineCombinePinLaw", "timesX8", "(I)I"⟩ : MethodName) (head1 (Jvm.Cond.code (⟨"drainline/Crc32cCombineCombinePinLaw", "timesX8", "(I)I"⟩ : MethodName) method_3_code 2 (some .int) :: ws) ({ frames := 1, cells := 0, slots := 0, locals := 12 } : Room)) (fun aa U => aa = #[(.int t)] ∧ Z.Warmed39 U.vm ∧ U.heap = h0) (fun _ _ _ _ _ => True) (fun _ U o U' => ∃ v L, o = .returned v ∧ PureQ (some (.int (itI 8 t))) h0 n0 v U'.heap L ∧ FrameEnd U o U' L ({ frames := 1, cells := 0, slots := 0, locals := 12 } : Room).cells ({ frames := 1, cells := 0, slots := 0, locals := 12 } : Room).slots) := by
  refine MetFree.of_bodySF (plainFor_of_name pn_rm3) hisR ?_
  intro p e s m args below meth c s₁ Bd hml0 hP hK
  obtain ⟨rfl, hZ, hh⟩ := hP
  have hx := Bd.exec
  have hby := Bd.bytes
  have hml : c.maxLocals = 2 := hml0
  have hown : s.vm.findClass "drainline/Crc32cCombineCombinePinLaw" = some m.cls := findClass_of_methodNamed Bd.named
  have hnm := (name_of_methodNamed Bd.named Bd.method).1
  have X0 : Stand p l e ({ frames := 1, cells := 0, slots := 0, locals := 12 } : Room) s m #[(.int t)] below meth c s₁ [] 0 0 := Stand.of_body Bd
  have e0 : s₁.heap = h0 := by rw [← hh, Bd.state]; rfl
  have N0 := Fr.nil n0
  refine goIn (ef_rm3 m t) ?_
  refine Go.by (S' := s₁.setTop (mkF m 1 #[.val (.int t), .unset] [(.int t)])) (fun _ kt => XS.iloadN X0.here hx rfl (hb hby d3_0) rfl  kt) ?_
  obtain ⟨_, _, ⟨T1, L1, k1, n1⟩, -, X1, ⟨Lc1, hQ1, l1, y1, z1⟩, st1⟩ := Jvm.LawKit.callS X0 hx (y := (⟨"drainline/Crc32cCombineCombinePinLaw", "step", "(I)I"⟩ : MethodName)) hown (mvT hZ (hw _ (List.mem_of_getElem? (i := 15) rfl))) (mvT hZ (hw _ (List.mem_of_getElem? (i := 16) rfl))) (mvT hZ (hw _ (List.mem_of_getElem? (i := 13) rfl))) (mvT hZ (hw _ (List.mem_of_getElem? (i := 17) rfl))) (by decide) (backOf (W := 0) (rm4 l Z a0 hw [] t h0 n0) hZ (hw _ (List.mem_of_getElem? (i := 17) rfl)) (hw _ (List.mem_of_getElem? (i := 13) rfl)) (by decide) (by decide)) (g := (mkF m 1 #[.val (.int t), .unset] [(.int t)])) rfl (by rw [hml]; rfl) (argsL := [(.int t)]) (rest := []) (lenOf pd_2 rfl) rfl (by show 2 * 0 + _ ≤ _; exact Nat.le_of_eq rfl) (hb hby d3_1) (fun _ _ => ⟨rfl, e0, (by decide : 0 + 0 ≤ _), (by decide : 0 + 0 ≤ _)⟩)
  dsimp only [Pt.U, Pt.locs, Pt.cells, Pt.slots] at X1 l1 y1 z1 st1 hQ1
  subst l1 y1 z1
  obtain ⟨rfl, N1q, e1⟩ := hQ1
  have N1 := Fr.app N0 N1q
  refine Go.by (S' := T1.setTop (mkF m 4 #[.val (.int t), .unset] [(.int (sI t))])) st1 ?_
  refine Go.by (S' := T1.setTop (mkF m 5 #[.val (.int t), .val (.int (sI t))] [])) (fun _ kt => XS.istoreN X1.here hx rfl (hb hby d3_4) rfl (l' := #[.val (.int t), .val (.int (sI t))]) rfl  kt) ?_
  refine Go.by (S' := T1.setTop (mkF m 6 #[.val (.int t), .val (.int (sI t))] [(.int (sI t))])) (fun _ kt => XS.iloadN X1.here hx rfl (hb hby d3_5) rfl  kt) ?_
  obtain ⟨_, _, ⟨T2, L2, k2, n2⟩, -, X2, ⟨Lc2, hQ2, l2, y2, z2⟩, st2⟩ := Jvm.LawKit.callS X1 hx (y := (⟨"drainline/Crc32cCombineCombinePinLaw", "step", "(I)I"⟩ : MethodName)) hown (mvT hZ (hw _ (List.mem_of_getElem? (i := 15) rfl))) (mvT hZ (hw _ (List.mem_of_getElem? (i := 16) rfl))) (mvT hZ (hw _ (List.mem_of_getElem? (i := 13) rfl))) (mvT hZ (hw _ (List.mem_of_getElem? (i := 17) rfl))) (by decide) (backOf (W := 0) (rm4 l Z a0 hw [] (sI t) h0 n0) hZ (hw _ (List.mem_of_getElem? (i := 17) rfl)) (hw _ (List.mem_of_getElem? (i := 13) rfl)) (by decide) (by decide)) (g := (mkF m 6 #[.val (.int t), .val (.int (sI t))] [(.int (sI t))])) rfl (by rw [hml]; rfl) (argsL := [(.int (sI t))]) (rest := []) (lenOf pd_2 rfl) rfl (by show 2 * 0 + _ ≤ _; exact Nat.le_of_eq rfl) (hb hby d3_6) (fun _ _ => ⟨rfl, e1, (by decide : 0 + 0 ≤ _), (by decide : 0 + 0 ≤ _)⟩)
  dsimp only [Pt.U, Pt.locs, Pt.cells, Pt.slots] at X2 l2 y2 z2 st2 hQ2
  subst l2 y2 z2
  obtain ⟨rfl, N2q, e2⟩ := hQ2
  have N2 := Fr.app N1 N2q
  refine Go.by (S' := T2.setTop (mkF m 9 #[.val (.int t), .val (.int (sI t))] [(.int (sI (sI t)))])) st2 ?_
  refine Go.by (S' := T2.setTop (mkF m 10 #[.val (.int t), .val (.int (sI (sI t)))] [])) (fun _ kt => XS.istoreN X2.here hx rfl (hb hby d3_9) rfl (l' := #[.val (.int t), .val (.int (sI (sI t)))]) rfl  kt) ?_
  refine Go.by (S' := T2.setTop (mkF m 11 #[.val (.int t), .val (.int (sI (sI t)))] [(.int (sI (sI t)))])) (fun _ kt => XS.iloadN X2.here hx rfl (hb hby d3_10) rfl  kt) ?_
  obtain ⟨_, _, ⟨T3, L3, k3, n3⟩, -, X3, ⟨Lc3, hQ3, l3, y3, z3⟩, st3⟩ := Jvm.LawKit.callS X2 hx (y := (⟨"drainline/Crc32cCombineCombinePinLaw", "step", "(I)I"⟩ : MethodName)) hown (mvT hZ (hw _ (List.mem_of_getElem? (i := 15) rfl))) (mvT hZ (hw _ (List.mem_of_getElem? (i := 16) rfl))) (mvT hZ (hw _ (List.mem_of_getElem? (i := 13) rfl))) (mvT hZ (hw _ (List.mem_of_getElem? (i := 17) rfl))) (by decide) (backOf (W := 0) (rm4 l Z a0 hw [] (sI (sI t)) h0 n0) hZ (hw _ (List.mem_of_getElem? (i := 17) rfl)) (hw _ (List.mem_of_getElem? (i := 13) rfl)) (by decide) (by decide)) (g := (mkF m 11 #[.val (.int t), .val (.int (sI (sI t)))] [(.int (sI (sI t)))])) rfl (by rw [hml]; rfl) (argsL := [(.int (sI (sI t)))]) (rest := []) (lenOf pd_2 rfl) rfl (by show 2 * 0 + _ ≤ _; exact Nat.le_of_eq rfl) (hb hby d3_11) (fun _ _ => ⟨rfl, e2, (by decide : 0 + 0 ≤ _), (by decide : 0 + 0 ≤ _)⟩)
  dsimp only [Pt.U, Pt.locs, Pt.cells, Pt.slots] at X3 l3 y3 z3 st3 hQ3
  subst l3 y3 z3
  obtain ⟨rfl, N3q, e3⟩ := hQ3
  have N3 := Fr.app N2 N3q
  refine Go.by (S' := T3.setTop (mkF m 14 #[.val (.int t), .val (.int (sI (sI t)))] [(.int (sI (sI (sI t))))])) st3 ?_
  refine Go.by (S' := T3.setTop (mkF m 15 #[.val (.int t), .val (.int (sI (sI (sI t))))] [])) (fun _ kt => XS.istoreN X3.here hx rfl (hb hby d3_14) rfl (l' := #[.val (.int t), .val (.int (sI (sI (sI t))))]) rfl  kt) ?_
  refine Go.by (S' := T3.setTop (mkF m 16 #[.val (.int t), .val (.int (sI (sI (sI t))))] [(.int (sI (sI (sI t))))])) (fun _ kt => XS.iloadN X3.here hx rfl (hb hby d3_15) rfl  kt) ?_
  obtain ⟨_, _, ⟨T4, L4, k4, n4⟩, -, X4, ⟨Lc4, hQ4, l4, y4, z4⟩, st4⟩ := Jvm.LawKit.callS X3 hx (y := (⟨"drainline/Crc32cCombineCombinePinLaw", "step", "(I)I"⟩ : MethodName)) hown (mvT hZ (hw _ (List.mem_of_getElem? (i := 15) rfl))) (mvT hZ (hw _ (List.mem_of_getElem? (i := 16) rfl))) (mvT hZ (hw _ (List.mem_of_getElem? (i := 13) rfl))) (mvT hZ (hw _ (List.mem_of_getElem? (i := 17) rfl))) (by decide) (backOf (W := 0) (rm4 l Z a0 hw [] (sI (sI (sI t))) h0 n0) hZ (hw _ (List.mem_of_getElem? (i := 17) rfl)) (hw _ (List.mem_of_getElem? (i := 13) rfl)) (by decide) (by decide)) (g := (mkF m 16 #[.val (.int t), .val (.int (sI (sI (sI t))))] [(.int (sI (sI (sI t))))])) rfl (by rw [hml]; rfl) (argsL := [(.int (sI (sI (sI t))))]) (rest := []) (lenOf pd_2 rfl) rfl (by show 2 * 0 + _ ≤ _; exact Nat.le_of_eq rfl) (hb hby d3_16) (fun _ _ => ⟨rfl, e3, (by decide : 0 + 0 ≤ _), (by decide : 0 + 0 ≤ _)⟩)
  dsimp only [Pt.U, Pt.locs, Pt.cells, Pt.slots] at X4 l4 y4 z4 st4 hQ4
  subst l4 y4 z4
  obtain ⟨rfl, N4q, e4⟩ := hQ4
  have N4 := Fr.app N3 N4q
  refine Go.by (S' := T4.setTop (mkF m 19 #[.val (.int t), .val (.int (sI (sI (sI t))))] [(.int (sI (sI (sI (sI t)))))])) st4 ?_
  refine Go.by (S' := T4.setTop (mkF m 20 #[.val (.int t), .val (.int (sI (sI (sI (sI t)))))] [])) (fun _ kt => XS.istoreN X4.here hx rfl (hb hby d3_19) rfl (l' := #[.val (.int t), .val (.int (sI (sI (sI (sI t)))))]) rfl  kt) ?_
  refine Go.by (S' := T4.setTop (mkF m 21 #[.val (.int t), .val (.int (sI (sI (sI (sI t)))))] [(.int (sI (sI (sI (sI t)))))])) (fun _ kt => XS.iloadN X4.here hx rfl (hb hby d3_20) rfl  kt) ?_
  obtain ⟨_, _, ⟨T5, L5, k5, n5⟩, -, X5, ⟨Lc5, hQ5, l5, y5, z5⟩, st5⟩ := Jvm.LawKit.callS X4 hx (y := (⟨"drainline/Crc32cCombineCombinePinLaw", "step", "(I)I"⟩ : MethodName)) hown (mvT hZ (hw _ (List.mem_of_getElem? (i := 15) rfl))) (mvT hZ (hw _ (List.mem_of_getElem? (i := 16) rfl))) (mvT hZ (hw _ (List.mem_of_getElem? (i := 13) rfl))) (mvT hZ (hw _ (List.mem_of_getElem? (i := 17) rfl))) (by decide) (backOf (W := 0) (rm4 l Z a0 hw [] (sI (sI (sI (sI t)))) h0 n0) hZ (hw _ (List.mem_of_getElem? (i := 17) rfl)) (hw _ (List.mem_of_getElem? (i := 13) rfl)) (by decide) (by decide)) (g := (mkF m 21 #[.val (.int t), .val (.int (sI (sI (sI (sI t)))))] [(.int (sI (sI (sI (sI t)))))])) rfl (by rw [hml]; rfl) (argsL := [(.int (sI (sI (sI (sI t)))))]) (rest := []) (lenOf pd_2 rfl) rfl (by show 2 * 0 + _ ≤ _; exact Nat.le_of_eq rfl) (hb hby d3_21) (fun _ _ => ⟨rfl, e4, (by decide : 0 + 0 ≤ _), (by decide : 0 + 0 ≤ _)⟩)
  dsimp only [Pt.U, Pt.locs, Pt.cells, Pt.slots] at X5 l5 y5 z5 st5 hQ5
  subst l5 y5 z5
  obtain ⟨rfl, N5q, e5⟩ := hQ5
  have N5 := Fr.app N4 N5q
  refine Go.by (S' := T5.setTop (mkF m 24 #[.val (.int t), .val (.int (sI (sI (sI (sI t)))))] [(.int (sI (sI (sI (sI (sI t))))))])) st5 ?_
  refine Go.by (S' := T5.setTop (mkF m 25 #[.val (.int t), .val (.int (sI (sI (sI (sI (sI t))))))] [])) (fun _ kt => XS.istoreN X5.here hx rfl (hb hby d3_24) rfl (l' := #[.val (.int t), .val (.int (sI (sI (sI (sI (sI t))))))]) rfl  kt) ?_
  refine Go.by (S' := T5.setTop (mkF m 26 #[.val (.int t), .val (.int (sI (sI (sI (sI (sI t))))))] [(.int (sI (sI (sI (sI (sI t))))))])) (fun _ kt => XS.iloadN X5.here hx rfl (hb hby d3_25) rfl  kt) ?_
  obtain ⟨_, _, ⟨T6, L6, k6, n6⟩, -, X6, ⟨Lc6, hQ6, l6, y6, z6⟩, st6⟩ := Jvm.LawKit.callS X5 hx (y := (⟨"drainline/Crc32cCombineCombinePinLaw", "step", "(I)I"⟩ : MethodName)) hown (mvT hZ (hw _ (List.mem_of_getElem? (i := 15) rfl))) (mvT hZ (hw _ (List.mem_of_getElem? (i := 16) rfl))) (mvT hZ (hw _ (List.mem_of_getElem? (i := 13) rfl))) (mvT hZ (hw _ (List.mem_of_getElem? (i := 17) rfl))) (by decide) (backOf (W := 0) (rm4 l Z a0 hw [] (sI (sI (sI (sI (sI t))))) h0 n0) hZ (hw _ (List.mem_of_getElem? (i := 17) rfl)) (hw _ (List.mem_of_getElem? (i := 13) rfl)) (by decide) (by decide)) (g := (mkF m 26 #[.val (.int t), .val (.int (sI (sI (sI (sI (sI t))))))] [(.int (sI (sI (sI (sI (sI t))))))])) rfl (by rw [hml]; rfl) (argsL := [(.int (sI (sI (sI (sI (sI t))))))]) (rest := []) (lenOf pd_2 rfl) rfl (by show 2 * 0 + _ ≤ _; exact Nat.le_of_eq rfl) (hb hby d3_26) (fun _ _ => ⟨rfl, e5, (by decide : 0 + 0 ≤ _), (by decide : 0 + 0 ≤ _)⟩)
  dsimp only [Pt.U, Pt.locs, Pt.cells, Pt.slots] at X6 l6 y6 z6 st6 hQ6
  subst l6 y6 z6
  obtain ⟨rfl, N6q, e6⟩ := hQ6
  have N6 := Fr.app N5 N6q
  refine Go.by (S' := T6.setTop (mkF m 29 #[.val (.int t), .val (.int (sI (sI (sI (sI (sI t))))))] [(.int (sI (sI (sI (sI (sI (sI t)))))))])) st6 ?_
  refine Go.by (S' := T6.setTop (mkF m 30 #[.val (.int t), .val (.int (sI (sI (sI (sI (sI (sI t)))))))] [])) (fun _ kt => XS.istoreN X6.here hx rfl (hb hby d3_29) rfl (l' := #[.val (.int t), .val (.int (sI (sI (sI (sI (sI (sI t)))))))]) rfl  kt) ?_
  refine Go.by (S' := T6.setTop (mkF m 31 #[.val (.int t), .val (.int (sI (sI (sI (sI (sI (sI t)))))))] [(.int (sI (sI (sI (sI (sI (sI t)))))))])) (fun _ kt => XS.iloadN X6.here hx rfl (hb hby d3_30) rfl  kt) ?_
  obtain ⟨_, _, ⟨T7, L7, k7, n7⟩, -, X7, ⟨Lc7, hQ7, l7, y7, z7⟩, st7⟩ := Jvm.LawKit.callS X6 hx (y := (⟨"drainline/Crc32cCombineCombinePinLaw", "step", "(I)I"⟩ : MethodName)) hown (mvT hZ (hw _ (List.mem_of_getElem? (i := 15) rfl))) (mvT hZ (hw _ (List.mem_of_getElem? (i := 16) rfl))) (mvT hZ (hw _ (List.mem_of_getElem? (i := 13) rfl))) (mvT hZ (hw _ (List.mem_of_getElem? (i := 17) rfl))) (by decide) (backOf (W := 0) (rm4 l Z a0 hw [] (sI (sI (sI (sI (sI (sI t)))))) h0 n0) hZ (hw _ (List.mem_of_getElem? (i := 17) rfl)) (hw _ (List.mem_of_getElem? (i := 13) rfl)) (by decide) (by decide)) (g := (mkF m 31 #[.val (.int t), .val (.int (sI (sI (sI (sI (sI (sI t)))))))] [(.int (sI (sI (sI (sI (sI (sI t)))))))])) rfl (by rw [hml]; rfl) (argsL := [(.int (sI (sI (sI (sI (sI (sI t)))))))]) (rest := []) (lenOf pd_2 rfl) rfl (by show 2 * 0 + _ ≤ _; exact Nat.le_of_eq rfl) (hb hby d3_31) (fun _ _ => ⟨rfl, e6, (by decide : 0 + 0 ≤ _), (by decide : 0 + 0 ≤ _)⟩)
  dsimp only [Pt.U, Pt.locs, Pt.cells, Pt.slots] at X7 l7 y7 z7 st7 hQ7
  subst l7 y7 z7
  obtain ⟨rfl, N7q, e7⟩ := hQ7
  have N7 := Fr.app N6 N7q
  refine Go.by (S' := T7.setTop (mkF m 34 #[.val (.int t), .val (.int (sI (sI (sI (sI (sI (sI t)))))))] [(.int (sI (sI (sI (sI (sI (sI (sI t))))))))])) st7 ?_
  refine Go.by (S' := T7.setTop (mkF m 35 #[.val (.int t), .val (.int (sI (sI (sI (sI (sI (sI (sI t))))))))] [])) (fun _ kt => XS.istoreN X7.here hx rfl (hb hby d3_34) rfl (l' := #[.val (.int t), .val (.int (sI (sI (sI (sI (sI (sI (sI t))))))))]) rfl  kt) ?_
  refine Go.by (S' := T7.setTop (mkF m 36 #[.val (.int t), .val (.int (sI (sI (sI (sI (sI (sI (sI t))))))))] [(.int (sI (sI (sI (sI (sI (sI (sI t))))))))])) (fun _ kt => XS.iloadN X7.here hx rfl (hb hby d3_35) rfl  kt) ?_
  obtain ⟨_, _, ⟨T8, L8, k8, n8⟩, -, X8, ⟨Lc8, hQ8, l8, y8, z8⟩, st8⟩ := Jvm.LawKit.callS X7 hx (y := (⟨"drainline/Crc32cCombineCombinePinLaw", "step", "(I)I"⟩ : MethodName)) hown (mvT hZ (hw _ (List.mem_of_getElem? (i := 15) rfl))) (mvT hZ (hw _ (List.mem_of_getElem? (i := 16) rfl))) (mvT hZ (hw _ (List.mem_of_getElem? (i := 13) rfl))) (mvT hZ (hw _ (List.mem_of_getElem? (i := 17) rfl))) (by decide) (backOf (W := 0) (rm4 l Z a0 hw [] (sI (sI (sI (sI (sI (sI (sI t))))))) h0 n0) hZ (hw _ (List.mem_of_getElem? (i := 17) rfl)) (hw _ (List.mem_of_getElem? (i := 13) rfl)) (by decide) (by decide)) (g := (mkF m 36 #[.val (.int t), .val (.int (sI (sI (sI (sI (sI (sI (sI t))))))))] [(.int (sI (sI (sI (sI (sI (sI (sI t))))))))])) rfl (by rw [hml]; rfl) (argsL := [(.int (sI (sI (sI (sI (sI (sI (sI t))))))))]) (rest := []) (lenOf pd_2 rfl) rfl (by show 2 * 0 + _ ≤ _; exact Nat.le_of_eq rfl) (hb hby d3_36) (fun _ _ => ⟨rfl, e7, (by decide : 0 + 0 ≤ _), (by decide : 0 + 0 ≤ _)⟩)
  dsimp only [Pt.U, Pt.locs, Pt.cells, Pt.slots] at X8 l8 y8 z8 st8 hQ8
  subst l8 y8 z8
  obtain ⟨rfl, N8q, e8⟩ := hQ8
  have N8 := Fr.app N7 N8q
  refine Go.by (S' := T8.setTop (mkF m 39 #[.val (.int t), .val (.int (sI (sI (sI (sI (sI (sI (sI t))))))))] [(.int (sI (sI (sI (sI (sI (sI (sI (sI t)))))))))])) st8 ?_
  refine Go.by (S' := T8.setTop (mkF m 40 #[.val (.int t), .val (.int (sI (sI (sI (sI (sI (sI (sI (sI t)))))))))] [])) (fun _ kt => XS.istoreN X8.here hx rfl (hb hby d3_39) rfl (l' := #[.val (.int t), .val (.int (sI (sI (sI (sI (sI (sI (sI (sI t)))))))))]) rfl  kt) ?_
  refine Go.by (S' := T8.setTop (mkF m 41 #[.val (.int t), .val (.int (sI (sI (sI (sI (sI (sI (sI (sI t)))))))))] [(.int (sI (sI (sI (sI (sI (sI (sI (sI t)))))))))])) (fun _ kt => XS.iloadN X8.here hx rfl (hb hby d3_40) rfl  kt) ?_
  refine goRet X8 (v := some (.int (sI (sI (sI (sI (sI (sI (sI (sI t)))))))))) (fun h => by rw [Bd.returns] at h; cases h) Bd.notSynchronized (fun fs hr => retOut X8 hx Bd.returns rfl (Or.inl ⟨rfl, Or.inl rfl, _, rfl⟩) (hb hby d3_41) hr) (by decide) (by decide) ?_
  exact ⟨rfl, N8, e8⟩
theorem ef_rm2 (m : MethodId) (x0 : Int32) (x1 : Int32) : entryFrame m #[(.int x0), (.int x1)] 5 = mkF m 0 #[.val (.int x0), .val (.int x1), .unset, .unset, .unset] [] := by first | (simp [entryFrame, mkF, argsToLocals, Value.category]; done) | rfl
theorem pn_rm2 : plainName "drainline/Crc32cCombine" = true := by first | (simp [plainName, overriddenIn]; done) | decide +kernel
theorem d2_0 : decode prog_4_method_3_code 0 = .ok (.iconst 0, 1) := by decide +kernel
theorem d2_1 : decode prog_4_method_3_code 1 = .ok (.istore_n 2, 1) := by decide +kernel
theorem d2_2 : decode prog_4_method_3_code 2 = .ok (.iload_n 1, 1) := by decide +kernel
theorem d2_3 : decode prog_4_method_3_code 3 = .ok (.istore_n 3, 1) := by decide +kernel
theorem d2_4 : decode prog_4_method_3_code 4 = .ok (.bipush 31, 2) := by decide +kernel
theorem d2_6 : decode prog_4_method_3_code 6 = .ok (.istore 4, 2) := by decide +kernel
theorem d2_8 : decode prog_4_method_3_code 8 = .ok (.iload 4, 2) := by decide +kernel
theorem d2_10 : decode prog_4_method_3_code 10 = .ok (.ifCond .lt 41, 3) := by decide +kernel
theorem d2_13 : decode prog_4_method_3_code 13 = .ok (.iload_n 0, 1) := by decide +kernel
theorem d2_14 : decode prog_4_method_3_code 14 = .ok (.iload 4, 2) := by decide +kernel
theorem d2_16 : decode prog_4_method_3_code 16 = .ok (.iushr, 1) := by decide +kernel
theorem d2_17 : decode prog_4_method_3_code 17 = .ok (.iconst 1, 1) := by decide +kernel
theorem d2_18 : decode prog_4_method_3_code 18 = .ok (.iand, 1) := by decide +kernel
theorem d2_19 : decode prog_4_method_3_code 19 = .ok (.ifCond .eq 7, 3) := by decide +kernel
theorem d2_22 : decode prog_4_method_3_code 22 = .ok (.iload_n 2, 1) := by decide +kernel
theorem d2_23 : decode prog_4_method_3_code 23 = .ok (.iload_n 3, 1) := by decide +kernel
theorem d2_24 : decode prog_4_method_3_code 24 = .ok (.ixor, 1) := by decide +kernel
theorem d2_25 : decode prog_4_method_3_code 25 = .ok (.istore_n 2, 1) := by decide +kernel
theorem d2_26 : decode prog_4_method_3_code 26 = .ok (.iload_n 3, 1) := by decide +kernel
theorem d2_27 : decode prog_4_method_3_code 27 = .ok (.iconst 1, 1) := by decide +kernel
theorem d2_28 : decode prog_4_method_3_code 28 = .ok (.iand, 1) := by decide +kernel
theorem d2_29 : decode prog_4_method_3_code 29 = .ok (.ifCond .eq 12, 3) := by decide +kernel
theorem d2_32 : decode prog_4_method_3_code 32 = .ok (.iload_n 3, 1) := by decide +kernel
theorem d2_33 : decode prog_4_method_3_code 33 = .ok (.iconst 1, 1) := by decide +kernel
theorem d2_34 : decode prog_4_method_3_code 34 = .ok (.iushr, 1) := by decide +kernel
theorem d2_35 : decode prog_4_method_3_code 35 = .ok (.ldc 17, 2) := by decide +kernel
theorem d2_37 : decode prog_4_method_3_code 37 = .ok (.ixor, 1) := by decide +kernel
theorem d2_38 : decode prog_4_method_3_code 38 = .ok (.goto 6, 3) := by decide +kernel
theorem d2_41 : decode prog_4_method_3_code 41 = .ok (.iload_n 3, 1) := by decide +kernel
theorem d2_42 : decode prog_4_method_3_code 42 = .ok (.iconst 1, 1) := by decide +kernel
theorem d2_43 : decode prog_4_method_3_code 43 = .ok (.iushr, 1) := by decide +kernel
theorem d2_44 : decode prog_4_method_3_code 44 = .ok (.istore_n 3, 1) := by decide +kernel
theorem d2_45 : decode prog_4_method_3_code 45 = .ok (.iinc 4 (-1), 3) := by decide +kernel
theorem d2_48 : decode prog_4_method_3_code 48 = .ok (.goto (-40), 3) := by decide +kernel
theorem d2_51 : decode prog_4_method_3_code 51 = .ok (.iload_n 2, 1) := by decide +kernel
theorem d2_52 : decode prog_4_method_3_code 52 = .ok (.ireturn, 1) := by decide +kernel
set_option maxRecDepth 65536 in
set_option maxHeartbeats 40000000 in
theorem rm2 (l : Launch) (Z : State) (a0 : Array Value) (hw : ∀ d ∈ tables_1, d.before a0 Z = true) (ws : List Jvm.Cond) (a : Int32) (b : Int32)  (h0 : Heap) (n0 : Nat) :
    MetFree l (⟨"drainline/Crc32cCombine", "multiply", "(II)I"⟩ : MethodName) (head1 (Jvm.Cond.code (⟨"drainline/Crc32cCombine", "multiply", "(II)I"⟩ : MethodName) prog_4_method_3_code 5 (some .int) :: ws) ({ frames := 0, cells := 0, slots := 0, locals := 0 } : Room)) (fun aa U => aa = #[(.int a), (.int b)] ∧ Z.Warmed39 U.vm ∧ U.heap = h0) (fun _ _ _ _ _ => True) (fun _ U o U' => ∃ v L, o = .returned v ∧ PureQ (some (.int (mulI 32 a 0 b))) h0 n0 v U'.heap L ∧ FrameEnd U o U' L ({ frames := 0, cells := 0, slots := 0, locals := 0 } : Room).cells ({ frames := 0, cells := 0, slots := 0, locals := 0 } : Room).slots) := by
  refine MetFree.of_bodySF (plainFor_of_name pn_rm2) hisR ?_
  intro p e s m args below meth c s₁ Bd hml0 hP hK
  obtain ⟨rfl, hZ, hh⟩ := hP
  have hx := Bd.exec
  have hby := Bd.bytes
  have hml : c.maxLocals = 5 := hml0
  have hown : s.vm.findClass "drainline/Crc32cCombine" = some m.cls := findClass_of_methodNamed Bd.named
  have hnm := (name_of_methodNamed Bd.named Bd.method).1
  have X0 : Stand p l e ({ frames := 0, cells := 0, slots := 0, locals := 0 } : Room) s m #[(.int a), (.int b)] below meth c s₁ [] 0 0 := Stand.of_body Bd
  have e0 : s₁.heap = h0 := by rw [← hh, Bd.state]; rfl
  have N0 := Fr.nil n0
  have loop : ∀ k : Nat, k ≤ 32 → ∀ r t : Int32, mulI k a r t = mulI 32 a 0 b → Go p e below (s₁.setTop (mkF m 8 #[.val (.int a), .val (.int b), .val (.int r), .val (.int t), .val (.int (iv k))] [])) (fun o U => ∃ v L, o = Outcome.returned v ∧ PureQ (some (.int (mulI 32 a 0 b))) h0 n0 v U.heap L ∧ FrameEnd s o U L ({ frames := 0, cells := 0, slots := 0, locals := 0 } : Room).cells ({ frames := 0, cells := 0, slots := 0, locals := 0 } : Room).slots) := by
    intro k
    induction k with
    | zero =>
      intro hk r t hW
      refine Go.by (S' := s₁.setTop (mkF m 10 #[.val (.int a), .val (.int b), .val (.int r), .val (.int t), .val (.int (iv 0))] [(.int (iv 0))])) (fun _ kt => XS.iload X0.here hx rfl (hb hby d2_8) rfl kt) ?_
      refine Go.by (S' := s₁.setTop (mkF m 51 #[.val (.int a), .val (.int b), .val (.int r), .val (.int t), .val (.int (iv 0))] [])) (fun _ kt => XS.ifYes X0.here hx rfl (pc0 := 10) (pc' := 51) rfl (hb hby d2_10) rfl (XT.i0_lt_t ((iv_neg (by decide)).mpr rfl)) (by decide) (by decide)  kt) ?_
      refine Go.by (S' := s₁.setTop (mkF m 52 #[.val (.int a), .val (.int b), .val (.int r), .val (.int t), .val (.int (iv 0))] [(.int r)])) (fun _ kt => XS.iloadN X0.here hx rfl (hb hby d2_51) rfl  kt) ?_
      refine goRet X0 (v := some (.int r)) (fun h => by rw [Bd.returns] at h; cases h) Bd.notSynchronized (fun fs hr => retOut X0 hx Bd.returns rfl (Or.inl ⟨rfl, Or.inl rfl, _, rfl⟩) (hb hby d2_52) hr) (by decide) (by decide) ?_
      exact ⟨by rw [← hW]; rfl, N0, e0⟩
    | succ k ih =>
      intro hk r t hW
      refine Go.by (S' := s₁.setTop (mkF m 10 #[.val (.int a), .val (.int b), .val (.int r), .val (.int t), .val (.int (iv (k + 1)))] [(.int (iv (k + 1)))])) (fun _ kt => XS.iload X0.here hx rfl (hb hby d2_8) rfl kt) ?_
      refine Go.by (S' := s₁.setTop (mkF m 13 #[.val (.int a), .val (.int b), .val (.int r), .val (.int t), .val (.int (iv (k + 1)))] [])) (fun _ kt => XS.ifNo X0.here hx rfl (hb hby d2_10) rfl (XT.i0_lt_f (fun q => absurd ((iv_neg hk).mp q) (by omega)))  kt) ?_
      refine Go.by (S' := s₁.setTop (mkF m 14 #[.val (.int a), .val (.int b), .val (.int r), .val (.int t), .val (.int (iv (k + 1)))] [(.int a)])) (fun _ kt => XS.iloadN X0.here hx rfl (hb hby d2_13) rfl  kt) ?_
      refine Go.by (S' := s₁.setTop (mkF m 16 #[.val (.int a), .val (.int b), .val (.int r), .val (.int t), .val (.int (iv (k + 1)))] [(.int (iv (k + 1))), (.int a)])) (fun _ kt => XS.iload X0.here hx rfl (hb hby d2_14) rfl  kt) ?_
      refine Go.by (S' := s₁.setTop (mkF m 17 #[.val (.int a), .val (.int b), .val (.int r), .val (.int t), .val (.int (iv (k + 1)))] [(.int (XT.ushr a (iv (k + 1))))])) (fun _ kt => XT.iushr X0.here hx rfl (hb hby d2_16) rfl  kt) ?_
      refine Go.by (S' := s₁.setTop (mkF m 18 #[.val (.int a), .val (.int b), .val (.int r), .val (.int t), .val (.int (iv (k + 1)))] [(.int (1 : Int32)), (.int (XT.ushr a (iv (k + 1))))])) (fun _ kt => XT.iconstV X0.here hx rfl (1 : Int32) (hb hby d2_17) (by decide)  kt) ?_
      refine Go.by (S' := s₁.setTop (mkF m 19 #[.val (.int a), .val (.int b), .val (.int r), .val (.int t), .val (.int (iv (k + 1)))] [(.int ((XT.ushr a (iv (k + 1))) &&& (1 : Int32)))])) (fun _ kt => XS.iand X0.here hx rfl (hb hby d2_18) rfl  kt) ?_
      by_cases hc19_151 : ((XT.ushr a (iv (k + 1))) &&& (1 : Int32)) = (0 : Int32)
      · refine Go.by (S' := s₁.setTop (mkF m 26 #[.val (.int a), .val (.int b), .val (.int r), .val (.int t), .val (.int (iv (k + 1)))] [])) (fun _ kt => XS.ifYes X0.here hx rfl (pc0 := 19) (pc' := 26) rfl (hb hby d2_19) rfl (XT.i0_eq_t hc19_151) (by decide) (by decide)  kt) ?_
        refine Go.by (S' := s₁.setTop (mkF m 27 #[.val (.int a), .val (.int b), .val (.int r), .val (.int t), .val (.int (iv (k + 1)))] [(.int t)])) (fun _ kt => XS.iloadN X0.here hx rfl (hb hby d2_26) rfl  kt) ?_
        refine Go.by (S' := s₁.setTop (mkF m 28 #[.val (.int a), .val (.int b), .val (.int r), .val (.int t), .val (.int (iv (k + 1)))] [(.int (1 : Int32)), (.int t)])) (fun _ kt => XT.iconstV X0.here hx rfl (1 : Int32) (hb hby d2_27) (by decide)  kt) ?_
        refine Go.by (S' := s₁.setTop (mkF m 29 #[.val (.int a), .val (.int b), .val (.int r), .val (.int t), .val (.int (iv (k + 1)))] [(.int (t &&& (1 : Int32)))])) (fun _ kt => XS.iand X0.here hx rfl (hb hby d2_28) rfl  kt) ?_
        by_cases hc29_152 : (t &&& (1 : Int32)) = (0 : Int32)
        · refine Go.by (S' := s₁.setTop (mkF m 41 #[.val (.int a), .val (.int b), .val (.int r), .val (.int t), .val (.int (iv (k + 1)))] [])) (fun _ kt => XS.ifYes X0.here hx rfl (pc0 := 29) (pc' := 41) rfl (hb hby d2_29) rfl (XT.i0_eq_t hc29_152) (by decide) (by decide)  kt) ?_
          refine Go.by (S' := s₁.setTop (mkF m 42 #[.val (.int a), .val (.int b), .val (.int r), .val (.int t), .val (.int (iv (k + 1)))] [(.int t)])) (fun _ kt => XS.iloadN X0.here hx rfl (hb hby d2_41) rfl  kt) ?_
          refine Go.by (S' := s₁.setTop (mkF m 43 #[.val (.int a), .val (.int b), .val (.int r), .val (.int t), .val (.int (iv (k + 1)))] [(.int (1 : Int32)), (.int t)])) (fun _ kt => XT.iconstV X0.here hx rfl (1 : Int32) (hb hby d2_42) (by decide)  kt) ?_
          refine Go.by (S' := s₁.setTop (mkF m 44 #[.val (.int a), .val (.int b), .val (.int r), .val (.int t), .val (.int (iv (k + 1)))] [(.int (XT.ushr t (1 : Int32)))])) (fun _ kt => XT.iushr X0.here hx rfl (hb hby d2_43) rfl  kt) ?_
          refine Go.by (S' := s₁.setTop (mkF m 45 #[.val (.int a), .val (.int b), .val (.int r), .val (.int (XT.ushr t (1 : Int32))), .val (.int (iv (k + 1)))] [])) (fun _ kt => XS.istoreN X0.here hx rfl (hb hby d2_44) rfl (l' := #[.val (.int a), .val (.int b), .val (.int r), .val (.int (XT.ushr t (1 : Int32))), .val (.int (iv (k + 1)))]) rfl  kt) ?_
          refine Go.by (S' := s₁.setTop (mkF m 48 #[.val (.int a), .val (.int b), .val (.int r), .val (.int (XT.ushr t (1 : Int32))), .val (.int ((iv (k + 1)) + (-1 : Int32)))] [])) (fun _ kt => XT.iincV X0.here hx rfl (-1 : Int32) (hb hby d2_45) (by decide) rfl (l' := #[.val (.int a), .val (.int b), .val (.int r), .val (.int (XT.ushr t (1 : Int32))), .val (.int ((iv (k + 1)) + (-1 : Int32)))]) rfl  kt) ?_
          refine Go.by (S' := s₁.setTop (mkF m 8 #[.val (.int a), .val (.int b), .val (.int r), .val (.int (XT.ushr t (1 : Int32))), .val (.int ((iv (k + 1)) + (-1 : Int32)))] [])) (fun _ kt => XS.goto X0.here hx rfl (pc0 := 48) (pc' := 8) rfl (hb hby d2_48) (by decide) (by decide)  kt) ?_
          rw [iv_dec hk, step_even hc29_152]
          exact ih (by omega) _ _ (by rw [← hW, mulI_skip hk hc19_151])
        · refine Go.by (S' := s₁.setTop (mkF m 32 #[.val (.int a), .val (.int b), .val (.int r), .val (.int t), .val (.int (iv (k + 1)))] [])) (fun _ kt => XS.ifNo X0.here hx rfl (hb hby d2_29) rfl (XT.i0_eq_f hc29_152)  kt) ?_
          refine Go.by (S' := s₁.setTop (mkF m 33 #[.val (.int a), .val (.int b), .val (.int r), .val (.int t), .val (.int (iv (k + 1)))] [(.int t)])) (fun _ kt => XS.iloadN X0.here hx rfl (hb hby d2_32) rfl  kt) ?_
          refine Go.by (S' := s₁.setTop (mkF m 34 #[.val (.int a), .val (.int b), .val (.int r), .val (.int t), .val (.int (iv (k + 1)))] [(.int (1 : Int32)), (.int t)])) (fun _ kt => XT.iconstV X0.here hx rfl (1 : Int32) (hb hby d2_33) (by decide)  kt) ?_
          refine Go.by (S' := s₁.setTop (mkF m 35 #[.val (.int a), .val (.int b), .val (.int r), .val (.int t), .val (.int (iv (k + 1)))] [(.int (XT.ushr t (1 : Int32)))])) (fun _ kt => XT.iushr X0.here hx rfl (hb hby d2_34) rfl  kt) ?_
          refine Go.by (S' := s₁.setTop (mkF m 37 #[.val (.int a), .val (.int b), .val (.int r), .val (.int t), .val (.int (iv (k + 1)))] [(.int (-2097792136 : Int32)), (.int (XT.ushr t (1 : Int32)))])) (X0.ldcInt hx hown (mvT hZ (hw _ (List.mem_of_getElem? (i := 10) rfl))) (g := (mkF m 35 #[.val (.int a), .val (.int b), .val (.int r), .val (.int t), .val (.int (iv (k + 1)))] [(.int (XT.ushr t (1 : Int32)))])) rfl (hb hby d2_35)) ?_
          refine Go.by (S' := s₁.setTop (mkF m 38 #[.val (.int a), .val (.int b), .val (.int r), .val (.int t), .val (.int (iv (k + 1)))] [(.int ((XT.ushr t (1 : Int32)) ^^^ (-2097792136 : Int32)))])) (fun _ kt => XS.ixor X0.here hx rfl (hb hby d2_37) rfl  kt) ?_
          refine Go.by (S' := s₁.setTop (mkF m 44 #[.val (.int a), .val (.int b), .val (.int r), .val (.int t), .val (.int (iv (k + 1)))] [(.int ((XT.ushr t (1 : Int32)) ^^^ (-2097792136 : Int32)))])) (fun _ kt => XS.goto X0.here hx rfl (pc0 := 38) (pc' := 44) rfl (hb hby d2_38) (by decide) (by decide)  kt) ?_
          refine Go.by (S' := s₁.setTop (mkF m 45 #[.val (.int a), .val (.int b), .val (.int r), .val (.int ((XT.ushr t (1 : Int32)) ^^^ (-2097792136 : Int32))), .val (.int (iv (k + 1)))] [])) (fun _ kt => XS.istoreN X0.here hx rfl (hb hby d2_44) rfl (l' := #[.val (.int a), .val (.int b), .val (.int r), .val (.int ((XT.ushr t (1 : Int32)) ^^^ (-2097792136 : Int32))), .val (.int (iv (k + 1)))]) rfl  kt) ?_
          refine Go.by (S' := s₁.setTop (mkF m 48 #[.val (.int a), .val (.int b), .val (.int r), .val (.int ((XT.ushr t (1 : Int32)) ^^^ (-2097792136 : Int32))), .val (.int ((iv (k + 1)) + (-1 : Int32)))] [])) (fun _ kt => XT.iincV X0.here hx rfl (-1 : Int32) (hb hby d2_45) (by decide) rfl (l' := #[.val (.int a), .val (.int b), .val (.int r), .val (.int ((XT.ushr t (1 : Int32)) ^^^ (-2097792136 : Int32))), .val (.int ((iv (k + 1)) + (-1 : Int32)))]) rfl  kt) ?_
          refine Go.by (S' := s₁.setTop (mkF m 8 #[.val (.int a), .val (.int b), .val (.int r), .val (.int ((XT.ushr t (1 : Int32)) ^^^ (-2097792136 : Int32))), .val (.int ((iv (k + 1)) + (-1 : Int32)))] [])) (fun _ kt => XS.goto X0.here hx rfl (pc0 := 48) (pc' := 8) rfl (hb hby d2_48) (by decide) (by decide)  kt) ?_
          rw [iv_dec hk, step_odd hc29_152]
          exact ih (by omega) _ _ (by rw [← hW, mulI_skip hk hc19_151])
      · refine Go.by (S' := s₁.setTop (mkF m 22 #[.val (.int a), .val (.int b), .val (.int r), .val (.int t), .val (.int (iv (k + 1)))] [])) (fun _ kt => XS.ifNo X0.here hx rfl (hb hby d2_19) rfl (XT.i0_eq_f hc19_151)  kt) ?_
        refine Go.by (S' := s₁.setTop (mkF m 23 #[.val (.int a), .val (.int b), .val (.int r), .val (.int t), .val (.int (iv (k + 1)))] [(.int r)])) (fun _ kt => XS.iloadN X0.here hx rfl (hb hby d2_22) rfl  kt) ?_
        refine Go.by (S' := s₁.setTop (mkF m 24 #[.val (.int a), .val (.int b), .val (.int r), .val (.int t), .val (.int (iv (k + 1)))] [(.int t), (.int r)])) (fun _ kt => XS.iloadN X0.here hx rfl (hb hby d2_23) rfl  kt) ?_
        refine Go.by (S' := s₁.setTop (mkF m 25 #[.val (.int a), .val (.int b), .val (.int r), .val (.int t), .val (.int (iv (k + 1)))] [(.int (r ^^^ t))])) (fun _ kt => XS.ixor X0.here hx rfl (hb hby d2_24) rfl  kt) ?_
        refine Go.by (S' := s₁.setTop (mkF m 26 #[.val (.int a), .val (.int b), .val (.int (r ^^^ t)), .val (.int t), .val (.int (iv (k + 1)))] [])) (fun _ kt => XS.istoreN X0.here hx rfl (hb hby d2_25) rfl (l' := #[.val (.int a), .val (.int b), .val (.int (r ^^^ t)), .val (.int t), .val (.int (iv (k + 1)))]) rfl  kt) ?_
        refine Go.by (S' := s₁.setTop (mkF m 27 #[.val (.int a), .val (.int b), .val (.int (r ^^^ t)), .val (.int t), .val (.int (iv (k + 1)))] [(.int t)])) (fun _ kt => XS.iloadN X0.here hx rfl (hb hby d2_26) rfl  kt) ?_
        refine Go.by (S' := s₁.setTop (mkF m 28 #[.val (.int a), .val (.int b), .val (.int (r ^^^ t)), .val (.int t), .val (.int (iv (k + 1)))] [(.int (1 : Int32)), (.int t)])) (fun _ kt => XT.iconstV X0.here hx rfl (1 : Int32) (hb hby d2_27) (by decide)  kt) ?_
        refine Go.by (S' := s₁.setTop (mkF m 29 #[.val (.int a), .val (.int b), .val (.int (r ^^^ t)), .val (.int t), .val (.int (iv (k + 1)))] [(.int (t &&& (1 : Int32)))])) (fun _ kt => XS.iand X0.here hx rfl (hb hby d2_28) rfl  kt) ?_
        by_cases hc29_153 : (t &&& (1 : Int32)) = (0 : Int32)
        · refine Go.by (S' := s₁.setTop (mkF m 41 #[.val (.int a), .val (.int b), .val (.int (r ^^^ t)), .val (.int t), .val (.int (iv (k + 1)))] [])) (fun _ kt => XS.ifYes X0.here hx rfl (pc0 := 29) (pc' := 41) rfl (hb hby d2_29) rfl (XT.i0_eq_t hc29_153) (by decide) (by decide)  kt) ?_
          refine Go.by (S' := s₁.setTop (mkF m 42 #[.val (.int a), .val (.int b), .val (.int (r ^^^ t)), .val (.int t), .val (.int (iv (k + 1)))] [(.int t)])) (fun _ kt => XS.iloadN X0.here hx rfl (hb hby d2_41) rfl  kt) ?_
          refine Go.by (S' := s₁.setTop (mkF m 43 #[.val (.int a), .val (.int b), .val (.int (r ^^^ t)), .val (.int t), .val (.int (iv (k + 1)))] [(.int (1 : Int32)), (.int t)])) (fun _ kt => XT.iconstV X0.here hx rfl (1 : Int32) (hb hby d2_42) (by decide)  kt) ?_
          refine Go.by (S' := s₁.setTop (mkF m 44 #[.val (.int a), .val (.int b), .val (.int (r ^^^ t)), .val (.int t), .val (.int (iv (k + 1)))] [(.int (XT.ushr t (1 : Int32)))])) (fun _ kt => XT.iushr X0.here hx rfl (hb hby d2_43) rfl  kt) ?_
          refine Go.by (S' := s₁.setTop (mkF m 45 #[.val (.int a), .val (.int b), .val (.int (r ^^^ t)), .val (.int (XT.ushr t (1 : Int32))), .val (.int (iv (k + 1)))] [])) (fun _ kt => XS.istoreN X0.here hx rfl (hb hby d2_44) rfl (l' := #[.val (.int a), .val (.int b), .val (.int (r ^^^ t)), .val (.int (XT.ushr t (1 : Int32))), .val (.int (iv (k + 1)))]) rfl  kt) ?_
          refine Go.by (S' := s₁.setTop (mkF m 48 #[.val (.int a), .val (.int b), .val (.int (r ^^^ t)), .val (.int (XT.ushr t (1 : Int32))), .val (.int ((iv (k + 1)) + (-1 : Int32)))] [])) (fun _ kt => XT.iincV X0.here hx rfl (-1 : Int32) (hb hby d2_45) (by decide) rfl (l' := #[.val (.int a), .val (.int b), .val (.int (r ^^^ t)), .val (.int (XT.ushr t (1 : Int32))), .val (.int ((iv (k + 1)) + (-1 : Int32)))]) rfl  kt) ?_
          refine Go.by (S' := s₁.setTop (mkF m 8 #[.val (.int a), .val (.int b), .val (.int (r ^^^ t)), .val (.int (XT.ushr t (1 : Int32))), .val (.int ((iv (k + 1)) + (-1 : Int32)))] [])) (fun _ kt => XS.goto X0.here hx rfl (pc0 := 48) (pc' := 8) rfl (hb hby d2_48) (by decide) (by decide)  kt) ?_
          rw [iv_dec hk, step_even hc29_153]
          exact ih (by omega) _ _ (by rw [← hW, mulI_add hk hc19_151])
        · refine Go.by (S' := s₁.setTop (mkF m 32 #[.val (.int a), .val (.int b), .val (.int (r ^^^ t)), .val (.int t), .val (.int (iv (k + 1)))] [])) (fun _ kt => XS.ifNo X0.here hx rfl (hb hby d2_29) rfl (XT.i0_eq_f hc29_153)  kt) ?_
          refine Go.by (S' := s₁.setTop (mkF m 33 #[.val (.int a), .val (.int b), .val (.int (r ^^^ t)), .val (.int t), .val (.int (iv (k + 1)))] [(.int t)])) (fun _ kt => XS.iloadN X0.here hx rfl (hb hby d2_32) rfl  kt) ?_
          refine Go.by (S' := s₁.setTop (mkF m 34 #[.val (.int a), .val (.int b), .val (.int (r ^^^ t)), .val (.int t), .val (.int (iv (k + 1)))] [(.int (1 : Int32)), (.int t)])) (fun _ kt => XT.iconstV X0.here hx rfl (1 : Int32) (hb hby d2_33) (by decide)  kt) ?_
          refine Go.by (S' := s₁.setTop (mkF m 35 #[.val (.int a), .val (.int b), .val (.int (r ^^^ t)), .val (.int t), .val (.int (iv (k + 1)))] [(.int (XT.ushr t (1 : Int32)))])) (fun _ kt => XT.iushr X0.here hx rfl (hb hby d2_34) rfl  kt) ?_
          refine Go.by (S' := s₁.setTop (mkF m 37 #[.val (.int a), .val (.int b), .val (.int (r ^^^ t)), .val (.int t), .val (.int (iv (k + 1)))] [(.int (-2097792136 : Int32)), (.int (XT.ushr t (1 : Int32)))])) (X0.ldcInt hx hown (mvT hZ (hw _ (List.mem_of_getElem? (i := 10) rfl))) (g := (mkF m 35 #[.val (.int a), .val (.int b), .val (.int (r ^^^ t)), .val (.int t), .val (.int (iv (k + 1)))] [(.int (XT.ushr t (1 : Int32)))])) rfl (hb hby d2_35)) ?_
          refine Go.by (S' := s₁.setTop (mkF m 38 #[.val (.int a), .val (.int b), .val (.int (r ^^^ t)), .val (.int t), .val (.int (iv (k + 1)))] [(.int ((XT.ushr t (1 : Int32)) ^^^ (-2097792136 : Int32)))])) (fun _ kt => XS.ixor X0.here hx rfl (hb hby d2_37) rfl  kt) ?_
          refine Go.by (S' := s₁.setTop (mkF m 44 #[.val (.int a), .val (.int b), .val (.int (r ^^^ t)), .val (.int t), .val (.int (iv (k + 1)))] [(.int ((XT.ushr t (1 : Int32)) ^^^ (-2097792136 : Int32)))])) (fun _ kt => XS.goto X0.here hx rfl (pc0 := 38) (pc' := 44) rfl (hb hby d2_38) (by decide) (by decide)  kt) ?_
          refine Go.by (S' := s₁.setTop (mkF m 45 #[.val (.int a), .val (.int b), .val (.int (r ^^^ t)), .val (.int ((XT.ushr t (1 : Int32)) ^^^ (-2097792136 : Int32))), .val (.int (iv (k + 1)))] [])) (fun _ kt => XS.istoreN X0.here hx rfl (hb hby d2_44) rfl (l' := #[.val (.int a), .val (.int b), .val (.int (r ^^^ t)), .val (.int ((XT.ushr t (1 : Int32)) ^^^ (-2097792136 : Int32))), .val (.int (iv (k + 1)))]) rfl  kt) ?_
          refine Go.by (S' := s₁.setTop (mkF m 48 #[.val (.int a), .val (.int b), .val (.int (r ^^^ t)), .val (.int ((XT.ushr t (1 : Int32)) ^^^ (-2097792136 : Int32))), .val (.int ((iv (k + 1)) + (-1 : Int32)))] [])) (fun _ kt => XT.iincV X0.here hx rfl (-1 : Int32) (hb hby d2_45) (by decide) rfl (l' := #[.val (.int a), .val (.int b), .val (.int (r ^^^ t)), .val (.int ((XT.ushr t (1 : Int32)) ^^^ (-2097792136 : Int32))), .val (.int ((iv (k + 1)) + (-1 : Int32)))]) rfl  kt) ?_
          refine Go.by (S' := s₁.setTop (mkF m 8 #[.val (.int a), .val (.int b), .val (.int (r ^^^ t)), .val (.int ((XT.ushr t (1 : Int32)) ^^^ (-2097792136 : Int32))), .val (.int ((iv (k + 1)) + (-1 : Int32)))] [])) (fun _ kt => XS.goto X0.here hx rfl (pc0 := 48) (pc' := 8) rfl (hb hby d2_48) (by decide) (by decide)  kt) ?_
          rw [iv_dec hk, step_odd hc29_153]
          exact ih (by omega) _ _ (by rw [← hW, mulI_add hk hc19_151])
  refine goIn (ef_rm2 m a b) ?_
  refine Go.by (S' := s₁.setTop (mkF m 1 #[.val (.int a), .val (.int b), .unset, .unset, .unset] [(.int (0 : Int32))])) (fun _ kt => XT.iconstV X0.here hx rfl (0 : Int32) (hb hby d2_0) (by decide)  kt) ?_
  refine Go.by (S' := s₁.setTop (mkF m 2 #[.val (.int a), .val (.int b), .val (.int (0 : Int32)), .unset, .unset] [])) (fun _ kt => XS.istoreN X0.here hx rfl (hb hby d2_1) rfl (l' := #[.val (.int a), .val (.int b), .val (.int (0 : Int32)), .unset, .unset]) rfl  kt) ?_
  refine Go.by (S' := s₁.setTop (mkF m 3 #[.val (.int a), .val (.int b), .val (.int (0 : Int32)), .unset, .unset] [(.int b)])) (fun _ kt => XS.iloadN X0.here hx rfl (hb hby d2_2) rfl  kt) ?_
  refine Go.by (S' := s₁.setTop (mkF m 4 #[.val (.int a), .val (.int b), .val (.int (0 : Int32)), .val (.int b), .unset] [])) (fun _ kt => XS.istoreN X0.here hx rfl (hb hby d2_3) rfl (l' := #[.val (.int a), .val (.int b), .val (.int (0 : Int32)), .val (.int b), .unset]) rfl  kt) ?_
  refine Go.by (S' := s₁.setTop (mkF m 6 #[.val (.int a), .val (.int b), .val (.int (0 : Int32)), .val (.int b), .unset] [(.int (31 : Int32))])) (fun _ kt => XT.bipushV X0.here hx rfl (31 : Int32) (hb hby d2_4) (by decide)  kt) ?_
  refine Go.by (S' := s₁.setTop (mkF m 8 #[.val (.int a), .val (.int b), .val (.int (0 : Int32)), .val (.int b), .val (.int (31 : Int32))] [])) (fun _ kt => XS.istore X0.here hx rfl (hb hby d2_6) rfl (l' := #[.val (.int a), .val (.int b), .val (.int (0 : Int32)), .val (.int b), .val (.int (31 : Int32))]) rfl  kt) ?_
  exact loop 32 (by decide) 0 b rfl
theorem own_ofNat_succ (b : Nat) : Int32.ofNat b + 1 = Int32.ofNat (b + 1) := by
  apply i32_ext
  rw [Int32.toBitVec_add]
  show BitVec.ofNat 32 b + 1#32 = BitVec.ofNat 32 (b + 1)
  rw [BitVec.ofNat_add]
theorem own_idx {b : Nat} (h : b ≤ 62) : (Int32.ofNat b).toNatClampNeg = b := by
  simp only [Int32.toNatClampNeg, bitI b (by omega)]; rfl
theorem own_in {cl : Cell} (sz : cl.slots.size = 63) {b : Nat} (h : b ≤ 62) : ¬ (Int32.ofNat b < 0 ∨ cl.slots.size ≤ (Int32.ofNat b).toNatClampNeg) := by
  rw [sz, own_idx h, Int32.lt_iff_toInt_lt, bitI b (by omega)]
  show ¬ ((b : Int) < 0 ∨ 63 ≤ b)
  omega
theorem ef_rm1 (m : MethodId) (x0 : Int32) (x1 : Int32) (x2 : Int64) : entryFrame m #[(.int x0), (.int x1), (.long x2)] 6 = mkF m 0 #[.val (.int x0), .val (.int x1), .val (.long x2), .second, .unset, .unset] [] := by first | (simp [entryFrame, mkF, argsToLocals, Value.category]; done) | rfl
theorem pn_rm1 : plainName "drainline/Crc32cCombine" = true := by first | (simp [plainName, overriddenIn]; done) | decide +kernel
theorem d1_0 : decode prog_4_method_2_code 0 = .ok (.iload_n 0, 1) := by decide +kernel
theorem d1_1 : decode prog_4_method_2_code 1 = .ok (.istore 4, 2) := by decide +kernel
theorem d1_3 : decode prog_4_method_2_code 3 = .ok (.iconst 0, 1) := by decide +kernel
theorem d1_4 : decode prog_4_method_2_code 4 = .ok (.istore 5, 2) := by decide +kernel
theorem d1_6 : decode prog_4_method_2_code 6 = .ok (.lload_n 2, 1) := by decide +kernel
theorem d1_7 : decode prog_4_method_2_code 7 = .ok (.iload 5, 2) := by decide +kernel
theorem d1_9 : decode prog_4_method_2_code 9 = .ok (.lushr, 1) := by decide +kernel
theorem d1_10 : decode prog_4_method_2_code 10 = .ok (.lconst 0, 1) := by decide +kernel
theorem d1_11 : decode prog_4_method_2_code 11 = .ok (.lcmp, 1) := by decide +kernel
theorem d1_12 : decode prog_4_method_2_code 12 = .ok (.ifCond .eq 33, 3) := by decide +kernel
theorem d1_15 : decode prog_4_method_2_code 15 = .ok (.lload_n 2, 1) := by decide +kernel
theorem d1_16 : decode prog_4_method_2_code 16 = .ok (.iload 5, 2) := by decide +kernel
theorem d1_18 : decode prog_4_method_2_code 18 = .ok (.lushr, 1) := by decide +kernel
theorem d1_19 : decode prog_4_method_2_code 19 = .ok (.lconst 1, 1) := by decide +kernel
theorem d1_20 : decode prog_4_method_2_code 20 = .ok (.land, 1) := by decide +kernel
theorem d1_21 : decode prog_4_method_2_code 21 = .ok (.lconst 0, 1) := by decide +kernel
theorem d1_22 : decode prog_4_method_2_code 22 = .ok (.lcmp, 1) := by decide +kernel
theorem d1_23 : decode prog_4_method_2_code 23 = .ok (.ifCond .eq 16, 3) := by decide +kernel
theorem d1_26 : decode prog_4_method_2_code 26 = .ok (.iload 4, 2) := by decide +kernel
theorem d1_28 : decode prog_4_method_2_code 28 = .ok (.getstatic 7, 3) := by decide +kernel
theorem d1_31 : decode prog_4_method_2_code 31 = .ok (.iload 5, 2) := by decide +kernel
theorem d1_33 : decode prog_4_method_2_code 33 = .ok (.iaload, 1) := by decide +kernel
theorem d1_34 : decode prog_4_method_2_code 34 = .ok (.invokestatic 13, 3) := by decide +kernel
theorem d1_37 : decode prog_4_method_2_code 37 = .ok (.istore 4, 2) := by decide +kernel
theorem d1_39 : decode prog_4_method_2_code 39 = .ok (.iinc 5 1, 3) := by decide +kernel
theorem d1_42 : decode prog_4_method_2_code 42 = .ok (.goto (-36), 3) := by decide +kernel
theorem d1_45 : decode prog_4_method_2_code 45 = .ok (.iload 4, 2) := by decide +kernel
theorem d1_47 : decode prog_4_method_2_code 47 = .ok (.iload_n 1, 1) := by decide +kernel
theorem d1_48 : decode prog_4_method_2_code 48 = .ok (.ixor, 1) := by decide +kernel
theorem d1_49 : decode prog_4_method_2_code 49 = .ok (.ireturn, 1) := by decide +kernel
set_option maxRecDepth 65536 in
set_option maxHeartbeats 40000000 in
theorem rm1 (l : Launch) (Z : State) (a0 : Array Value) (hw : ∀ d ∈ tables_1, d.before a0 Z = true) (ws : List Jvm.Cond) (a : Int32) (b : Int32) (n : Int64) (tp : Addr) (cl : Cell) (h0 : Heap) (n0 : Nat) (S : Sta Z h0 "drainline/Crc32cCombine" "POWERS" "[I" (.ref tp)) (A : Arr Z h0 tp cl .int) (sz : cl.slots.size = 63) (H : ∀ b, b ≤ 62 → cl.slots[b]? = some (.int (powI b))) (hN : nat64 n < 2 ^ 63) :
    MetFree l (⟨"drainline/Crc32cCombine", "combine", "(IIJ)I"⟩ : MethodName) (head1 (Jvm.Cond.code (⟨"drainline/Crc32cCombine", "combine", "(IIJ)I"⟩ : MethodName) prog_4_method_2_code 6 (some .int) :: ws) ({ frames := 1, cells := 0, slots := 0, locals := 16 } : Room)) (fun aa U => aa = #[(.int a), (.int b), (.long n)] ∧ Z.Warmed39 U.vm ∧ U.heap = h0) (fun _ _ _ _ _ => True) (fun _ U o U' => ∃ v L, o = .returned v ∧ PureQ (some (.int (itI (8 * nat64 n) a ^^^ b))) h0 n0 v U'.heap L ∧ FrameEnd U o U' L ({ frames := 1, cells := 0, slots := 0, locals := 16 } : Room).cells ({ frames := 1, cells := 0, slots := 0, locals := 16 } : Room).slots) := by
  refine MetFree.of_bodySF (plainFor_of_name pn_rm1) hisR ?_
  intro p e s m args below meth c s₁ Bd hml0 hP hK
  obtain ⟨rfl, hZ, hh⟩ := hP
  have hx := Bd.exec
  have hby := Bd.bytes
  have hml : c.maxLocals = 6 := hml0
  have hown : s.vm.findClass "drainline/Crc32cCombine" = some m.cls := findClass_of_methodNamed Bd.named
  have hnm := (name_of_methodNamed Bd.named Bd.method).1
  have X0 : Stand p l e ({ frames := 1, cells := 0, slots := 0, locals := 16 } : Room) s m #[(.int a), (.int b), (.long n)] below meth c s₁ [] 0 0 := Stand.of_body Bd
  have e0 : s₁.heap = h0 := by rw [← hh, Bd.state]; rfl
  have N0 := Fr.nil n0
  have loop : ∀ (f i : Nat) (c_ : Int32) (T : State) (lo : List Loc), f + i = 63 → Stand p l e ({ frames := 1, cells := 0, slots := 0, locals := 16 } : Room) s m #[(.int a), (.int b), (.long n)] below meth c T lo 0 0 → T.heap = h0 → Fr n0 lo → combI (nat64 n) i c_ = itI (8 * nat64 n) a → Go p e below (T.setTop (mkF m 6 #[.val (.int a), .val (.int b), .val (.long n), .second, .val (.int c_), .val (.int (Int32.ofNat i))] [])) (fun o U => ∃ v L, o = Outcome.returned v ∧ PureQ (some (.int (itI (8 * nat64 n) a ^^^ b))) h0 n0 v U.heap L ∧ FrameEnd s o U L ({ frames := 1, cells := 0, slots := 0, locals := 16 } : Room).cells ({ frames := 1, cells := 0, slots := 0, locals := 16 } : Room).slots) := by
    intro f
    induction f with
    | zero =>
      intro i c_ T lo hf X eT NT hW
      refine Go.by (S' := T.setTop (mkF m 7 #[.val (.int a), .val (.int b), .val (.long n), .second, .val (.int c_), .val (.int (Int32.ofNat i))] [(.long n)])) (fun _ kt => XS.lloadN X.here hx rfl (hb hby d1_6) rfl kt) ?_
      refine Go.by (S' := T.setTop (mkF m 9 #[.val (.int a), .val (.int b), .val (.long n), .second, .val (.int c_), .val (.int (Int32.ofNat i))] [(.int (Int32.ofNat i)), (.long n)])) (fun _ kt => XS.iload X.here hx rfl (hb hby d1_7) rfl  kt) ?_
      refine Go.by (S' := T.setTop (mkF m 10 #[.val (.int a), .val (.int b), .val (.long n), .second, .val (.int c_), .val (.int (Int32.ofNat i))] [(.long (XT.ushrL n (Int32.ofNat i)))])) (fun _ kt => XT.lushr X.here hx rfl (hb hby d1_9) rfl  kt) ?_
      refine Go.by (S' := T.setTop (mkF m 11 #[.val (.int a), .val (.int b), .val (.long n), .second, .val (.int c_), .val (.int (Int32.ofNat i))] [(.long (0 : Int64)), (.long (XT.ushrL n (Int32.ofNat i)))])) (fun _ kt => XT.lconstV X.here hx rfl (0 : Int64) (hb hby d1_10) (by decide)  kt) ?_
      refine Go.by (S' := T.setTop (mkF m 12 #[.val (.int a), .val (.int b), .val (.long n), .second, .val (.int c_), .val (.int (Int32.ofNat i))] [(.int (XT.cmpL (XT.ushrL n (Int32.ofNat i)) (0 : Int64)))])) (fun _ kt => XT.lcmp X.here hx rfl (hb hby d1_11) rfl  kt) ?_
      refine Go.by (S' := T.setTop (mkF m 45 #[.val (.int a), .val (.int b), .val (.long n), .second, .val (.int c_), .val (.int (Int32.ofNat i))] [])) (fun _ kt => XS.ifYes X.here hx rfl (pc0 := 12) (pc' := 45) rfl (hb hby d1_12) rfl (XT.ll_eq_t ((shr_zero n (by omega)).mpr (Nat.div_eq_of_lt (Nat.lt_of_lt_of_le hN (Nat.pow_le_pow_right (by decide) (by omega)))))) (by decide) (by decide)  kt) ?_
      refine Go.by (S' := T.setTop (mkF m 47 #[.val (.int a), .val (.int b), .val (.long n), .second, .val (.int c_), .val (.int (Int32.ofNat i))] [(.int c_)])) (fun _ kt => XS.iload X.here hx rfl (hb hby d1_45) rfl  kt) ?_
      refine Go.by (S' := T.setTop (mkF m 48 #[.val (.int a), .val (.int b), .val (.long n), .second, .val (.int c_), .val (.int (Int32.ofNat i))] [(.int b), (.int c_)])) (fun _ kt => XS.iloadN X.here hx rfl (hb hby d1_47) rfl  kt) ?_
      refine Go.by (S' := T.setTop (mkF m 49 #[.val (.int a), .val (.int b), .val (.long n), .second, .val (.int c_), .val (.int (Int32.ofNat i))] [(.int (c_ ^^^ b))])) (fun _ kt => XS.ixor X.here hx rfl (hb hby d1_48) rfl  kt) ?_
      refine goRet X (v := some (.int (c_ ^^^ b))) (fun h => by rw [Bd.returns] at h; cases h) Bd.notSynchronized (fun fs hr => retOut X hx Bd.returns rfl (Or.inl ⟨rfl, Or.inl rfl, _, rfl⟩) (hb hby d1_49) hr) (by decide) (by decide) ?_
      exact ⟨by rw [← hW, combI_end _ (Nat.div_eq_of_lt (Nat.lt_of_lt_of_le hN (Nat.pow_le_pow_right (by decide) (by omega))))], NT, eT⟩
    | succ f ih =>
      intro i c_ T lo hf X eT NT hW
      refine Go.by (S' := T.setTop (mkF m 7 #[.val (.int a), .val (.int b), .val (.long n), .second, .val (.int c_), .val (.int (Int32.ofNat i))] [(.long n)])) (fun _ kt => XS.lloadN X.here hx rfl (hb hby d1_6) rfl kt) ?_
      refine Go.by (S' := T.setTop (mkF m 9 #[.val (.int a), .val (.int b), .val (.long n), .second, .val (.int c_), .val (.int (Int32.ofNat i))] [(.int (Int32.ofNat i)), (.long n)])) (fun _ kt => XS.iload X.here hx rfl (hb hby d1_7) rfl  kt) ?_
      refine Go.by (S' := T.setTop (mkF m 10 #[.val (.int a), .val (.int b), .val (.long n), .second, .val (.int c_), .val (.int (Int32.ofNat i))] [(.long (XT.ushrL n (Int32.ofNat i)))])) (fun _ kt => XT.lushr X.here hx rfl (hb hby d1_9) rfl  kt) ?_
      refine Go.by (S' := T.setTop (mkF m 11 #[.val (.int a), .val (.int b), .val (.long n), .second, .val (.int c_), .val (.int (Int32.ofNat i))] [(.long (0 : Int64)), (.long (XT.ushrL n (Int32.ofNat i)))])) (fun _ kt => XT.lconstV X.here hx rfl (0 : Int64) (hb hby d1_10) (by decide)  kt) ?_
      refine Go.by (S' := T.setTop (mkF m 12 #[.val (.int a), .val (.int b), .val (.long n), .second, .val (.int c_), .val (.int (Int32.ofNat i))] [(.int (XT.cmpL (XT.ushrL n (Int32.ofNat i)) (0 : Int64)))])) (fun _ kt => XT.lcmp X.here hx rfl (hb hby d1_11) rfl  kt) ?_
      by_cases hc12_151 : (XT.ushrL n (Int32.ofNat i)) = (0 : Int64)
      · refine Go.by (S' := T.setTop (mkF m 45 #[.val (.int a), .val (.int b), .val (.long n), .second, .val (.int c_), .val (.int (Int32.ofNat i))] [])) (fun _ kt => XS.ifYes X.here hx rfl (pc0 := 12) (pc' := 45) rfl (hb hby d1_12) rfl (XT.ll_eq_t hc12_151) (by decide) (by decide)  kt) ?_
        refine Go.by (S' := T.setTop (mkF m 47 #[.val (.int a), .val (.int b), .val (.long n), .second, .val (.int c_), .val (.int (Int32.ofNat i))] [(.int c_)])) (fun _ kt => XS.iload X.here hx rfl (hb hby d1_45) rfl  kt) ?_
        refine Go.by (S' := T.setTop (mkF m 48 #[.val (.int a), .val (.int b), .val (.long n), .second, .val (.int c_), .val (.int (Int32.ofNat i))] [(.int b), (.int c_)])) (fun _ kt => XS.iloadN X.here hx rfl (hb hby d1_47) rfl  kt) ?_
        refine Go.by (S' := T.setTop (mkF m 49 #[.val (.int a), .val (.int b), .val (.long n), .second, .val (.int c_), .val (.int (Int32.ofNat i))] [(.int (c_ ^^^ b))])) (fun _ kt => XS.ixor X.here hx rfl (hb hby d1_48) rfl  kt) ?_
        refine goRet X (v := some (.int (c_ ^^^ b))) (fun h => by rw [Bd.returns] at h; cases h) Bd.notSynchronized (fun fs hr => retOut X hx Bd.returns rfl (Or.inl ⟨rfl, Or.inl rfl, _, rfl⟩) (hb hby d1_49) hr) (by decide) (by decide) ?_
        exact ⟨by rw [← hW, combI_end _ ((shr_zero n (by omega)).mp hc12_151)], NT, eT⟩
      · refine Go.by (S' := T.setTop (mkF m 15 #[.val (.int a), .val (.int b), .val (.long n), .second, .val (.int c_), .val (.int (Int32.ofNat i))] [])) (fun _ kt => XS.ifNo X.here hx rfl (hb hby d1_12) rfl (XT.ll_eq_f hc12_151)  kt) ?_
        refine Go.by (S' := T.setTop (mkF m 16 #[.val (.int a), .val (.int b), .val (.long n), .second, .val (.int c_), .val (.int (Int32.ofNat i))] [(.long n)])) (fun _ kt => XS.lloadN X.here hx rfl (hb hby d1_15) rfl  kt) ?_
        refine Go.by (S' := T.setTop (mkF m 18 #[.val (.int a), .val (.int b), .val (.long n), .second, .val (.int c_), .val (.int (Int32.ofNat i))] [(.int (Int32.ofNat i)), (.long n)])) (fun _ kt => XS.iload X.here hx rfl (hb hby d1_16) rfl  kt) ?_
        refine Go.by (S' := T.setTop (mkF m 19 #[.val (.int a), .val (.int b), .val (.long n), .second, .val (.int c_), .val (.int (Int32.ofNat i))] [(.long (XT.ushrL n (Int32.ofNat i)))])) (fun _ kt => XT.lushr X.here hx rfl (hb hby d1_18) rfl  kt) ?_
        refine Go.by (S' := T.setTop (mkF m 20 #[.val (.int a), .val (.int b), .val (.long n), .second, .val (.int c_), .val (.int (Int32.ofNat i))] [(.long (1 : Int64)), (.long (XT.ushrL n (Int32.ofNat i)))])) (fun _ kt => XT.lconstV X.here hx rfl (1 : Int64) (hb hby d1_19) (by decide)  kt) ?_
        refine Go.by (S' := T.setTop (mkF m 21 #[.val (.int a), .val (.int b), .val (.long n), .second, .val (.int c_), .val (.int (Int32.ofNat i))] [(.long ((XT.ushrL n (Int32.ofNat i)) &&& (1 : Int64)))])) (fun _ kt => XS.land X.here hx rfl (hb hby d1_20) rfl  kt) ?_
        refine Go.by (S' := T.setTop (mkF m 22 #[.val (.int a), .val (.int b), .val (.long n), .second, .val (.int c_), .val (.int (Int32.ofNat i))] [(.long (0 : Int64)), (.long ((XT.ushrL n (Int32.ofNat i)) &&& (1 : Int64)))])) (fun _ kt => XT.lconstV X.here hx rfl (0 : Int64) (hb hby d1_21) (by decide)  kt) ?_
        refine Go.by (S' := T.setTop (mkF m 23 #[.val (.int a), .val (.int b), .val (.long n), .second, .val (.int c_), .val (.int (Int32.ofNat i))] [(.int (XT.cmpL ((XT.ushrL n (Int32.ofNat i)) &&& (1 : Int64)) (0 : Int64)))])) (fun _ kt => XT.lcmp X.here hx rfl (hb hby d1_22) rfl  kt) ?_
        by_cases hc23_152 : ((XT.ushrL n (Int32.ofNat i)) &&& (1 : Int64)) = (0 : Int64)
        · refine Go.by (S' := T.setTop (mkF m 39 #[.val (.int a), .val (.int b), .val (.long n), .second, .val (.int c_), .val (.int (Int32.ofNat i))] [])) (fun _ kt => XS.ifYes X.here hx rfl (pc0 := 23) (pc' := 39) rfl (hb hby d1_23) rfl (XT.ll_eq_t hc23_152) (by decide) (by decide)  kt) ?_
          refine Go.by (S' := T.setTop (mkF m 42 #[.val (.int a), .val (.int b), .val (.long n), .second, .val (.int c_), .val (.int ((Int32.ofNat i) + (1 : Int32)))] [])) (fun _ kt => XT.iincV X.here hx rfl (1 : Int32) (hb hby d1_39) (by decide) rfl (l' := #[.val (.int a), .val (.int b), .val (.long n), .second, .val (.int c_), .val (.int ((Int32.ofNat i) + (1 : Int32)))]) rfl  kt) ?_
          refine Go.by (S' := T.setTop (mkF m 6 #[.val (.int a), .val (.int b), .val (.long n), .second, .val (.int c_), .val (.int ((Int32.ofNat i) + (1 : Int32)))] [])) (fun _ kt => XS.goto X.here hx rfl (pc0 := 42) (pc' := 6) rfl (hb hby d1_42) (by decide) (by decide)  kt) ?_
          rw [own_ofNat_succ]
          exact ih (i + 1) _ _ _ (by omega) X eT NT (by rw [← hW, combI_even _ ((shr_odd n (by omega)).mp hc23_152)])
        · refine Go.by (S' := T.setTop (mkF m 26 #[.val (.int a), .val (.int b), .val (.long n), .second, .val (.int c_), .val (.int (Int32.ofNat i))] [])) (fun _ kt => XS.ifNo X.here hx rfl (hb hby d1_23) rfl (XT.ll_eq_f hc23_152)  kt) ?_
          refine Go.by (S' := T.setTop (mkF m 28 #[.val (.int a), .val (.int b), .val (.long n), .second, .val (.int c_), .val (.int (Int32.ofNat i))] [(.int c_)])) (fun _ kt => XS.iload X.here hx rfl (hb hby d1_26) rfl  kt) ?_
          obtain ⟨T153, X153, e153, st153⟩ := getS2 X hx hZ hown (host := "") (Or.inl (hw _ (List.mem_of_getElem? (i := 5) rfl))) Via.refl eT S (g := (mkF m 28 #[.val (.int a), .val (.int b), .val (.long n), .second, .val (.int c_), .val (.int (Int32.ofNat i))] [(.int c_)])) rfl (hb hby d1_28)
          refine Go.by (S' := T153.setTop (mkF m 31 #[.val (.int a), .val (.int b), .val (.long n), .second, .val (.int c_), .val (.int (Int32.ofNat i))] [(.ref tp), (.int c_)])) st153 ?_
          refine Go.by (S' := T153.setTop (mkF m 33 #[.val (.int a), .val (.int b), .val (.long n), .second, .val (.int c_), .val (.int (Int32.ofNat i))] [(.int (Int32.ofNat i)), (.ref tp), (.int c_)])) (fun _ kt => XS.iload X153.here hx rfl (hb hby d1_31) rfl  kt) ?_
          have hb62 : i ≤ 62 := lt_of_div (fun q => hc12_151 ((shr_zero n (by omega)).mpr q)) hN
          refine Go.by (S' := T153.setTop (mkF m 34 #[.val (.int a), .val (.int b), .val (.long n), .second, .val (.int c_), .val (.int (Int32.ofNat i))] [(.int (powI i)), (.int c_)])) (fun _ kt => X153.iaload hx (j := Int32.ofNat i) (v := .int (powI i)) (by rw [e153]; exact A.1) (State.isArrayOf_alike hZ.alike A.2.1) A.2.2 (own_in sz hb62) (by rw [own_idx hb62]; exact H i hb62) (g := (mkF m 33 #[.val (.int a), .val (.int b), .val (.long n), .second, .val (.int c_), .val (.int (Int32.ofNat i))] [(.int (Int32.ofNat i)), (.ref tp), (.int c_)])) rfl rfl (hb hby d1_33) _ kt) ?_
          obtain ⟨_, _, ⟨T154, L154, k154, n154⟩, -, X154, ⟨Lc154, hQ154, l154, y154, z154⟩, st154⟩ := Jvm.LawKit.callS X153 hx (y := (⟨"drainline/Crc32cCombine", "multiply", "(II)I"⟩ : MethodName)) hown (mvT hZ (hw _ (List.mem_of_getElem? (i := 7) rfl))) (mvT hZ (hw _ (List.mem_of_getElem? (i := 8) rfl))) (mvT hZ (hw _ (List.mem_of_getElem? (i := 3) rfl))) (mvT hZ (hw _ (List.mem_of_getElem? (i := 9) rfl))) (by decide) (backOf (W := 0) (rm2 l Z a0 hw [] c_ (powI i) h0 n0) hZ (hw _ (List.mem_of_getElem? (i := 9) rfl)) (hw _ (List.mem_of_getElem? (i := 3) rfl)) (by decide) (by decide)) (g := (mkF m 34 #[.val (.int a), .val (.int b), .val (.long n), .second, .val (.int c_), .val (.int (Int32.ofNat i))] [(.int (powI i)), (.int c_)])) rfl (by rw [hml]; rfl) (argsL := [(.int c_), (.int (powI i))]) (rest := []) (lenOf pd_1 rfl) rfl (by show 2 * 0 + _ ≤ _; exact Nat.le_of_eq rfl) (hb hby d1_34) (fun _ _ => ⟨rfl, e153, (by decide : 0 + 0 ≤ _), (by decide : 0 + 0 ≤ _)⟩)
          dsimp only [Pt.U, Pt.locs, Pt.cells, Pt.slots] at X154 l154 y154 z154 st154 hQ154
          subst l154 y154 z154
          obtain ⟨rfl, N154q, e154⟩ := hQ154
          have N154 := Fr.app NT N154q
          refine Go.by (S' := T154.setTop (mkF m 37 #[.val (.int a), .val (.int b), .val (.long n), .second, .val (.int c_), .val (.int (Int32.ofNat i))] [(.int (mulI 32 c_ 0 (powI i)))])) st154 ?_
          refine Go.by (S' := T154.setTop (mkF m 39 #[.val (.int a), .val (.int b), .val (.long n), .second, .val (.int (mulI 32 c_ 0 (powI i))), .val (.int (Int32.ofNat i))] [])) (fun _ kt => XS.istore X154.here hx rfl (hb hby d1_37) rfl (l' := #[.val (.int a), .val (.int b), .val (.long n), .second, .val (.int (mulI 32 c_ 0 (powI i))), .val (.int (Int32.ofNat i))]) rfl  kt) ?_
          refine Go.by (S' := T154.setTop (mkF m 42 #[.val (.int a), .val (.int b), .val (.long n), .second, .val (.int (mulI 32 c_ 0 (powI i))), .val (.int ((Int32.ofNat i) + (1 : Int32)))] [])) (fun _ kt => XT.iincV X154.here hx rfl (1 : Int32) (hb hby d1_39) (by decide) rfl (l' := #[.val (.int a), .val (.int b), .val (.long n), .second, .val (.int (mulI 32 c_ 0 (powI i))), .val (.int ((Int32.ofNat i) + (1 : Int32)))]) rfl  kt) ?_
          refine Go.by (S' := T154.setTop (mkF m 6 #[.val (.int a), .val (.int b), .val (.long n), .second, .val (.int (mulI 32 c_ 0 (powI i))), .val (.int ((Int32.ofNat i) + (1 : Int32)))] [])) (fun _ kt => XS.goto X154.here hx rfl (pc0 := 42) (pc' := 6) rfl (hb hby d1_42) (by decide) (by decide)  kt) ?_
          rw [own_ofNat_succ]
          exact ih (i + 1) _ _ _ (by omega) X154 e154 N154 (by rw [← hW, combI_odd _ hb62 (fun q => hc23_152 ((shr_odd n (by omega)).mpr q))])
  refine goIn (ef_rm1 m a b n) ?_
  refine Go.by (S' := s₁.setTop (mkF m 1 #[.val (.int a), .val (.int b), .val (.long n), .second, .unset, .unset] [(.int a)])) (fun _ kt => XS.iloadN X0.here hx rfl (hb hby d1_0) rfl  kt) ?_
  refine Go.by (S' := s₁.setTop (mkF m 3 #[.val (.int a), .val (.int b), .val (.long n), .second, .val (.int a), .unset] [])) (fun _ kt => XS.istore X0.here hx rfl (hb hby d1_1) rfl (l' := #[.val (.int a), .val (.int b), .val (.long n), .second, .val (.int a), .unset]) rfl  kt) ?_
  refine Go.by (S' := s₁.setTop (mkF m 4 #[.val (.int a), .val (.int b), .val (.long n), .second, .val (.int a), .unset] [(.int (0 : Int32))])) (fun _ kt => XT.iconstV X0.here hx rfl (0 : Int32) (hb hby d1_3) (by decide)  kt) ?_
  refine Go.by (S' := s₁.setTop (mkF m 6 #[.val (.int a), .val (.int b), .val (.long n), .second, .val (.int a), .val (.int (0 : Int32))] [])) (fun _ kt => XS.istore X0.here hx rfl (hb hby d1_4) rfl (l' := #[.val (.int a), .val (.int b), .val (.long n), .second, .val (.int a), .val (.int (0 : Int32))]) rfl  kt) ?_
  exact loop 63 0 a _ _ rfl X0 e0 N0 (combI_start _ _)
theorem own_zero (a b : Int32) : itI (8 * nat64 0) a ^^^ b = a ^^^ b := by rw [show nat64 0 = 0 from by decide]; rfl
theorem own_one (a b : Int32) : itI (8 * nat64 1) a ^^^ b = itI 8 a ^^^ b := by rw [show nat64 1 = 1 from by decide]
theorem own_two (a b : Int32) : itI (8 * nat64 2) a ^^^ b = itI 8 (itI 8 a) ^^^ b := by rw [show nat64 2 = 2 from by decide, ← itI_add]
theorem own_second (n : Int64) (a b : Int32) : itI (8 * nat64 n) a ^^^ b = (itI (8 * nat64 n) a ^^^ 0) ^^^ b := by rw [Int32.xor_zero]
theorem own_add (m n : Int64) (a : Int32) (hm : nat64 m < 2 ^ 62) (hn : nat64 n < 2 ^ 62) : itI (8 * nat64 n) (itI (8 * nat64 m) a ^^^ 0) ^^^ 0 = itI (8 * nat64 (m + n)) a ^^^ 0 := by
  simp only [Int32.xor_zero]
  rw [← itI_add, nat_add hm hn, Nat.mul_add]
theorem own_lin (n : Int64) (a c : Int32) : itI (8 * nat64 n) (a ^^^ c) ^^^ 0 = (itI (8 * nat64 n) a ^^^ 0) ^^^ (itI (8 * nat64 n) c ^^^ 0) := by
  simp only [Int32.xor_zero]
  rw [itI_xor]
def LawQ (n0 : Nat) (v : Option Value) (h : Heap) (L : List Loc) : Prop := v = some (.int 1) ∧ Fr n0 L
theorem ef_rm0 (m : MethodId) (x0 : Int32) (x1 : Int32) (x2 : Int32) (x3 : Int64) (x4 : Int64) : entryFrame m #[(.int x0), (.int x1), (.int x2), (.long x3), (.long x4)] maxLocals = mkF m 0 #[.val (.int x0), .val (.int x1), .val (.int x2), .val (.long x3), .second, .val (.long x4), .second, .unset, .unset, .unset, .unset, .unset, .unset, .unset, .unset, .unset, .unset, .unset] [] := by first | (simp [entryFrame, mkF, argsToLocals, Value.category, maxLocals]; done) | rfl
theorem pn_rm0 : plainName "drainline/Crc32cCombineCombinePinLaw" = true := by first | (simp [plainName, overriddenIn]; done) | decide +kernel
set_option maxRecDepth 65536 in
set_option maxHeartbeats 40000000 in
theorem rm0 (l : Launch) (Z : State) (a0 : Array Value) (hw : ∀ d ∈ tables_1, d.before a0 Z = true) (ws : List Jvm.Cond) (a : Int32) (b : Int32) (c_ : Int32) (q3 : Int64) (q4 : Int64) (tp : Addr) (cl : Cell) (h0 : Heap) (n0 : Nat) (S : Sta Z h0 "drainline/Crc32cCombine" "POWERS" "[I" (.ref tp)) (A : Arr Z h0 tp cl .int) (sz : cl.slots.size = 63) (H : ∀ b, b ≤ 62 → cl.slots[b]? = some (.int (powI b))) :
    MetFree l x (head1 (Jvm.Cond.code x code maxLocals ret :: ws) room_1) (fun aa U => aa = #[(.int a), (.int b), (.int c_), (.long q3), (.long q4)] ∧ Z.Warmed39 U.vm ∧ U.heap = h0) (fun _ _ _ _ _ => True) (fun _ U o U' => ∃ v L, o = .returned v ∧ LawQ n0 v U'.heap L ∧ FrameEnd U o U' L room_1.cells room_1.slots) := by
  refine MetFree.of_bodySF (plainFor_of_name pn_rm0) hisR ?_
  intro p e s m args below meth c s₁ Bd hml0 hP hK
  obtain ⟨rfl, hZ, hh⟩ := hP
  have hx := Bd.exec
  have hby := Bd.bytes
  have hml : c.maxLocals = 18 := hml0
  have hown : s.vm.findClass "drainline/Crc32cCombineCombinePinLaw" = some m.cls := findClass_of_methodNamed Bd.named
  have hnm := (name_of_methodNamed Bd.named Bd.method).1
  have X0 : Stand p l e room_1 s m #[(.int a), (.int b), (.int c_), (.long q3), (.long q4)] below meth c s₁ [] 0 0 := Stand.of_body Bd
  have e0 : s₁.heap = h0 := by rw [← hh, Bd.state]; rfl
  have N0 := Fr.nil n0
  refine goIn (ef_rm0 m a b c_ q3 q4) ?_
  refine Go.by (S' := s₁.setTop (mkF m 1 #[.val (.int a), .val (.int b), .val (.int c_), .val (.long q3), .second, .val (.long q4), .second, .unset, .unset, .unset, .unset, .unset, .unset, .unset, .unset, .unset, .unset, .unset] [(.long q3)])) (fun _ kt => XS.lloadN X0.here hx rfl (hb hby at_0) rfl  kt) ?_
  refine Go.by (S' := s₁.setTop (mkF m 4 #[.val (.int a), .val (.int b), .val (.int c_), .val (.long q3), .second, .val (.long q4), .second, .unset, .unset, .unset, .unset, .unset, .unset, .unset, .unset, .unset, .unset, .unset] [(.long (4611686018427387903 : Int64)), (.long q3)])) (X0.ldc2Long hx hown (mvT hZ (hw _ (List.mem_of_getElem? (i := 0) rfl))) (g := (mkF m 1 #[.val (.int a), .val (.int b), .val (.int c_), .val (.long q3), .second, .val (.long q4), .second, .unset, .unset, .unset, .unset, .unset, .unset, .unset, .unset, .unset, .unset, .unset] [(.long q3)])) rfl (hb hby at_1)) ?_
  refine Go.by (S' := s₁.setTop (mkF m 5 #[.val (.int a), .val (.int b), .val (.int c_), .val (.long q3), .second, .val (.long q4), .second, .unset, .unset, .unset, .unset, .unset, .unset, .unset, .unset, .unset, .unset, .unset] [(.long (q3 &&& (4611686018427387903 : Int64)))])) (fun _ kt => XS.land X0.here hx rfl (hb hby at_4) rfl  kt) ?_
  have hm := mask62 q3
  generalize (q3 &&& (4611686018427387903 : Int64)) = m_ at hm ⊢
  refine Go.by (S' := s₁.setTop (mkF m 7 #[.val (.int a), .val (.int b), .val (.int c_), .val (.long q3), .second, .val (.long q4), .second, .val (.long m_), .second, .unset, .unset, .unset, .unset, .unset, .unset, .unset, .unset, .unset] [])) (fun _ kt => XS.lstore X0.here hx rfl (hb hby at_5) rfl (l' := #[.val (.int a), .val (.int b), .val (.int c_), .val (.long q3), .second, .val (.long q4), .second, .val (.long m_), .second, .unset, .unset, .unset, .unset, .unset, .unset, .unset, .unset, .unset]) rfl  kt) ?_
  refine Go.by (S' := s₁.setTop (mkF m 9 #[.val (.int a), .val (.int b), .val (.int c_), .val (.long q3), .second, .val (.long q4), .second, .val (.long m_), .second, .unset, .unset, .unset, .unset, .unset, .unset, .unset, .unset, .unset] [(.long q4)])) (fun _ kt => XS.lload X0.here hx rfl (hb hby at_7) rfl  kt) ?_
  refine Go.by (S' := s₁.setTop (mkF m 12 #[.val (.int a), .val (.int b), .val (.int c_), .val (.long q3), .second, .val (.long q4), .second, .val (.long m_), .second, .unset, .unset, .unset, .unset, .unset, .unset, .unset, .unset, .unset] [(.long (4611686018427387903 : Int64)), (.long q4)])) (X0.ldc2Long hx hown (mvT hZ (hw _ (List.mem_of_getElem? (i := 0) rfl))) (g := (mkF m 9 #[.val (.int a), .val (.int b), .val (.int c_), .val (.long q3), .second, .val (.long q4), .second, .val (.long m_), .second, .unset, .unset, .unset, .unset, .unset, .unset, .unset, .unset, .unset] [(.long q4)])) rfl (hb hby at_9)) ?_
  refine Go.by (S' := s₁.setTop (mkF m 13 #[.val (.int a), .val (.int b), .val (.int c_), .val (.long q3), .second, .val (.long q4), .second, .val (.long m_), .second, .unset, .unset, .unset, .unset, .unset, .unset, .unset, .unset, .unset] [(.long (q4 &&& (4611686018427387903 : Int64)))])) (fun _ kt => XS.land X0.here hx rfl (hb hby at_12) rfl  kt) ?_
  have hn := mask62 q4
  generalize (q4 &&& (4611686018427387903 : Int64)) = n_ at hn ⊢
  refine Go.by (S' := s₁.setTop (mkF m 15 #[.val (.int a), .val (.int b), .val (.int c_), .val (.long q3), .second, .val (.long q4), .second, .val (.long m_), .second, .val (.long n_), .second, .unset, .unset, .unset, .unset, .unset, .unset, .unset] [])) (fun _ kt => XS.lstore X0.here hx rfl (hb hby at_13) rfl (l' := #[.val (.int a), .val (.int b), .val (.int c_), .val (.long q3), .second, .val (.long q4), .second, .val (.long m_), .second, .val (.long n_), .second, .unset, .unset, .unset, .unset, .unset, .unset, .unset]) rfl  kt) ?_
  refine Go.by (S' := s₁.setTop (mkF m 16 #[.val (.int a), .val (.int b), .val (.int c_), .val (.long q3), .second, .val (.long q4), .second, .val (.long m_), .second, .val (.long n_), .second, .unset, .unset, .unset, .unset, .unset, .unset, .unset] [(.int a)])) (fun _ kt => XS.iloadN X0.here hx rfl (hb hby at_15) rfl  kt) ?_
  refine Go.by (S' := s₁.setTop (mkF m 17 #[.val (.int a), .val (.int b), .val (.int c_), .val (.long q3), .second, .val (.long q4), .second, .val (.long m_), .second, .val (.long n_), .second, .unset, .unset, .unset, .unset, .unset, .unset, .unset] [(.int b), (.int a)])) (fun _ kt => XS.iloadN X0.here hx rfl (hb hby at_16) rfl  kt) ?_
  refine Go.by (S' := s₁.setTop (mkF m 18 #[.val (.int a), .val (.int b), .val (.int c_), .val (.long q3), .second, .val (.long q4), .second, .val (.long m_), .second, .val (.long n_), .second, .unset, .unset, .unset, .unset, .unset, .unset, .unset] [(.long (0 : Int64)), (.int b), (.int a)])) (fun _ kt => XT.lconstV X0.here hx rfl (0 : Int64) (hb hby at_17) (by decide)  kt) ?_
  obtain ⟨_, _, ⟨T1, L1, k1, n1⟩, -, X1, ⟨Lc1, hQ1, l1, y1, z1⟩, st1⟩ := Jvm.LawKit.callS X0 hx (y := (⟨"drainline/Crc32cCombine", "combine", "(IIJ)I"⟩ : MethodName)) hown (mvT hZ (hw _ (List.mem_of_getElem? (i := 1) rfl))) (mvT hZ (hw _ (List.mem_of_getElem? (i := 2) rfl))) (mvT hZ (hw _ (List.mem_of_getElem? (i := 3) rfl))) (mvT hZ (hw _ (List.mem_of_getElem? (i := 4) rfl))) (by decide) (backOf (W := 0) (rm1 l Z a0 hw [] a b (0 : Int64) tp cl h0 n0 S A sz H (by decide)) hZ (hw _ (List.mem_of_getElem? (i := 4) rfl)) (hw _ (List.mem_of_getElem? (i := 3) rfl)) (by decide) (by decide)) (g := (mkF m 18 #[.val (.int a), .val (.int b), .val (.int c_), .val (.long q3), .second, .val (.long q4), .second, .val (.long m_), .second, .val (.long n_), .second, .unset, .unset, .unset, .unset, .unset, .unset, .unset] [(.long (0 : Int64)), (.int b), (.int a)])) rfl (by rw [hml]; rfl) (argsL := [(.int a), (.int b), (.long (0 : Int64))]) (rest := []) (lenOf pd_0 rfl) rfl (by show 2 * 0 + _ ≤ _; exact Nat.le_of_eq rfl) (hb hby at_18) (fun _ _ => ⟨rfl, e0, (by decide : 0 + 0 ≤ _), (by decide : 0 + 0 ≤ _)⟩)
  dsimp only [Pt.U, Pt.locs, Pt.cells, Pt.slots] at X1 l1 y1 z1 st1 hQ1
  subst l1 y1 z1
  obtain ⟨rfl, N1q, e1⟩ := hQ1
  have N1 := Fr.app N0 N1q
  refine Go.by (S' := T1.setTop (mkF m 21 #[.val (.int a), .val (.int b), .val (.int c_), .val (.long q3), .second, .val (.long q4), .second, .val (.long m_), .second, .val (.long n_), .second, .unset, .unset, .unset, .unset, .unset, .unset, .unset] [(.int (itI (8 * nat64 (0 : Int64)) a ^^^ b))])) st1 ?_
  refine Go.by (S' := T1.setTop (mkF m 22 #[.val (.int a), .val (.int b), .val (.int c_), .val (.long q3), .second, .val (.long q4), .second, .val (.long m_), .second, .val (.long n_), .second, .unset, .unset, .unset, .unset, .unset, .unset, .unset] [(.int a), (.int (itI (8 * nat64 (0 : Int64)) a ^^^ b))])) (fun _ kt => XS.iloadN X1.here hx rfl (hb hby at_21) rfl  kt) ?_
  refine Go.by (S' := T1.setTop (mkF m 23 #[.val (.int a), .val (.int b), .val (.int c_), .val (.long q3), .second, .val (.long q4), .second, .val (.long m_), .second, .val (.long n_), .second, .unset, .unset, .unset, .unset, .unset, .unset, .unset] [(.int b), (.int a), (.int (itI (8 * nat64 (0 : Int64)) a ^^^ b))])) (fun _ kt => XS.iloadN X1.here hx rfl (hb hby at_22) rfl  kt) ?_
  refine Go.by (S' := T1.setTop (mkF m 24 #[.val (.int a), .val (.int b), .val (.int c_), .val (.long q3), .second, .val (.long q4), .second, .val (.long m_), .second, .val (.long n_), .second, .unset, .unset, .unset, .unset, .unset, .unset, .unset] [(.int (a ^^^ b)), (.int (itI (8 * nat64 (0 : Int64)) a ^^^ b))])) (fun _ kt => XS.ixor X1.here hx rfl (hb hby at_23) rfl  kt) ?_
  refine Go.by (S' := T1.setTop (mkF m 27 #[.val (.int a), .val (.int b), .val (.int c_), .val (.long q3), .second, .val (.long q4), .second, .val (.long m_), .second, .val (.long n_), .second, .unset, .unset, .unset, .unset, .unset, .unset, .unset] [])) (fun _ kt => XS.icmpNo X1.here hx rfl (hb hby at_24) rfl (XT.ii_ne_f (own_zero a b))  kt) ?_
  refine Go.by (S' := T1.setTop (mkF m 28 #[.val (.int a), .val (.int b), .val (.int c_), .val (.long q3), .second, .val (.long q4), .second, .val (.long m_), .second, .val (.long n_), .second, .unset, .unset, .unset, .unset, .unset, .unset, .unset] [(.int (1 : Int32))])) (fun _ kt => XT.iconstV X1.here hx rfl (1 : Int32) (hb hby at_27) (by decide)  kt) ?_
  refine Go.by (S' := T1.setTop (mkF m 32 #[.val (.int a), .val (.int b), .val (.int c_), .val (.long q3), .second, .val (.long q4), .second, .val (.long m_), .second, .val (.long n_), .second, .unset, .unset, .unset, .unset, .unset, .unset, .unset] [(.int (1 : Int32))])) (fun _ kt => XS.goto X1.here hx rfl (pc0 := 28) (pc' := 32) rfl (hb hby at_28) (by decide) (by decide)  kt) ?_
  refine Go.by (S' := T1.setTop (mkF m 34 #[.val (.int a), .val (.int b), .val (.int c_), .val (.long q3), .second, .val (.long q4), .second, .val (.long m_), .second, .val (.long n_), .second, .val (.int (1 : Int32)), .unset, .unset, .unset, .unset, .unset, .unset] [])) (fun _ kt => XS.istore X1.here hx rfl (hb hby at_32) rfl (l' := #[.val (.int a), .val (.int b), .val (.int c_), .val (.long q3), .second, .val (.long q4), .second, .val (.long m_), .second, .val (.long n_), .second, .val (.int (1 : Int32)), .unset, .unset, .unset, .unset, .unset, .unset]) rfl  kt) ?_
  refine Go.by (S' := T1.setTop (mkF m 35 #[.val (.int a), .val (.int b), .val (.int c_), .val (.long q3), .second, .val (.long q4), .second, .val (.long m_), .second, .val (.long n_), .second, .val (.int (1 : Int32)), .unset, .unset, .unset, .unset, .unset, .unset] [(.int a)])) (fun _ kt => XS.iloadN X1.here hx rfl (hb hby at_34) rfl  kt) ?_
  refine Go.by (S' := T1.setTop (mkF m 36 #[.val (.int a), .val (.int b), .val (.int c_), .val (.long q3), .second, .val (.long q4), .second, .val (.long m_), .second, .val (.long n_), .second, .val (.int (1 : Int32)), .unset, .unset, .unset, .unset, .unset, .unset] [(.int b), (.int a)])) (fun _ kt => XS.iloadN X1.here hx rfl (hb hby at_35) rfl  kt) ?_
  refine Go.by (S' := T1.setTop (mkF m 37 #[.val (.int a), .val (.int b), .val (.int c_), .val (.long q3), .second, .val (.long q4), .second, .val (.long m_), .second, .val (.long n_), .second, .val (.int (1 : Int32)), .unset, .unset, .unset, .unset, .unset, .unset] [(.long (1 : Int64)), (.int b), (.int a)])) (fun _ kt => XT.lconstV X1.here hx rfl (1 : Int64) (hb hby at_36) (by decide)  kt) ?_
  obtain ⟨_, _, ⟨T2, L2, k2, n2⟩, -, X2, ⟨Lc2, hQ2, l2, y2, z2⟩, st2⟩ := Jvm.LawKit.callS X1 hx (y := (⟨"drainline/Crc32cCombine", "combine", "(IIJ)I"⟩ : MethodName)) hown (mvT hZ (hw _ (List.mem_of_getElem? (i := 1) rfl))) (mvT hZ (hw _ (List.mem_of_getElem? (i := 2) rfl))) (mvT hZ (hw _ (List.mem_of_getElem? (i := 3) rfl))) (mvT hZ (hw _ (List.mem_of_getElem? (i := 4) rfl))) (by decide) (backOf (W := 0) (rm1 l Z a0 hw [] a b (1 : Int64) tp cl h0 n0 S A sz H (by decide)) hZ (hw _ (List.mem_of_getElem? (i := 4) rfl)) (hw _ (List.mem_of_getElem? (i := 3) rfl)) (by decide) (by decide)) (g := (mkF m 37 #[.val (.int a), .val (.int b), .val (.int c_), .val (.long q3), .second, .val (.long q4), .second, .val (.long m_), .second, .val (.long n_), .second, .val (.int (1 : Int32)), .unset, .unset, .unset, .unset, .unset, .unset] [(.long (1 : Int64)), (.int b), (.int a)])) rfl (by rw [hml]; rfl) (argsL := [(.int a), (.int b), (.long (1 : Int64))]) (rest := []) (lenOf pd_0 rfl) rfl (by show 2 * 0 + _ ≤ _; exact Nat.le_of_eq rfl) (hb hby at_37) (fun _ _ => ⟨rfl, e1, (by decide : 0 + 0 ≤ _), (by decide : 0 + 0 ≤ _)⟩)
  dsimp only [Pt.U, Pt.locs, Pt.cells, Pt.slots] at X2 l2 y2 z2 st2 hQ2
  subst l2 y2 z2
  obtain ⟨rfl, N2q, e2⟩ := hQ2
  have N2 := Fr.app N1 N2q
  refine Go.by (S' := T2.setTop (mkF m 40 #[.val (.int a), .val (.int b), .val (.int c_), .val (.long q3), .second, .val (.long q4), .second, .val (.long m_), .second, .val (.long n_), .second, .val (.int (1 : Int32)), .unset, .unset, .unset, .unset, .unset, .unset] [(.int (itI (8 * nat64 (1 : Int64)) a ^^^ b))])) st2 ?_
  refine Go.by (S' := T2.setTop (mkF m 41 #[.val (.int a), .val (.int b), .val (.int c_), .val (.long q3), .second, .val (.long q4), .second, .val (.long m_), .second, .val (.long n_), .second, .val (.int (1 : Int32)), .unset, .unset, .unset, .unset, .unset, .unset] [(.int a), (.int (itI (8 * nat64 (1 : Int64)) a ^^^ b))])) (fun _ kt => XS.iloadN X2.here hx rfl (hb hby at_40) rfl  kt) ?_
  obtain ⟨_, _, ⟨T3, L3, k3, n3⟩, -, X3, ⟨Lc3, hQ3, l3, y3, z3⟩, st3⟩ := Jvm.LawKit.callS X2 hx (y := (⟨"drainline/Crc32cCombineCombinePinLaw", "timesX8", "(I)I"⟩ : MethodName)) hown (mvT hZ (hw _ (List.mem_of_getElem? (i := 11) rfl))) (mvT hZ (hw _ (List.mem_of_getElem? (i := 12) rfl))) (mvT hZ (hw _ (List.mem_of_getElem? (i := 13) rfl))) (mvT hZ (hw _ (List.mem_of_getElem? (i := 14) rfl))) (by decide) (backOf (W := 1) (rm3 l Z a0 hw [] a h0 n0) hZ (hw _ (List.mem_of_getElem? (i := 14) rfl)) (hw _ (List.mem_of_getElem? (i := 13) rfl)) (by decide) (by decide)) (g := (mkF m 41 #[.val (.int a), .val (.int b), .val (.int c_), .val (.long q3), .second, .val (.long q4), .second, .val (.long m_), .second, .val (.long n_), .second, .val (.int (1 : Int32)), .unset, .unset, .unset, .unset, .unset, .unset] [(.int a), (.int (itI (8 * nat64 (1 : Int64)) a ^^^ b))])) rfl (by rw [hml]; rfl) (argsL := [(.int a)]) (rest := [(.int (itI (8 * nat64 (1 : Int64)) a ^^^ b))]) (lenOf pd_2 rfl) rfl (by show 2 * 0 + _ ≤ _; exact Nat.le_of_eq rfl) (hb hby at_41) (fun _ _ => ⟨rfl, e2, (by decide : 0 + 0 ≤ _), (by decide : 0 + 0 ≤ _)⟩)
  dsimp only [Pt.U, Pt.locs, Pt.cells, Pt.slots] at X3 l3 y3 z3 st3 hQ3
  subst l3 y3 z3
  obtain ⟨rfl, N3q, e3⟩ := hQ3
  have N3 := Fr.app N2 N3q
  refine Go.by (S' := T3.setTop (mkF m 44 #[.val (.int a), .val (.int b), .val (.int c_), .val (.long q3), .second, .val (.long q4), .second, .val (.long m_), .second, .val (.long n_), .second, .val (.int (1 : Int32)), .unset, .unset, .unset, .unset, .unset, .unset] [(.int (itI 8 a)), (.int (itI (8 * nat64 (1 : Int64)) a ^^^ b))])) st3 ?_
  refine Go.by (S' := T3.setTop (mkF m 45 #[.val (.int a), .val (.int b), .val (.int c_), .val (.long q3), .second, .val (.long q4), .second, .val (.long m_), .second, .val (.long n_), .second, .val (.int (1 : Int32)), .unset, .unset, .unset, .unset, .unset, .unset] [(.int b), (.int (itI 8 a)), (.int (itI (8 * nat64 (1 : Int64)) a ^^^ b))])) (fun _ kt => XS.iloadN X3.here hx rfl (hb hby at_44) rfl  kt) ?_
  refine Go.by (S' := T3.setTop (mkF m 46 #[.val (.int a), .val (.int b), .val (.int c_), .val (.long q3), .second, .val (.long q4), .second, .val (.long m_), .second, .val (.long n_), .second, .val (.int (1 : Int32)), .unset, .unset, .unset, .unset, .unset, .unset] [(.int ((itI 8 a) ^^^ b)), (.int (itI (8 * nat64 (1 : Int64)) a ^^^ b))])) (fun _ kt => XS.ixor X3.here hx rfl (hb hby at_45) rfl  kt) ?_
  refine Go.by (S' := T3.setTop (mkF m 49 #[.val (.int a), .val (.int b), .val (.int c_), .val (.long q3), .second, .val (.long q4), .second, .val (.long m_), .second, .val (.long n_), .second, .val (.int (1 : Int32)), .unset, .unset, .unset, .unset, .unset, .unset] [])) (fun _ kt => XS.icmpNo X3.here hx rfl (hb hby at_46) rfl (XT.ii_ne_f (own_one a b))  kt) ?_
  refine Go.by (S' := T3.setTop (mkF m 50 #[.val (.int a), .val (.int b), .val (.int c_), .val (.long q3), .second, .val (.long q4), .second, .val (.long m_), .second, .val (.long n_), .second, .val (.int (1 : Int32)), .unset, .unset, .unset, .unset, .unset, .unset] [(.int (1 : Int32))])) (fun _ kt => XT.iconstV X3.here hx rfl (1 : Int32) (hb hby at_49) (by decide)  kt) ?_
  refine Go.by (S' := T3.setTop (mkF m 54 #[.val (.int a), .val (.int b), .val (.int c_), .val (.long q3), .second, .val (.long q4), .second, .val (.long m_), .second, .val (.long n_), .second, .val (.int (1 : Int32)), .unset, .unset, .unset, .unset, .unset, .unset] [(.int (1 : Int32))])) (fun _ kt => XS.goto X3.here hx rfl (pc0 := 50) (pc' := 54) rfl (hb hby at_50) (by decide) (by decide)  kt) ?_
  refine Go.by (S' := T3.setTop (mkF m 56 #[.val (.int a), .val (.int b), .val (.int c_), .val (.long q3), .second, .val (.long q4), .second, .val (.long m_), .second, .val (.long n_), .second, .val (.int (1 : Int32)), .val (.int (1 : Int32)), .unset, .unset, .unset, .unset, .unset] [])) (fun _ kt => XS.istore X3.here hx rfl (hb hby at_54) rfl (l' := #[.val (.int a), .val (.int b), .val (.int c_), .val (.long q3), .second, .val (.long q4), .second, .val (.long m_), .second, .val (.long n_), .second, .val (.int (1 : Int32)), .val (.int (1 : Int32)), .unset, .unset, .unset, .unset, .unset]) rfl  kt) ?_
  refine Go.by (S' := T3.setTop (mkF m 57 #[.val (.int a), .val (.int b), .val (.int c_), .val (.long q3), .second, .val (.long q4), .second, .val (.long m_), .second, .val (.long n_), .second, .val (.int (1 : Int32)), .val (.int (1 : Int32)), .unset, .unset, .unset, .unset, .unset] [(.int a)])) (fun _ kt => XS.iloadN X3.here hx rfl (hb hby at_56) rfl  kt) ?_
  refine Go.by (S' := T3.setTop (mkF m 58 #[.val (.int a), .val (.int b), .val (.int c_), .val (.long q3), .second, .val (.long q4), .second, .val (.long m_), .second, .val (.long n_), .second, .val (.int (1 : Int32)), .val (.int (1 : Int32)), .unset, .unset, .unset, .unset, .unset] [(.int b), (.int a)])) (fun _ kt => XS.iloadN X3.here hx rfl (hb hby at_57) rfl  kt) ?_
  refine Go.by (S' := T3.setTop (mkF m 61 #[.val (.int a), .val (.int b), .val (.int c_), .val (.long q3), .second, .val (.long q4), .second, .val (.long m_), .second, .val (.long n_), .second, .val (.int (1 : Int32)), .val (.int (1 : Int32)), .unset, .unset, .unset, .unset, .unset] [(.long (2 : Int64)), (.int b), (.int a)])) (X3.ldc2Long hx hown (mvT hZ (hw _ (List.mem_of_getElem? (i := 18) rfl))) (g := (mkF m 58 #[.val (.int a), .val (.int b), .val (.int c_), .val (.long q3), .second, .val (.long q4), .second, .val (.long m_), .second, .val (.long n_), .second, .val (.int (1 : Int32)), .val (.int (1 : Int32)), .unset, .unset, .unset, .unset, .unset] [(.int b), (.int a)])) rfl (hb hby at_58)) ?_
  obtain ⟨_, _, ⟨T4, L4, k4, n4⟩, -, X4, ⟨Lc4, hQ4, l4, y4, z4⟩, st4⟩ := Jvm.LawKit.callS X3 hx (y := (⟨"drainline/Crc32cCombine", "combine", "(IIJ)I"⟩ : MethodName)) hown (mvT hZ (hw _ (List.mem_of_getElem? (i := 1) rfl))) (mvT hZ (hw _ (List.mem_of_getElem? (i := 2) rfl))) (mvT hZ (hw _ (List.mem_of_getElem? (i := 3) rfl))) (mvT hZ (hw _ (List.mem_of_getElem? (i := 4) rfl))) (by decide) (backOf (W := 0) (rm1 l Z a0 hw [] a b (2 : Int64) tp cl h0 n0 S A sz H (by decide)) hZ (hw _ (List.mem_of_getElem? (i := 4) rfl)) (hw _ (List.mem_of_getElem? (i := 3) rfl)) (by decide) (by decide)) (g := (mkF m 61 #[.val (.int a), .val (.int b), .val (.int c_), .val (.long q3), .second, .val (.long q4), .second, .val (.long m_), .second, .val (.long n_), .second, .val (.int (1 : Int32)), .val (.int (1 : Int32)), .unset, .unset, .unset, .unset, .unset] [(.long (2 : Int64)), (.int b), (.int a)])) rfl (by rw [hml]; rfl) (argsL := [(.int a), (.int b), (.long (2 : Int64))]) (rest := []) (lenOf pd_0 rfl) rfl (by show 2 * 0 + _ ≤ _; exact Nat.le_of_eq rfl) (hb hby at_61) (fun _ _ => ⟨rfl, e3, (by decide : 0 + 0 ≤ _), (by decide : 0 + 0 ≤ _)⟩)
  dsimp only [Pt.U, Pt.locs, Pt.cells, Pt.slots] at X4 l4 y4 z4 st4 hQ4
  subst l4 y4 z4
  obtain ⟨rfl, N4q, e4⟩ := hQ4
  have N4 := Fr.app N3 N4q
  refine Go.by (S' := T4.setTop (mkF m 64 #[.val (.int a), .val (.int b), .val (.int c_), .val (.long q3), .second, .val (.long q4), .second, .val (.long m_), .second, .val (.long n_), .second, .val (.int (1 : Int32)), .val (.int (1 : Int32)), .unset, .unset, .unset, .unset, .unset] [(.int (itI (8 * nat64 (2 : Int64)) a ^^^ b))])) st4 ?_
  refine Go.by (S' := T4.setTop (mkF m 65 #[.val (.int a), .val (.int b), .val (.int c_), .val (.long q3), .second, .val (.long q4), .second, .val (.long m_), .second, .val (.long n_), .second, .val (.int (1 : Int32)), .val (.int (1 : Int32)), .unset, .unset, .unset, .unset, .unset] [(.int a), (.int (itI (8 * nat64 (2 : Int64)) a ^^^ b))])) (fun _ kt => XS.iloadN X4.here hx rfl (hb hby at_64) rfl  kt) ?_
  obtain ⟨_, _, ⟨T5, L5, k5, n5⟩, -, X5, ⟨Lc5, hQ5, l5, y5, z5⟩, st5⟩ := Jvm.LawKit.callS X4 hx (y := (⟨"drainline/Crc32cCombineCombinePinLaw", "timesX8", "(I)I"⟩ : MethodName)) hown (mvT hZ (hw _ (List.mem_of_getElem? (i := 11) rfl))) (mvT hZ (hw _ (List.mem_of_getElem? (i := 12) rfl))) (mvT hZ (hw _ (List.mem_of_getElem? (i := 13) rfl))) (mvT hZ (hw _ (List.mem_of_getElem? (i := 14) rfl))) (by decide) (backOf (W := 1) (rm3 l Z a0 hw [] a h0 n0) hZ (hw _ (List.mem_of_getElem? (i := 14) rfl)) (hw _ (List.mem_of_getElem? (i := 13) rfl)) (by decide) (by decide)) (g := (mkF m 65 #[.val (.int a), .val (.int b), .val (.int c_), .val (.long q3), .second, .val (.long q4), .second, .val (.long m_), .second, .val (.long n_), .second, .val (.int (1 : Int32)), .val (.int (1 : Int32)), .unset, .unset, .unset, .unset, .unset] [(.int a), (.int (itI (8 * nat64 (2 : Int64)) a ^^^ b))])) rfl (by rw [hml]; rfl) (argsL := [(.int a)]) (rest := [(.int (itI (8 * nat64 (2 : Int64)) a ^^^ b))]) (lenOf pd_2 rfl) rfl (by show 2 * 0 + _ ≤ _; exact Nat.le_of_eq rfl) (hb hby at_65) (fun _ _ => ⟨rfl, e4, (by decide : 0 + 0 ≤ _), (by decide : 0 + 0 ≤ _)⟩)
  dsimp only [Pt.U, Pt.locs, Pt.cells, Pt.slots] at X5 l5 y5 z5 st5 hQ5
  subst l5 y5 z5
  obtain ⟨rfl, N5q, e5⟩ := hQ5
  have N5 := Fr.app N4 N5q
  refine Go.by (S' := T5.setTop (mkF m 68 #[.val (.int a), .val (.int b), .val (.int c_), .val (.long q3), .second, .val (.long q4), .second, .val (.long m_), .second, .val (.long n_), .second, .val (.int (1 : Int32)), .val (.int (1 : Int32)), .unset, .unset, .unset, .unset, .unset] [(.int (itI 8 a)), (.int (itI (8 * nat64 (2 : Int64)) a ^^^ b))])) st5 ?_
  obtain ⟨_, _, ⟨T6, L6, k6, n6⟩, -, X6, ⟨Lc6, hQ6, l6, y6, z6⟩, st6⟩ := Jvm.LawKit.callS X5 hx (y := (⟨"drainline/Crc32cCombineCombinePinLaw", "timesX8", "(I)I"⟩ : MethodName)) hown (mvT hZ (hw _ (List.mem_of_getElem? (i := 11) rfl))) (mvT hZ (hw _ (List.mem_of_getElem? (i := 12) rfl))) (mvT hZ (hw _ (List.mem_of_getElem? (i := 13) rfl))) (mvT hZ (hw _ (List.mem_of_getElem? (i := 14) rfl))) (by decide) (backOf (W := 1) (rm3 l Z a0 hw [] (itI 8 a) h0 n0) hZ (hw _ (List.mem_of_getElem? (i := 14) rfl)) (hw _ (List.mem_of_getElem? (i := 13) rfl)) (by decide) (by decide)) (g := (mkF m 68 #[.val (.int a), .val (.int b), .val (.int c_), .val (.long q3), .second, .val (.long q4), .second, .val (.long m_), .second, .val (.long n_), .second, .val (.int (1 : Int32)), .val (.int (1 : Int32)), .unset, .unset, .unset, .unset, .unset] [(.int (itI 8 a)), (.int (itI (8 * nat64 (2 : Int64)) a ^^^ b))])) rfl (by rw [hml]; rfl) (argsL := [(.int (itI 8 a))]) (rest := [(.int (itI (8 * nat64 (2 : Int64)) a ^^^ b))]) (lenOf pd_2 rfl) rfl (by show 2 * 0 + _ ≤ _; exact Nat.le_of_eq rfl) (hb hby at_68) (fun _ _ => ⟨rfl, e5, (by decide : 0 + 0 ≤ _), (by decide : 0 + 0 ≤ _)⟩)
  dsimp only [Pt.U, Pt.locs, Pt.cells, Pt.slots] at X6 l6 y6 z6 st6 hQ6
  subst l6 y6 z6
  obtain ⟨rfl, N6q, e6⟩ := hQ6
  have N6 := Fr.app N5 N6q
  refine Go.by (S' := T6.setTop (mkF m 71 #[.val (.int a), .val (.int b), .val (.int c_), .val (.long q3), .second, .val (.long q4), .second, .val (.long m_), .second, .val (.long n_), .second, .val (.int (1 : Int32)), .val (.int (1 : Int32)), .unset, .unset, .unset, .unset, .unset] [(.int (itI 8 (itI 8 a))), (.int (itI (8 * nat64 (2 : Int64)) a ^^^ b))])) st6 ?_
  refine Go.by (S' := T6.setTop (mkF m 72 #[.val (.int a), .val (.int b), .val (.int c_), .val (.long q3), .second, .val (.long q4), .second, .val (.long m_), .second, .val (.long n_), .second, .val (.int (1 : Int32)), .val (.int (1 : Int32)), .unset, .unset, .unset, .unset, .unset] [(.int b), (.int (itI 8 (itI 8 a))), (.int (itI (8 * nat64 (2 : Int64)) a ^^^ b))])) (fun _ kt => XS.iloadN X6.here hx rfl (hb hby at_71) rfl  kt) ?_
  refine Go.by (S' := T6.setTop (mkF m 73 #[.val (.int a), .val (.int b), .val (.int c_), .val (.long q3), .second, .val (.long q4), .second, .val (.long m_), .second, .val (.long n_), .second, .val (.int (1 : Int32)), .val (.int (1 : Int32)), .unset, .unset, .unset, .unset, .unset] [(.int ((itI 8 (itI 8 a)) ^^^ b)), (.int (itI (8 * nat64 (2 : Int64)) a ^^^ b))])) (fun _ kt => XS.ixor X6.here hx rfl (hb hby at_72) rfl  kt) ?_
  refine Go.by (S' := T6.setTop (mkF m 76 #[.val (.int a), .val (.int b), .val (.int c_), .val (.long q3), .second, .val (.long q4), .second, .val (.long m_), .second, .val (.long n_), .second, .val (.int (1 : Int32)), .val (.int (1 : Int32)), .unset, .unset, .unset, .unset, .unset] [])) (fun _ kt => XS.icmpNo X6.here hx rfl (hb hby at_73) rfl (XT.ii_ne_f (own_two a b))  kt) ?_
  refine Go.by (S' := T6.setTop (mkF m 77 #[.val (.int a), .val (.int b), .val (.int c_), .val (.long q3), .second, .val (.long q4), .second, .val (.long m_), .second, .val (.long n_), .second, .val (.int (1 : Int32)), .val (.int (1 : Int32)), .unset, .unset, .unset, .unset, .unset] [(.int (1 : Int32))])) (fun _ kt => XT.iconstV X6.here hx rfl (1 : Int32) (hb hby at_76) (by decide)  kt) ?_
  refine Go.by (S' := T6.setTop (mkF m 81 #[.val (.int a), .val (.int b), .val (.int c_), .val (.long q3), .second, .val (.long q4), .second, .val (.long m_), .second, .val (.long n_), .second, .val (.int (1 : Int32)), .val (.int (1 : Int32)), .unset, .unset, .unset, .unset, .unset] [(.int (1 : Int32))])) (fun _ kt => XS.goto X6.here hx rfl (pc0 := 77) (pc' := 81) rfl (hb hby at_77) (by decide) (by decide)  kt) ?_
  refine Go.by (S' := T6.setTop (mkF m 83 #[.val (.int a), .val (.int b), .val (.int c_), .val (.long q3), .second, .val (.long q4), .second, .val (.long m_), .second, .val (.long n_), .second, .val (.int (1 : Int32)), .val (.int (1 : Int32)), .val (.int (1 : Int32)), .unset, .unset, .unset, .unset] [])) (fun _ kt => XS.istore X6.here hx rfl (hb hby at_81) rfl (l' := #[.val (.int a), .val (.int b), .val (.int c_), .val (.long q3), .second, .val (.long q4), .second, .val (.long m_), .second, .val (.long n_), .second, .val (.int (1 : Int32)), .val (.int (1 : Int32)), .val (.int (1 : Int32)), .unset, .unset, .unset, .unset]) rfl  kt) ?_
  refine Go.by (S' := T6.setTop (mkF m 84 #[.val (.int a), .val (.int b), .val (.int c_), .val (.long q3), .second, .val (.long q4), .second, .val (.long m_), .second, .val (.long n_), .second, .val (.int (1 : Int32)), .val (.int (1 : Int32)), .val (.int (1 : Int32)), .unset, .unset, .unset, .unset] [(.int a)])) (fun _ kt => XS.iloadN X6.here hx rfl (hb hby at_83) rfl  kt) ?_
  refine Go.by (S' := T6.setTop (mkF m 85 #[.val (.int a), .val (.int b), .val (.int c_), .val (.long q3), .second, .val (.long q4), .second, .val (.long m_), .second, .val (.long n_), .second, .val (.int (1 : Int32)), .val (.int (1 : Int32)), .val (.int (1 : Int32)), .unset, .unset, .unset, .unset] [(.int (0 : Int32)), (.int a)])) (fun _ kt => XT.iconstV X6.here hx rfl (0 : Int32) (hb hby at_84) (by decide)  kt) ?_
  refine Go.by (S' := T6.setTop (mkF m 87 #[.val (.int a), .val (.int b), .val (.int c_), .val (.long q3), .second, .val (.long q4), .second, .val (.long m_), .second, .val (.long n_), .second, .val (.int (1 : Int32)), .val (.int (1 : Int32)), .val (.int (1 : Int32)), .unset, .unset, .unset, .unset] [(.long m_), (.int (0 : Int32)), (.int a)])) (fun _ kt => XS.lload X6.here hx rfl (hb hby at_85) rfl  kt) ?_
  obtain ⟨_, _, ⟨T7, L7, k7, n7⟩, -, X7, ⟨Lc7, hQ7, l7, y7, z7⟩, st7⟩ := Jvm.LawKit.callS X6 hx (y := (⟨"drainline/Crc32cCombine", "combine", "(IIJ)I"⟩ : MethodName)) hown (mvT hZ (hw _ (List.mem_of_getElem? (i := 1) rfl))) (mvT hZ (hw _ (List.mem_of_getElem? (i := 2) rfl))) (mvT hZ (hw _ (List.mem_of_getElem? (i := 3) rfl))) (mvT hZ (hw _ (List.mem_of_getElem? (i := 4) rfl))) (by decide) (backOf (W := 0) (rm1 l Z a0 hw [] a (0 : Int32) m_ tp cl h0 n0 S A sz H (Nat.lt_of_lt_of_le hm (by decide))) hZ (hw _ (List.mem_of_getElem? (i := 4) rfl)) (hw _ (List.mem_of_getElem? (i := 3) rfl)) (by decide) (by decide)) (g := (mkF m 87 #[.val (.int a), .val (.int b), .val (.int c_), .val (.long q3), .second, .val (.long q4), .second, .val (.long m_), .second, .val (.long n_), .second, .val (.int (1 : Int32)), .val (.int (1 : Int32)), .val (.int (1 : Int32)), .unset, .unset, .unset, .unset] [(.long m_), (.int (0 : Int32)), (.int a)])) rfl (by rw [hml]; rfl) (argsL := [(.int a), (.int (0 : Int32)), (.long m_)]) (rest := []) (lenOf pd_0 rfl) rfl (by show 2 * 0 + _ ≤ _; exact Nat.le_of_eq rfl) (hb hby at_87) (fun _ _ => ⟨rfl, e6, (by decide : 0 + 0 ≤ _), (by decide : 0 + 0 ≤ _)⟩)
  dsimp only [Pt.U, Pt.locs, Pt.cells, Pt.slots] at X7 l7 y7 z7 st7 hQ7
  subst l7 y7 z7
  obtain ⟨rfl, N7q, e7⟩ := hQ7
  have N7 := Fr.app N6 N7q
  refine Go.by (S' := T7.setTop (mkF m 90 #[.val (.int a), .val (.int b), .val (.int c_), .val (.long q3), .second, .val (.long q4), .second, .val (.long m_), .second, .val (.long n_), .second, .val (.int (1 : Int32)), .val (.int (1 : Int32)), .val (.int (1 : Int32)), .unset, .unset, .unset, .unset] [(.int (itI (8 * nat64 m_) a ^^^ (0 : Int32)))])) st7 ?_
  refine Go.by (S' := T7.setTop (mkF m 92 #[.val (.int a), .val (.int b), .val (.int c_), .val (.long q3), .second, .val (.long q4), .second, .val (.long m_), .second, .val (.long n_), .second, .val (.int (1 : Int32)), .val (.int (1 : Int32)), .val (.int (1 : Int32)), .val (.int (itI (8 * nat64 m_) a ^^^ (0 : Int32))), .unset, .unset, .unset] [])) (fun _ kt => XS.istore X7.here hx rfl (hb hby at_90) rfl (l' := #[.val (.int a), .val (.int b), .val (.int c_), .val (.long q3), .second, .val (.long q4), .second, .val (.long m_), .second, .val (.long n_), .second, .val (.int (1 : Int32)), .val (.int (1 : Int32)), .val (.int (1 : Int32)), .val (.int (itI (8 * nat64 m_) a ^^^ (0 : Int32))), .unset, .unset, .unset]) rfl  kt) ?_
  refine Go.by (S' := T7.setTop (mkF m 93 #[.val (.int a), .val (.int b), .val (.int c_), .val (.long q3), .second, .val (.long q4), .second, .val (.long m_), .second, .val (.long n_), .second, .val (.int (1 : Int32)), .val (.int (1 : Int32)), .val (.int (1 : Int32)), .val (.int (itI (8 * nat64 m_) a ^^^ (0 : Int32))), .unset, .unset, .unset] [(.int a)])) (fun _ kt => XS.iloadN X7.here hx rfl (hb hby at_92) rfl  kt) ?_
  refine Go.by (S' := T7.setTop (mkF m 94 #[.val (.int a), .val (.int b), .val (.int c_), .val (.long q3), .second, .val (.long q4), .second, .val (.long m_), .second, .val (.long n_), .second, .val (.int (1 : Int32)), .val (.int (1 : Int32)), .val (.int (1 : Int32)), .val (.int (itI (8 * nat64 m_) a ^^^ (0 : Int32))), .unset, .unset, .unset] [(.int b), (.int a)])) (fun _ kt => XS.iloadN X7.here hx rfl (hb hby at_93) rfl  kt) ?_
  refine Go.by (S' := T7.setTop (mkF m 96 #[.val (.int a), .val (.int b), .val (.int c_), .val (.long q3), .second, .val (.long q4), .second, .val (.long m_), .second, .val (.long n_), .second, .val (.int (1 : Int32)), .val (.int (1 : Int32)), .val (.int (1 : Int32)), .val (.int (itI (8 * nat64 m_) a ^^^ (0 : Int32))), .unset, .unset, .unset] [(.long m_), (.int b), (.int a)])) (fun _ kt => XS.lload X7.here hx rfl (hb hby at_94) rfl  kt) ?_
  obtain ⟨_, _, ⟨T8, L8, k8, n8⟩, -, X8, ⟨Lc8, hQ8, l8, y8, z8⟩, st8⟩ := Jvm.LawKit.callS X7 hx (y := (⟨"drainline/Crc32cCombine", "combine", "(IIJ)I"⟩ : MethodName)) hown (mvT hZ (hw _ (List.mem_of_getElem? (i := 1) rfl))) (mvT hZ (hw _ (List.mem_of_getElem? (i := 2) rfl))) (mvT hZ (hw _ (List.mem_of_getElem? (i := 3) rfl))) (mvT hZ (hw _ (List.mem_of_getElem? (i := 4) rfl))) (by decide) (backOf (W := 0) (rm1 l Z a0 hw [] a b m_ tp cl h0 n0 S A sz H (Nat.lt_of_lt_of_le hm (by decide))) hZ (hw _ (List.mem_of_getElem? (i := 4) rfl)) (hw _ (List.mem_of_getElem? (i := 3) rfl)) (by decide) (by decide)) (g := (mkF m 96 #[.val (.int a), .val (.int b), .val (.int c_), .val (.long q3), .second, .val (.long q4), .second, .val (.long m_), .second, .val (.long n_), .second, .val (.int (1 : Int32)), .val (.int (1 : Int32)), .val (.int (1 : Int32)), .val (.int (itI (8 * nat64 m_) a ^^^ (0 : Int32))), .unset, .unset, .unset] [(.long m_), (.int b), (.int a)])) rfl (by rw [hml]; rfl) (argsL := [(.int a), (.int b), (.long m_)]) (rest := []) (lenOf pd_0 rfl) rfl (by show 2 * 0 + _ ≤ _; exact Nat.le_of_eq rfl) (hb hby at_96) (fun _ _ => ⟨rfl, e7, (by decide : 0 + 0 ≤ _), (by decide : 0 + 0 ≤ _)⟩)
  dsimp only [Pt.U, Pt.locs, Pt.cells, Pt.slots] at X8 l8 y8 z8 st8 hQ8
  subst l8 y8 z8
  obtain ⟨rfl, N8q, e8⟩ := hQ8
  have N8 := Fr.app N7 N8q
  refine Go.by (S' := T8.setTop (mkF m 99 #[.val (.int a), .val (.int b), .val (.int c_), .val (.long q3), .second, .val (.long q4), .second, .val (.long m_), .second, .val (.long n_), .second, .val (.int (1 : Int32)), .val (.int (1 : Int32)), .val (.int (1 : Int32)), .val (.int (itI (8 * nat64 m_) a ^^^ (0 : Int32))), .unset, .unset, .unset] [(.int (itI (8 * nat64 m_) a ^^^ b))])) st8 ?_
  refine Go.by (S' := T8.setTop (mkF m 101 #[.val (.int a), .val (.int b), .val (.int c_), .val (.long q3), .second, .val (.long q4), .second, .val (.long m_), .second, .val (.long n_), .second, .val (.int (1 : Int32)), .val (.int (1 : Int32)), .val (.int (1 : Int32)), .val (.int (itI (8 * nat64 m_) a ^^^ (0 : Int32))), .unset, .unset, .unset] [(.int (itI (8 * nat64 m_) a ^^^ (0 : Int32))), (.int (itI (8 * nat64 m_) a ^^^ b))])) (fun _ kt => XS.iload X8.here hx rfl (hb hby at_99) rfl  kt) ?_
  refine Go.by (S' := T8.setTop (mkF m 102 #[.val (.int a), .val (.int b), .val (.int c_), .val (.long q3), .second, .val (.long q4), .second, .val (.long m_), .second, .val (.long n_), .second, .val (.int (1 : Int32)), .val (.int (1 : Int32)), .val (.int (1 : Int32)), .val (.int (itI (8 * nat64 m_) a ^^^ (0 : Int32))), .unset, .unset, .unset] [(.int b), (.int (itI (8 * nat64 m_) a ^^^ (0 : Int32))), (.int (itI (8 * nat64 m_) a ^^^ b))])) (fun _ kt => XS.iloadN X8.here hx rfl (hb hby at_101) rfl  kt) ?_
  refine Go.by (S' := T8.setTop (mkF m 103 #[.val (.int a), .val (.int b), .val (.int c_), .val (.long q3), .second, .val (.long q4), .second, .val (.long m_), .second, .val (.long n_), .second, .val (.int (1 : Int32)), .val (.int (1 : Int32)), .val (.int (1 : Int32)), .val (.int (itI (8 * nat64 m_) a ^^^ (0 : Int32))), .unset, .unset, .unset] [(.int ((itI (8 * nat64 m_) a ^^^ (0 : Int32)) ^^^ b)), (.int (itI (8 * nat64 m_) a ^^^ b))])) (fun _ kt => XS.ixor X8.here hx rfl (hb hby at_102) rfl  kt) ?_
  refine Go.by (S' := T8.setTop (mkF m 106 #[.val (.int a), .val (.int b), .val (.int c_), .val (.long q3), .second, .val (.long q4), .second, .val (.long m_), .second, .val (.long n_), .second, .val (.int (1 : Int32)), .val (.int (1 : Int32)), .val (.int (1 : Int32)), .val (.int (itI (8 * nat64 m_) a ^^^ (0 : Int32))), .unset, .unset, .unset] [])) (fun _ kt => XS.icmpNo X8.here hx rfl (hb hby at_103) rfl (XT.ii_ne_f (own_second m_ a b))  kt) ?_
  refine Go.by (S' := T8.setTop (mkF m 107 #[.val (.int a), .val (.int b), .val (.int c_), .val (.long q3), .second, .val (.long q4), .second, .val (.long m_), .second, .val (.long n_), .second, .val (.int (1 : Int32)), .val (.int (1 : Int32)), .val (.int (1 : Int32)), .val (.int (itI (8 * nat64 m_) a ^^^ (0 : Int32))), .unset, .unset, .unset] [(.int (1 : Int32))])) (fun _ kt => XT.iconstV X8.here hx rfl (1 : Int32) (hb hby at_106) (by decide)  kt) ?_
  refine Go.by (S' := T8.setTop (mkF m 111 #[.val (.int a), .val (.int b), .val (.int c_), .val (.long q3), .second, .val (.long q4), .second, .val (.long m_), .second, .val (.long n_), .second, .val (.int (1 : Int32)), .val (.int (1 : Int32)), .val (.int (1 : Int32)), .val (.int (itI (8 * nat64 m_) a ^^^ (0 : Int32))), .unset, .unset, .unset] [(.int (1 : Int32))])) (fun _ kt => XS.goto X8.here hx rfl (pc0 := 107) (pc' := 111) rfl (hb hby at_107) (by decide) (by decide)  kt) ?_
  refine Go.by (S' := T8.setTop (mkF m 113 #[.val (.int a), .val (.int b), .val (.int c_), .val (.long q3), .second, .val (.long q4), .second, .val (.long m_), .second, .val (.long n_), .second, .val (.int (1 : Int32)), .val (.int (1 : Int32)), .val (.int (1 : Int32)), .val (.int (itI (8 * nat64 m_) a ^^^ (0 : Int32))), .val (.int (1 : Int32)), .unset, .unset] [])) (fun _ kt => XS.istore X8.here hx rfl (hb hby at_111) rfl (l' := #[.val (.int a), .val (.int b), .val (.int c_), .val (.long q3), .second, .val (.long q4), .second, .val (.long m_), .second, .val (.long n_), .second, .val (.int (1 : Int32)), .val (.int (1 : Int32)), .val (.int (1 : Int32)), .val (.int (itI (8 * nat64 m_) a ^^^ (0 : Int32))), .val (.int (1 : Int32)), .unset, .unset]) rfl  kt) ?_
  refine Go.by (S' := T8.setTop (mkF m 115 #[.val (.int a), .val (.int b), .val (.int c_), .val (.long q3), .second, .val (.long q4), .second, .val (.long m_), .second, .val (.long n_), .second, .val (.int (1 : Int32)), .val (.int (1 : Int32)), .val (.int (1 : Int32)), .val (.int (itI (8 * nat64 m_) a ^^^ (0 : Int32))), .val (.int (1 : Int32)), .unset, .unset] [(.int (itI (8 * nat64 m_) a ^^^ (0 : Int32)))])) (fun _ kt => XS.iload X8.here hx rfl (hb hby at_113) rfl  kt) ?_
  refine Go.by (S' := T8.setTop (mkF m 116 #[.val (.int a), .val (.int b), .val (.int c_), .val (.long q3), .second, .val (.long q4), .second, .val (.long m_), .second, .val (.long n_), .second, .val (.int (1 : Int32)), .val (.int (1 : Int32)), .val (.int (1 : Int32)), .val (.int (itI (8 * nat64 m_) a ^^^ (0 : Int32))), .val (.int (1 : Int32)), .unset, .unset] [(.int (0 : Int32)), (.int (itI (8 * nat64 m_) a ^^^ (0 : Int32)))])) (fun _ kt => XT.iconstV X8.here hx rfl (0 : Int32) (hb hby at_115) (by decide)  kt) ?_
  refine Go.by (S' := T8.setTop (mkF m 118 #[.val (.int a), .val (.int b), .val (.int c_), .val (.long q3), .second, .val (.long q4), .second, .val (.long m_), .second, .val (.long n_), .second, .val (.int (1 : Int32)), .val (.int (1 : Int32)), .val (.int (1 : Int32)), .val (.int (itI (8 * nat64 m_) a ^^^ (0 : Int32))), .val (.int (1 : Int32)), .unset, .unset] [(.long n_), (.int (0 : Int32)), (.int (itI (8 * nat64 m_) a ^^^ (0 : Int32)))])) (fun _ kt => XS.lload X8.here hx rfl (hb hby at_116) rfl  kt) ?_
  obtain ⟨_, _, ⟨T9, L9, k9, n9⟩, -, X9, ⟨Lc9, hQ9, l9, y9, z9⟩, st9⟩ := Jvm.LawKit.callS X8 hx (y := (⟨"drainline/Crc32cCombine", "combine", "(IIJ)I"⟩ : MethodName)) hown (mvT hZ (hw _ (List.mem_of_getElem? (i := 1) rfl))) (mvT hZ (hw _ (List.mem_of_getElem? (i := 2) rfl))) (mvT hZ (hw _ (List.mem_of_getElem? (i := 3) rfl))) (mvT hZ (hw _ (List.mem_of_getElem? (i := 4) rfl))) (by decide) (backOf (W := 0) (rm1 l Z a0 hw [] (itI (8 * nat64 m_) a ^^^ (0 : Int32)) (0 : Int32) n_ tp cl h0 n0 S A sz H (Nat.lt_of_lt_of_le hn (by decide))) hZ (hw _ (List.mem_of_getElem? (i := 4) rfl)) (hw _ (List.mem_of_getElem? (i := 3) rfl)) (by decide) (by decide)) (g := (mkF m 118 #[.val (.int a), .val (.int b), .val (.int c_), .val (.long q3), .second, .val (.long q4), .second, .val (.long m_), .second, .val (.long n_), .second, .val (.int (1 : Int32)), .val (.int (1 : Int32)), .val (.int (1 : Int32)), .val (.int (itI (8 * nat64 m_) a ^^^ (0 : Int32))), .val (.int (1 : Int32)), .unset, .unset] [(.long n_), (.int (0 : Int32)), (.int (itI (8 * nat64 m_) a ^^^ (0 : Int32)))])) rfl (by rw [hml]; rfl) (argsL := [(.int (itI (8 * nat64 m_) a ^^^ (0 : Int32))), (.int (0 : Int32)), (.long n_)]) (rest := []) (lenOf pd_0 rfl) rfl (by show 2 * 0 + _ ≤ _; exact Nat.le_of_eq rfl) (hb hby at_118) (fun _ _ => ⟨rfl, e8, (by decide : 0 + 0 ≤ _), (by decide : 0 + 0 ≤ _)⟩)
  dsimp only [Pt.U, Pt.locs, Pt.cells, Pt.slots] at X9 l9 y9 z9 st9 hQ9
  subst l9 y9 z9
  obtain ⟨rfl, N9q, e9⟩ := hQ9
  have N9 := Fr.app N8 N9q
  refine Go.by (S' := T9.setTop (mkF m 121 #[.val (.int a), .val (.int b), .val (.int c_), .val (.long q3), .second, .val (.long q4), .second, .val (.long m_), .second, .val (.long n_), .second, .val (.int (1 : Int32)), .val (.int (1 : Int32)), .val (.int (1 : Int32)), .val (.int (itI (8 * nat64 m_) a ^^^ (0 : Int32))), .val (.int (1 : Int32)), .unset, .unset] [(.int (itI (8 * nat64 n_) (itI (8 * nat64 m_) a ^^^ (0 : Int32)) ^^^ (0 : Int32)))])) st9 ?_
  refine Go.by (S' := T9.setTop (mkF m 122 #[.val (.int a), .val (.int b), .val (.int c_), .val (.long q3), .second, .val (.long q4), .second, .val (.long m_), .second, .val (.long n_), .second, .val (.int (1 : Int32)), .val (.int (1 : Int32)), .val (.int (1 : Int32)), .val (.int (itI (8 * nat64 m_) a ^^^ (0 : Int32))), .val (.int (1 : Int32)), .unset, .unset] [(.int a), (.int (itI (8 * nat64 n_) (itI (8 * nat64 m_) a ^^^ (0 : Int32)) ^^^ (0 : Int32)))])) (fun _ kt => XS.iloadN X9.here hx rfl (hb hby at_121) rfl  kt) ?_
  refine Go.by (S' := T9.setTop (mkF m 123 #[.val (.int a), .val (.int b), .val (.int c_), .val (.long q3), .second, .val (.long q4), .second, .val (.long m_), .second, .val (.long n_), .second, .val (.int (1 : Int32)), .val (.int (1 : Int32)), .val (.int (1 : Int32)), .val (.int (itI (8 * nat64 m_) a ^^^ (0 : Int32))), .val (.int (1 : Int32)), .unset, .unset] [(.int (0 : Int32)), (.int a), (.int (itI (8 * nat64 n_) (itI (8 * nat64 m_) a ^^^ (0 : Int32)) ^^^ (0 : Int32)))])) (fun _ kt => XT.iconstV X9.here hx rfl (0 : Int32) (hb hby at_122) (by decide)  kt) ?_
  refine Go.by (S' := T9.setTop (mkF m 125 #[.val (.int a), .val (.int b), .val (.int c_), .val (.long q3), .second, .val (.long q4), .second, .val (.long m_), .second, .val (.long n_), .second, .val (.int (1 : Int32)), .val (.int (1 : Int32)), .val (.int (1 : Int32)), .val (.int (itI (8 * nat64 m_) a ^^^ (0 : Int32))), .val (.int (1 : Int32)), .unset, .unset] [(.long m_), (.int (0 : Int32)), (.int a), (.int (itI (8 * nat64 n_) (itI (8 * nat64 m_) a ^^^ (0 : Int32)) ^^^ (0 : Int32)))])) (fun _ kt => XS.lload X9.here hx rfl (hb hby at_123) rfl  kt) ?_
  refine Go.by (S' := T9.setTop (mkF m 127 #[.val (.int a), .val (.int b), .val (.int c_), .val (.long q3), .second, .val (.long q4), .second, .val (.long m_), .second, .val (.long n_), .second, .val (.int (1 : Int32)), .val (.int (1 : Int32)), .val (.int (1 : Int32)), .val (.int (itI (8 * nat64 m_) a ^^^ (0 : Int32))), .val (.int (1 : Int32)), .unset, .unset] [(.long n_), (.long m_), (.int (0 : Int32)), (.int a), (.int (itI (8 * nat64 n_) (itI (8 * nat64 m_) a ^^^ (0 : Int32)) ^^^ (0 : Int32)))])) (fun _ kt => XS.lload X9.here hx rfl (hb hby at_125) rfl  kt) ?_
  refine Go.by (S' := T9.setTop (mkF m 128 #[.val (.int a), .val (.int b), .val (.int c_), .val (.long q3), .second, .val (.long q4), .second, .val (.long m_), .second, .val (.long n_), .second, .val (.int (1 : Int32)), .val (.int (1 : Int32)), .val (.int (1 : Int32)), .val (.int (itI (8 * nat64 m_) a ^^^ (0 : Int32))), .val (.int (1 : Int32)), .unset, .unset] [(.long (m_ + n_)), (.int (0 : Int32)), (.int a), (.int (itI (8 * nat64 n_) (itI (8 * nat64 m_) a ^^^ (0 : Int32)) ^^^ (0 : Int32)))])) (fun _ kt => XS.ladd X9.here hx rfl (hb hby at_127) rfl  kt) ?_
  obtain ⟨_, _, ⟨T10, L10, k10, n10⟩, -, X10, ⟨Lc10, hQ10, l10, y10, z10⟩, st10⟩ := Jvm.LawKit.callS X9 hx (y := (⟨"drainline/Crc32cCombine", "combine", "(IIJ)I"⟩ : MethodName)) hown (mvT hZ (hw _ (List.mem_of_getElem? (i := 1) rfl))) (mvT hZ (hw _ (List.mem_of_getElem? (i := 2) rfl))) (mvT hZ (hw _ (List.mem_of_getElem? (i := 3) rfl))) (mvT hZ (hw _ (List.mem_of_getElem? (i := 4) rfl))) (by decide) (backOf (W := 1) (rm1 l Z a0 hw [] a (0 : Int32) (m_ + n_) tp cl h0 n0 S A sz H (by rw [nat_add hm hn]; omega)) hZ (hw _ (List.mem_of_getElem? (i := 4) rfl)) (hw _ (List.mem_of_getElem? (i := 3) rfl)) (by decide) (by decide)) (g := (mkF m 128 #[.val (.int a), .val (.int b), .val (.int c_), .val (.long q3), .second, .val (.long q4), .second, .val (.long m_), .second, .val (.long n_), .second, .val (.int (1 : Int32)), .val (.int (1 : Int32)), .val (.int (1 : Int32)), .val (.int (itI (8 * nat64 m_) a ^^^ (0 : Int32))), .val (.int (1 : Int32)), .unset, .unset] [(.long (m_ + n_)), (.int (0 : Int32)), (.int a), (.int (itI (8 * nat64 n_) (itI (8 * nat64 m_) a ^^^ (0 : Int32)) ^^^ (0 : Int32)))])) rfl (by rw [hml]; rfl) (argsL := [(.int a), (.int (0 : Int32)), (.long (m_ + n_))]) (rest := [(.int (itI (8 * nat64 n_) (itI (8 * nat64 m_) a ^^^ (0 : Int32)) ^^^ (0 : Int32)))]) (lenOf pd_0 rfl) rfl (by show 2 * 0 + _ ≤ _; exact Nat.le_of_eq rfl) (hb hby at_128) (fun _ _ => ⟨rfl, e9, (by decide : 0 + 0 ≤ _), (by decide : 0 + 0 ≤ _)⟩)
  dsimp only [Pt.U, Pt.locs, Pt.cells, Pt.slots] at X10 l10 y10 z10 st10 hQ10
  subst l10 y10 z10
  obtain ⟨rfl, N10q, e10⟩ := hQ10
  have N10 := Fr.app N9 N10q
  refine Go.by (S' := T10.setTop (mkF m 131 #[.val (.int a), .val (.int b), .val (.int c_), .val (.long q3), .second, .val (.long q4), .second, .val (.long m_), .second, .val (.long n_), .second, .val (.int (1 : Int32)), .val (.int (1 : Int32)), .val (.int (1 : Int32)), .val (.int (itI (8 * nat64 m_) a ^^^ (0 : Int32))), .val (.int (1 : Int32)), .unset, .unset] [(.int (itI (8 * nat64 (m_ + n_)) a ^^^ (0 : Int32))), (.int (itI (8 * nat64 n_) (itI (8 * nat64 m_) a ^^^ (0 : Int32)) ^^^ (0 : Int32)))])) st10 ?_
  refine Go.by (S' := T10.setTop (mkF m 134 #[.val (.int a), .val (.int b), .val (.int c_), .val (.long q3), .second, .val (.long q4), .second, .val (.long m_), .second, .val (.long n_), .second, .val (.int (1 : Int32)), .val (.int (1 : Int32)), .val (.int (1 : Int32)), .val (.int (itI (8 * nat64 m_) a ^^^ (0 : Int32))), .val (.int (1 : Int32)), .unset, .unset] [])) (fun _ kt => XS.icmpNo X10.here hx rfl (hb hby at_131) rfl (XT.ii_ne_f (own_add m_ n_ a hm hn))  kt) ?_
  refine Go.by (S' := T10.setTop (mkF m 135 #[.val (.int a), .val (.int b), .val (.int c_), .val (.long q3), .second, .val (.long q4), .second, .val (.long m_), .second, .val (.long n_), .second, .val (.int (1 : Int32)), .val (.int (1 : Int32)), .val (.int (1 : Int32)), .val (.int (itI (8 * nat64 m_) a ^^^ (0 : Int32))), .val (.int (1 : Int32)), .unset, .unset] [(.int (1 : Int32))])) (fun _ kt => XT.iconstV X10.here hx rfl (1 : Int32) (hb hby at_134) (by decide)  kt) ?_
  refine Go.by (S' := T10.setTop (mkF m 139 #[.val (.int a), .val (.int b), .val (.int c_), .val (.long q3), .second, .val (.long q4), .second, .val (.long m_), .second, .val (.long n_), .second, .val (.int (1 : Int32)), .val (.int (1 : Int32)), .val (.int (1 : Int32)), .val (.int (itI (8 * nat64 m_) a ^^^ (0 : Int32))), .val (.int (1 : Int32)), .unset, .unset] [(.int (1 : Int32))])) (fun _ kt => XS.goto X10.here hx rfl (pc0 := 135) (pc' := 139) rfl (hb hby at_135) (by decide) (by decide)  kt) ?_
  refine Go.by (S' := T10.setTop (mkF m 141 #[.val (.int a), .val (.int b), .val (.int c_), .val (.long q3), .second, .val (.long q4), .second, .val (.long m_), .second, .val (.long n_), .second, .val (.int (1 : Int32)), .val (.int (1 : Int32)), .val (.int (1 : Int32)), .val (.int (itI (8 * nat64 m_) a ^^^ (0 : Int32))), .val (.int (1 : Int32)), .val (.int (1 : Int32)), .unset] [])) (fun _ kt => XS.istore X10.here hx rfl (hb hby at_139) rfl (l' := #[.val (.int a), .val (.int b), .val (.int c_), .val (.long q3), .second, .val (.long q4), .second, .val (.long m_), .second, .val (.long n_), .second, .val (.int (1 : Int32)), .val (.int (1 : Int32)), .val (.int (1 : Int32)), .val (.int (itI (8 * nat64 m_) a ^^^ (0 : Int32))), .val (.int (1 : Int32)), .val (.int (1 : Int32)), .unset]) rfl  kt) ?_
  refine Go.by (S' := T10.setTop (mkF m 142 #[.val (.int a), .val (.int b), .val (.int c_), .val (.long q3), .second, .val (.long q4), .second, .val (.long m_), .second, .val (.long n_), .second, .val (.int (1 : Int32)), .val (.int (1 : Int32)), .val (.int (1 : Int32)), .val (.int (itI (8 * nat64 m_) a ^^^ (0 : Int32))), .val (.int (1 : Int32)), .val (.int (1 : Int32)), .unset] [(.int a)])) (fun _ kt => XS.iloadN X10.here hx rfl (hb hby at_141) rfl  kt) ?_
  refine Go.by (S' := T10.setTop (mkF m 143 #[.val (.int a), .val (.int b), .val (.int c_), .val (.long q3), .second, .val (.long q4), .second, .val (.long m_), .second, .val (.long n_), .second, .val (.int (1 : Int32)), .val (.int (1 : Int32)), .val (.int (1 : Int32)), .val (.int (itI (8 * nat64 m_) a ^^^ (0 : Int32))), .val (.int (1 : Int32)), .val (.int (1 : Int32)), .unset] [(.int c_), (.int a)])) (fun _ kt => XS.iloadN X10.here hx rfl (hb hby at_142) rfl  kt) ?_
  refine Go.by (S' := T10.setTop (mkF m 144 #[.val (.int a), .val (.int b), .val (.int c_), .val (.long q3), .second, .val (.long q4), .second, .val (.long m_), .second, .val (.long n_), .second, .val (.int (1 : Int32)), .val (.int (1 : Int32)), .val (.int (1 : Int32)), .val (.int (itI (8 * nat64 m_) a ^^^ (0 : Int32))), .val (.int (1 : Int32)), .val (.int (1 : Int32)), .unset] [(.int (a ^^^ c_))])) (fun _ kt => XS.ixor X10.here hx rfl (hb hby at_143) rfl  kt) ?_
  refine Go.by (S' := T10.setTop (mkF m 145 #[.val (.int a), .val (.int b), .val (.int c_), .val (.long q3), .second, .val (.long q4), .second, .val (.long m_), .second, .val (.long n_), .second, .val (.int (1 : Int32)), .val (.int (1 : Int32)), .val (.int (1 : Int32)), .val (.int (itI (8 * nat64 m_) a ^^^ (0 : Int32))), .val (.int (1 : Int32)), .val (.int (1 : Int32)), .unset] [(.int (0 : Int32)), (.int (a ^^^ c_))])) (fun _ kt => XT.iconstV X10.here hx rfl (0 : Int32) (hb hby at_144) (by decide)  kt) ?_
  refine Go.by (S' := T10.setTop (mkF m 147 #[.val (.int a), .val (.int b), .val (.int c_), .val (.long q3), .second, .val (.long q4), .second, .val (.long m_), .second, .val (.long n_), .second, .val (.int (1 : Int32)), .val (.int (1 : Int32)), .val (.int (1 : Int32)), .val (.int (itI (8 * nat64 m_) a ^^^ (0 : Int32))), .val (.int (1 : Int32)), .val (.int (1 : Int32)), .unset] [(.long n_), (.int (0 : Int32)), (.int (a ^^^ c_))])) (fun _ kt => XS.lload X10.here hx rfl (hb hby at_145) rfl  kt) ?_
  obtain ⟨_, _, ⟨T11, L11, k11, n11⟩, -, X11, ⟨Lc11, hQ11, l11, y11, z11⟩, st11⟩ := Jvm.LawKit.callS X10 hx (y := (⟨"drainline/Crc32cCombine", "combine", "(IIJ)I"⟩ : MethodName)) hown (mvT hZ (hw _ (List.mem_of_getElem? (i := 1) rfl))) (mvT hZ (hw _ (List.mem_of_getElem? (i := 2) rfl))) (mvT hZ (hw _ (List.mem_of_getElem? (i := 3) rfl))) (mvT hZ (hw _ (List.mem_of_getElem? (i := 4) rfl))) (by decide) (backOf (W := 0) (rm1 l Z a0 hw [] (a ^^^ c_) (0 : Int32) n_ tp cl h0 n0 S A sz H (Nat.lt_of_lt_of_le hn (by decide))) hZ (hw _ (List.mem_of_getElem? (i := 4) rfl)) (hw _ (List.mem_of_getElem? (i := 3) rfl)) (by decide) (by decide)) (g := (mkF m 147 #[.val (.int a), .val (.int b), .val (.int c_), .val (.long q3), .second, .val (.long q4), .second, .val (.long m_), .second, .val (.long n_), .second, .val (.int (1 : Int32)), .val (.int (1 : Int32)), .val (.int (1 : Int32)), .val (.int (itI (8 * nat64 m_) a ^^^ (0 : Int32))), .val (.int (1 : Int32)), .val (.int (1 : Int32)), .unset] [(.long n_), (.int (0 : Int32)), (.int (a ^^^ c_))])) rfl (by rw [hml]; rfl) (argsL := [(.int (a ^^^ c_)), (.int (0 : Int32)), (.long n_)]) (rest := []) (lenOf pd_0 rfl) rfl (by show 2 * 0 + _ ≤ _; exact Nat.le_of_eq rfl) (hb hby at_147) (fun _ _ => ⟨rfl, e10, (by decide : 0 + 0 ≤ _), (by decide : 0 + 0 ≤ _)⟩)
  dsimp only [Pt.U, Pt.locs, Pt.cells, Pt.slots] at X11 l11 y11 z11 st11 hQ11
  subst l11 y11 z11
  obtain ⟨rfl, N11q, e11⟩ := hQ11
  have N11 := Fr.app N10 N11q
  refine Go.by (S' := T11.setTop (mkF m 150 #[.val (.int a), .val (.int b), .val (.int c_), .val (.long q3), .second, .val (.long q4), .second, .val (.long m_), .second, .val (.long n_), .second, .val (.int (1 : Int32)), .val (.int (1 : Int32)), .val (.int (1 : Int32)), .val (.int (itI (8 * nat64 m_) a ^^^ (0 : Int32))), .val (.int (1 : Int32)), .val (.int (1 : Int32)), .unset] [(.int (itI (8 * nat64 n_) (a ^^^ c_) ^^^ (0 : Int32)))])) st11 ?_
  refine Go.by (S' := T11.setTop (mkF m 151 #[.val (.int a), .val (.int b), .val (.int c_), .val (.long q3), .second, .val (.long q4), .second, .val (.long m_), .second, .val (.long n_), .second, .val (.int (1 : Int32)), .val (.int (1 : Int32)), .val (.int (1 : Int32)), .val (.int (itI (8 * nat64 m_) a ^^^ (0 : Int32))), .val (.int (1 : Int32)), .val (.int (1 : Int32)), .unset] [(.int a), (.int (itI (8 * nat64 n_) (a ^^^ c_) ^^^ (0 : Int32)))])) (fun _ kt => XS.iloadN X11.here hx rfl (hb hby at_150) rfl  kt) ?_
  refine Go.by (S' := T11.setTop (mkF m 152 #[.val (.int a), .val (.int b), .val (.int c_), .val (.long q3), .second, .val (.long q4), .second, .val (.long m_), .second, .val (.long n_), .second, .val (.int (1 : Int32)), .val (.int (1 : Int32)), .val (.int (1 : Int32)), .val (.int (itI (8 * nat64 m_) a ^^^ (0 : Int32))), .val (.int (1 : Int32)), .val (.int (1 : Int32)), .unset] [(.int (0 : Int32)), (.int a), (.int (itI (8 * nat64 n_) (a ^^^ c_) ^^^ (0 : Int32)))])) (fun _ kt => XT.iconstV X11.here hx rfl (0 : Int32) (hb hby at_151) (by decide)  kt) ?_
  refine Go.by (S' := T11.setTop (mkF m 154 #[.val (.int a), .val (.int b), .val (.int c_), .val (.long q3), .second, .val (.long q4), .second, .val (.long m_), .second, .val (.long n_), .second, .val (.int (1 : Int32)), .val (.int (1 : Int32)), .val (.int (1 : Int32)), .val (.int (itI (8 * nat64 m_) a ^^^ (0 : Int32))), .val (.int (1 : Int32)), .val (.int (1 : Int32)), .unset] [(.long n_), (.int (0 : Int32)), (.int a), (.int (itI (8 * nat64 n_) (a ^^^ c_) ^^^ (0 : Int32)))])) (fun _ kt => XS.lload X11.here hx rfl (hb hby at_152) rfl  kt) ?_
  obtain ⟨_, _, ⟨T12, L12, k12, n12⟩, -, X12, ⟨Lc12, hQ12, l12, y12, z12⟩, st12⟩ := Jvm.LawKit.callS X11 hx (y := (⟨"drainline/Crc32cCombine", "combine", "(IIJ)I"⟩ : MethodName)) hown (mvT hZ (hw _ (List.mem_of_getElem? (i := 1) rfl))) (mvT hZ (hw _ (List.mem_of_getElem? (i := 2) rfl))) (mvT hZ (hw _ (List.mem_of_getElem? (i := 3) rfl))) (mvT hZ (hw _ (List.mem_of_getElem? (i := 4) rfl))) (by decide) (backOf (W := 1) (rm1 l Z a0 hw [] a (0 : Int32) n_ tp cl h0 n0 S A sz H (Nat.lt_of_lt_of_le hn (by decide))) hZ (hw _ (List.mem_of_getElem? (i := 4) rfl)) (hw _ (List.mem_of_getElem? (i := 3) rfl)) (by decide) (by decide)) (g := (mkF m 154 #[.val (.int a), .val (.int b), .val (.int c_), .val (.long q3), .second, .val (.long q4), .second, .val (.long m_), .second, .val (.long n_), .second, .val (.int (1 : Int32)), .val (.int (1 : Int32)), .val (.int (1 : Int32)), .val (.int (itI (8 * nat64 m_) a ^^^ (0 : Int32))), .val (.int (1 : Int32)), .val (.int (1 : Int32)), .unset] [(.long n_), (.int (0 : Int32)), (.int a), (.int (itI (8 * nat64 n_) (a ^^^ c_) ^^^ (0 : Int32)))])) rfl (by rw [hml]; rfl) (argsL := [(.int a), (.int (0 : Int32)), (.long n_)]) (rest := [(.int (itI (8 * nat64 n_) (a ^^^ c_) ^^^ (0 : Int32)))]) (lenOf pd_0 rfl) rfl (by show 2 * 0 + _ ≤ _; exact Nat.le_of_eq rfl) (hb hby at_154) (fun _ _ => ⟨rfl, e11, (by decide : 0 + 0 ≤ _), (by decide : 0 + 0 ≤ _)⟩)
  dsimp only [Pt.U, Pt.locs, Pt.cells, Pt.slots] at X12 l12 y12 z12 st12 hQ12
  subst l12 y12 z12
  obtain ⟨rfl, N12q, e12⟩ := hQ12
  have N12 := Fr.app N11 N12q
  refine Go.by (S' := T12.setTop (mkF m 157 #[.val (.int a), .val (.int b), .val (.int c_), .val (.long q3), .second, .val (.long q4), .second, .val (.long m_), .second, .val (.long n_), .second, .val (.int (1 : Int32)), .val (.int (1 : Int32)), .val (.int (1 : Int32)), .val (.int (itI (8 * nat64 m_) a ^^^ (0 : Int32))), .val (.int (1 : Int32)), .val (.int (1 : Int32)), .unset] [(.int (itI (8 * nat64 n_) a ^^^ (0 : Int32))), (.int (itI (8 * nat64 n_) (a ^^^ c_) ^^^ (0 : Int32)))])) st12 ?_
  refine Go.by (S' := T12.setTop (mkF m 158 #[.val (.int a), .val (.int b), .val (.int c_), .val (.long q3), .second, .val (.long q4), .second, .val (.long m_), .second, .val (.long n_), .second, .val (.int (1 : Int32)), .val (.int (1 : Int32)), .val (.int (1 : Int32)), .val (.int (itI (8 * nat64 m_) a ^^^ (0 : Int32))), .val (.int (1 : Int32)), .val (.int (1 : Int32)), .unset] [(.int c_), (.int (itI (8 * nat64 n_) a ^^^ (0 : Int32))), (.int (itI (8 * nat64 n_) (a ^^^ c_) ^^^ (0 : Int32)))])) (fun _ kt => XS.iloadN X12.here hx rfl (hb hby at_157) rfl  kt) ?_
  refine Go.by (S' := T12.setTop (mkF m 159 #[.val (.int a), .val (.int b), .val (.int c_), .val (.long q3), .second, .val (.long q4), .second, .val (.long m_), .second, .val (.long n_), .second, .val (.int (1 : Int32)), .val (.int (1 : Int32)), .val (.int (1 : Int32)), .val (.int (itI (8 * nat64 m_) a ^^^ (0 : Int32))), .val (.int (1 : Int32)), .val (.int (1 : Int32)), .unset] [(.int (0 : Int32)), (.int c_), (.int (itI (8 * nat64 n_) a ^^^ (0 : Int32))), (.int (itI (8 * nat64 n_) (a ^^^ c_) ^^^ (0 : Int32)))])) (fun _ kt => XT.iconstV X12.here hx rfl (0 : Int32) (hb hby at_158) (by decide)  kt) ?_
  refine Go.by (S' := T12.setTop (mkF m 161 #[.val (.int a), .val (.int b), .val (.int c_), .val (.long q3), .second, .val (.long q4), .second, .val (.long m_), .second, .val (.long n_), .second, .val (.int (1 : Int32)), .val (.int (1 : Int32)), .val (.int (1 : Int32)), .val (.int (itI (8 * nat64 m_) a ^^^ (0 : Int32))), .val (.int (1 : Int32)), .val (.int (1 : Int32)), .unset] [(.long n_), (.int (0 : Int32)), (.int c_), (.int (itI (8 * nat64 n_) a ^^^ (0 : Int32))), (.int (itI (8 * nat64 n_) (a ^^^ c_) ^^^ (0 : Int32)))])) (fun _ kt => XS.lload X12.here hx rfl (hb hby at_159) rfl  kt) ?_
  obtain ⟨_, _, ⟨T13, L13, k13, n13⟩, -, X13, ⟨Lc13, hQ13, l13, y13, z13⟩, st13⟩ := Jvm.LawKit.callS X12 hx (y := (⟨"drainline/Crc32cCombine", "combine", "(IIJ)I"⟩ : MethodName)) hown (mvT hZ (hw _ (List.mem_of_getElem? (i := 1) rfl))) (mvT hZ (hw _ (List.mem_of_getElem? (i := 2) rfl))) (mvT hZ (hw _ (List.mem_of_getElem? (i := 3) rfl))) (mvT hZ (hw _ (List.mem_of_getElem? (i := 4) rfl))) (by decide) (backOf (W := 2) (rm1 l Z a0 hw [] c_ (0 : Int32) n_ tp cl h0 n0 S A sz H (Nat.lt_of_lt_of_le hn (by decide))) hZ (hw _ (List.mem_of_getElem? (i := 4) rfl)) (hw _ (List.mem_of_getElem? (i := 3) rfl)) (by decide) (by decide)) (g := (mkF m 161 #[.val (.int a), .val (.int b), .val (.int c_), .val (.long q3), .second, .val (.long q4), .second, .val (.long m_), .second, .val (.long n_), .second, .val (.int (1 : Int32)), .val (.int (1 : Int32)), .val (.int (1 : Int32)), .val (.int (itI (8 * nat64 m_) a ^^^ (0 : Int32))), .val (.int (1 : Int32)), .val (.int (1 : Int32)), .unset] [(.long n_), (.int (0 : Int32)), (.int c_), (.int (itI (8 * nat64 n_) a ^^^ (0 : Int32))), (.int (itI (8 * nat64 n_) (a ^^^ c_) ^^^ (0 : Int32)))])) rfl (by rw [hml]; rfl) (argsL := [(.int c_), (.int (0 : Int32)), (.long n_)]) (rest := [(.int (itI (8 * nat64 n_) a ^^^ (0 : Int32))), (.int (itI (8 * nat64 n_) (a ^^^ c_) ^^^ (0 : Int32)))]) (lenOf pd_0 rfl) rfl (by show 2 * 0 + _ ≤ _; exact Nat.le_of_eq rfl) (hb hby at_161) (fun _ _ => ⟨rfl, e12, (by decide : 0 + 0 ≤ _), (by decide : 0 + 0 ≤ _)⟩)
  dsimp only [Pt.U, Pt.locs, Pt.cells, Pt.slots] at X13 l13 y13 z13 st13 hQ13
  subst l13 y13 z13
  obtain ⟨rfl, N13q, e13⟩ := hQ13
  have N13 := Fr.app N12 N13q
  refine Go.by (S' := T13.setTop (mkF m 164 #[.val (.int a), .val (.int b), .val (.int c_), .val (.long q3), .second, .val (.long q4), .second, .val (.long m_), .second, .val (.long n_), .second, .val (.int (1 : Int32)), .val (.int (1 : Int32)), .val (.int (1 : Int32)), .val (.int (itI (8 * nat64 m_) a ^^^ (0 : Int32))), .val (.int (1 : Int32)), .val (.int (1 : Int32)), .unset] [(.int (itI (8 * nat64 n_) c_ ^^^ (0 : Int32))), (.int (itI (8 * nat64 n_) a ^^^ (0 : Int32))), (.int (itI (8 * nat64 n_) (a ^^^ c_) ^^^ (0 : Int32)))])) st13 ?_
  refine Go.by (S' := T13.setTop (mkF m 165 #[.val (.int a), .val (.int b), .val (.int c_), .val (.long q3), .second, .val (.long q4), .second, .val (.long m_), .second, .val (.long n_), .second, .val (.int (1 : Int32)), .val (.int (1 : Int32)), .val (.int (1 : Int32)), .val (.int (itI (8 * nat64 m_) a ^^^ (0 : Int32))), .val (.int (1 : Int32)), .val (.int (1 : Int32)), .unset] [(.int ((itI (8 * nat64 n_) a ^^^ (0 : Int32)) ^^^ (itI (8 * nat64 n_) c_ ^^^ (0 : Int32)))), (.int (itI (8 * nat64 n_) (a ^^^ c_) ^^^ (0 : Int32)))])) (fun _ kt => XS.ixor X13.here hx rfl (hb hby at_164) rfl  kt) ?_
  refine Go.by (S' := T13.setTop (mkF m 168 #[.val (.int a), .val (.int b), .val (.int c_), .val (.long q3), .second, .val (.long q4), .second, .val (.long m_), .second, .val (.long n_), .second, .val (.int (1 : Int32)), .val (.int (1 : Int32)), .val (.int (1 : Int32)), .val (.int (itI (8 * nat64 m_) a ^^^ (0 : Int32))), .val (.int (1 : Int32)), .val (.int (1 : Int32)), .unset] [])) (fun _ kt => XS.icmpNo X13.here hx rfl (hb hby at_165) rfl (XT.ii_ne_f (own_lin n_ a c_))  kt) ?_
  refine Go.by (S' := T13.setTop (mkF m 169 #[.val (.int a), .val (.int b), .val (.int c_), .val (.long q3), .second, .val (.long q4), .second, .val (.long m_), .second, .val (.long n_), .second, .val (.int (1 : Int32)), .val (.int (1 : Int32)), .val (.int (1 : Int32)), .val (.int (itI (8 * nat64 m_) a ^^^ (0 : Int32))), .val (.int (1 : Int32)), .val (.int (1 : Int32)), .unset] [(.int (1 : Int32))])) (fun _ kt => XT.iconstV X13.here hx rfl (1 : Int32) (hb hby at_168) (by decide)  kt) ?_
  refine Go.by (S' := T13.setTop (mkF m 173 #[.val (.int a), .val (.int b), .val (.int c_), .val (.long q3), .second, .val (.long q4), .second, .val (.long m_), .second, .val (.long n_), .second, .val (.int (1 : Int32)), .val (.int (1 : Int32)), .val (.int (1 : Int32)), .val (.int (itI (8 * nat64 m_) a ^^^ (0 : Int32))), .val (.int (1 : Int32)), .val (.int (1 : Int32)), .unset] [(.int (1 : Int32))])) (fun _ kt => XS.goto X13.here hx rfl (pc0 := 169) (pc' := 173) rfl (hb hby at_169) (by decide) (by decide)  kt) ?_
  refine Go.by (S' := T13.setTop (mkF m 175 #[.val (.int a), .val (.int b), .val (.int c_), .val (.long q3), .second, .val (.long q4), .second, .val (.long m_), .second, .val (.long n_), .second, .val (.int (1 : Int32)), .val (.int (1 : Int32)), .val (.int (1 : Int32)), .val (.int (itI (8 * nat64 m_) a ^^^ (0 : Int32))), .val (.int (1 : Int32)), .val (.int (1 : Int32)), .val (.int (1 : Int32))] [])) (fun _ kt => XS.istore X13.here hx rfl (hb hby at_173) rfl (l' := #[.val (.int a), .val (.int b), .val (.int c_), .val (.long q3), .second, .val (.long q4), .second, .val (.long m_), .second, .val (.long n_), .second, .val (.int (1 : Int32)), .val (.int (1 : Int32)), .val (.int (1 : Int32)), .val (.int (itI (8 * nat64 m_) a ^^^ (0 : Int32))), .val (.int (1 : Int32)), .val (.int (1 : Int32)), .val (.int (1 : Int32))]) rfl  kt) ?_
  refine Go.by (S' := T13.setTop (mkF m 177 #[.val (.int a), .val (.int b), .val (.int c_), .val (.long q3), .second, .val (.long q4), .second, .val (.long m_), .second, .val (.long n_), .second, .val (.int (1 : Int32)), .val (.int (1 : Int32)), .val (.int (1 : Int32)), .val (.int (itI (8 * nat64 m_) a ^^^ (0 : Int32))), .val (.int (1 : Int32)), .val (.int (1 : Int32)), .val (.int (1 : Int32))] [(.int (1 : Int32))])) (fun _ kt => XS.iload X13.here hx rfl (hb hby at_175) rfl  kt) ?_
  refine Go.by (S' := T13.setTop (mkF m 180 #[.val (.int a), .val (.int b), .val (.int c_), .val (.long q3), .second, .val (.long q4), .second, .val (.long m_), .second, .val (.long n_), .second, .val (.int (1 : Int32)), .val (.int (1 : Int32)), .val (.int (1 : Int32)), .val (.int (itI (8 * nat64 m_) a ^^^ (0 : Int32))), .val (.int (1 : Int32)), .val (.int (1 : Int32)), .val (.int (1 : Int32))] [])) (fun _ kt => XS.ifNo X13.here hx rfl (hb hby at_177) rfl (XT.i0_eq_f (by decide))  kt) ?_
  refine Go.by (S' := T13.setTop (mkF m 182 #[.val (.int a), .val (.int b), .val (.int c_), .val (.long q3), .second, .val (.long q4), .second, .val (.long m_), .second, .val (.long n_), .second, .val (.int (1 : Int32)), .val (.int (1 : Int32)), .val (.int (1 : Int32)), .val (.int (itI (8 * nat64 m_) a ^^^ (0 : Int32))), .val (.int (1 : Int32)), .val (.int (1 : Int32)), .val (.int (1 : Int32))] [(.int (1 : Int32))])) (fun _ kt => XS.iload X13.here hx rfl (hb hby at_180) rfl  kt) ?_
  refine Go.by (S' := T13.setTop (mkF m 185 #[.val (.int a), .val (.int b), .val (.int c_), .val (.long q3), .second, .val (.long q4), .second, .val (.long m_), .second, .val (.long n_), .second, .val (.int (1 : Int32)), .val (.int (1 : Int32)), .val (.int (1 : Int32)), .val (.int (itI (8 * nat64 m_) a ^^^ (0 : Int32))), .val (.int (1 : Int32)), .val (.int (1 : Int32)), .val (.int (1 : Int32))] [])) (fun _ kt => XS.ifNo X13.here hx rfl (hb hby at_182) rfl (XT.i0_eq_f (by decide))  kt) ?_
  refine Go.by (S' := T13.setTop (mkF m 187 #[.val (.int a), .val (.int b), .val (.int c_), .val (.long q3), .second, .val (.long q4), .second, .val (.long m_), .second, .val (.long n_), .second, .val (.int (1 : Int32)), .val (.int (1 : Int32)), .val (.int (1 : Int32)), .val (.int (itI (8 * nat64 m_) a ^^^ (0 : Int32))), .val (.int (1 : Int32)), .val (.int (1 : Int32)), .val (.int (1 : Int32))] [(.int (1 : Int32))])) (fun _ kt => XS.iload X13.here hx rfl (hb hby at_185) rfl  kt) ?_
  refine Go.by (S' := T13.setTop (mkF m 190 #[.val (.int a), .val (.int b), .val (.int c_), .val (.long q3), .second, .val (.long q4), .second, .val (.long m_), .second, .val (.long n_), .second, .val (.int (1 : Int32)), .val (.int (1 : Int32)), .val (.int (1 : Int32)), .val (.int (itI (8 * nat64 m_) a ^^^ (0 : Int32))), .val (.int (1 : Int32)), .val (.int (1 : Int32)), .val (.int (1 : Int32))] [])) (fun _ kt => XS.ifNo X13.here hx rfl (hb hby at_187) rfl (XT.i0_eq_f (by decide))  kt) ?_
  refine Go.by (S' := T13.setTop (mkF m 192 #[.val (.int a), .val (.int b), .val (.int c_), .val (.long q3), .second, .val (.long q4), .second, .val (.long m_), .second, .val (.long n_), .second, .val (.int (1 : Int32)), .val (.int (1 : Int32)), .val (.int (1 : Int32)), .val (.int (itI (8 * nat64 m_) a ^^^ (0 : Int32))), .val (.int (1 : Int32)), .val (.int (1 : Int32)), .val (.int (1 : Int32))] [(.int (1 : Int32))])) (fun _ kt => XS.iload X13.here hx rfl (hb hby at_190) rfl  kt) ?_
  refine Go.by (S' := T13.setTop (mkF m 195 #[.val (.int a), .val (.int b), .val (.int c_), .val (.long q3), .second, .val (.long q4), .second, .val (.long m_), .second, .val (.long n_), .second, .val (.int (1 : Int32)), .val (.int (1 : Int32)), .val (.int (1 : Int32)), .val (.int (itI (8 * nat64 m_) a ^^^ (0 : Int32))), .val (.int (1 : Int32)), .val (.int (1 : Int32)), .val (.int (1 : Int32))] [])) (fun _ kt => XS.ifNo X13.here hx rfl (hb hby at_192) rfl (XT.i0_eq_f (by decide))  kt) ?_
  refine Go.by (S' := T13.setTop (mkF m 197 #[.val (.int a), .val (.int b), .val (.int c_), .val (.long q3), .second, .val (.long q4), .second, .val (.long m_), .second, .val (.long n_), .second, .val (.int (1 : Int32)), .val (.int (1 : Int32)), .val (.int (1 : Int32)), .val (.int (itI (8 * nat64 m_) a ^^^ (0 : Int32))), .val (.int (1 : Int32)), .val (.int (1 : Int32)), .val (.int (1 : Int32))] [(.int (1 : Int32))])) (fun _ kt => XS.iload X13.here hx rfl (hb hby at_195) rfl  kt) ?_
  refine Go.by (S' := T13.setTop (mkF m 200 #[.val (.int a), .val (.int b), .val (.int c_), .val (.long q3), .second, .val (.long q4), .second, .val (.long m_), .second, .val (.long n_), .second, .val (.int (1 : Int32)), .val (.int (1 : Int32)), .val (.int (1 : Int32)), .val (.int (itI (8 * nat64 m_) a ^^^ (0 : Int32))), .val (.int (1 : Int32)), .val (.int (1 : Int32)), .val (.int (1 : Int32))] [])) (fun _ kt => XS.ifNo X13.here hx rfl (hb hby at_197) rfl (XT.i0_eq_f (by decide))  kt) ?_
  refine Go.by (S' := T13.setTop (mkF m 202 #[.val (.int a), .val (.int b), .val (.int c_), .val (.long q3), .second, .val (.long q4), .second, .val (.long m_), .second, .val (.long n_), .second, .val (.int (1 : Int32)), .val (.int (1 : Int32)), .val (.int (1 : Int32)), .val (.int (itI (8 * nat64 m_) a ^^^ (0 : Int32))), .val (.int (1 : Int32)), .val (.int (1 : Int32)), .val (.int (1 : Int32))] [(.int (1 : Int32))])) (fun _ kt => XS.iload X13.here hx rfl (hb hby at_200) rfl  kt) ?_
  refine Go.by (S' := T13.setTop (mkF m 205 #[.val (.int a), .val (.int b), .val (.int c_), .val (.long q3), .second, .val (.long q4), .second, .val (.long m_), .second, .val (.long n_), .second, .val (.int (1 : Int32)), .val (.int (1 : Int32)), .val (.int (1 : Int32)), .val (.int (itI (8 * nat64 m_) a ^^^ (0 : Int32))), .val (.int (1 : Int32)), .val (.int (1 : Int32)), .val (.int (1 : Int32))] [])) (fun _ kt => XS.ifNo X13.here hx rfl (hb hby at_202) rfl (XT.i0_eq_f (by decide))  kt) ?_
  refine Go.by (S' := T13.setTop (mkF m 206 #[.val (.int a), .val (.int b), .val (.int c_), .val (.long q3), .second, .val (.long q4), .second, .val (.long m_), .second, .val (.long n_), .second, .val (.int (1 : Int32)), .val (.int (1 : Int32)), .val (.int (1 : Int32)), .val (.int (itI (8 * nat64 m_) a ^^^ (0 : Int32))), .val (.int (1 : Int32)), .val (.int (1 : Int32)), .val (.int (1 : Int32))] [(.int (1 : Int32))])) (fun _ kt => XT.iconstV X13.here hx rfl (1 : Int32) (hb hby at_205) (by decide)  kt) ?_
  refine Go.by (S' := T13.setTop (mkF m 210 #[.val (.int a), .val (.int b), .val (.int c_), .val (.long q3), .second, .val (.long q4), .second, .val (.long m_), .second, .val (.long n_), .second, .val (.int (1 : Int32)), .val (.int (1 : Int32)), .val (.int (1 : Int32)), .val (.int (itI (8 * nat64 m_) a ^^^ (0 : Int32))), .val (.int (1 : Int32)), .val (.int (1 : Int32)), .val (.int (1 : Int32))] [(.int (1 : Int32))])) (fun _ kt => XS.goto X13.here hx rfl (pc0 := 206) (pc' := 210) rfl (hb hby at_206) (by decide) (by decide)  kt) ?_
  refine goRet X13 (v := some (.int (nar .boolean (1 : Int32)))) (fun h => by rw [Bd.returns] at h; cases h) Bd.notSynchronized (fun fs hr => retN X13 hx (t := .boolean) Bd.returns (by simp) (hb hby at_210) hr) (by decide) (by decide) ?_
  exact ⟨by simp [own_n1], N13⟩
theorem own_at {s : State} {args : Array Value} {t : Term} {a : Addr} {cl : Cell} {j v : Int32} (et : t.eval args s none [] s = some (.ref a)) (A : Arr s s.heap a cl .int)
    (h : (Jvm.Cond.eq (.elem t (.int j)) (.int v)).value args s none s [] = some true) : cl.slots[j.toNatClampNeg]? = some (.int v) :=
  (elem_in (eqv_i (F := Jvm.Term.int v) rfl h) et rfl A.1).2
theorem own_len {s : State} {args : Array Value} {t : Term} {a : Addr} {cl : Cell} (et : t.eval args s none [] s = some (.ref a)) (A : Arr s s.heap a cl .int)
    (h : (Jvm.Cond.eq (.length t) (.int 63)).value args s none s [] = some true) : cl.slots.size = 63 := by
  have e := eqv_i (F := Jvm.Term.int 63) rfl h
  have hat : s.arrayAt? a = some cl := A.fin (Vm.Alike.refl _)
  by_cases q : cl.slots.size < 2 ^ 31
  · have e' : cl.slots.size.toInt32 = 63 := by simpa [Term.eval, et, hat, q] using e
    have := congrArg Int32.toInt e'
    rw [len_toInt q] at this
    have e2 : (63 : Int32).toInt = 63 := by decide
    rw [e2] at this; omega
  · simp [Term.eval, et, hat, q] at e
set_option maxRecDepth 65536 in
set_option maxHeartbeats 40000000 in
theorem comes_1 {Post : Tables → Env → Array Value → State → Outcome → State → Prop} (hpost : ∀ tb e args s v u, (limb_1_1.after args s (.returned v) u = true ∧ limb_1_2.after args s (.returned v) u = true ∧ True) → FrameEnd s (.returned v) u (Jvm.fieldLocs frame_1_writes args s ++ Jvm.arrayLocs frame_1_arrays args s ++ Jvm.staticLocs frame_1_statics s) 0 0 → Post tb e args s (.returned v) u) :
    ArmFor flags0 classFile x code maxLocals ret World_1 tables_1 room_1 Calls_1 rest_1 Pre_1 Post := by
  intro l hfl _ _ p e ha hc hk s m args below hf hA hF happ hP
  obtain ⟨hcalls, hrest, hpre⟩ := hP
  obtain ⟨-, -, -, hnamed, -, -, -, hat⟩ := (Spec.applies_iff hf).mp happ
  obtain ⟨hg, hn⟩ := and_e (Cond.before_iff.mp (show (Jvm.Cond.and given_1 narrow_1).before args s = true from hpre))
  obtain ⟨gc, gr0⟩ := and_e hg
  obtain ⟨gi0, gr1⟩ := and_e gr0
  obtain ⟨gi1, gr2⟩ := and_e gr1
  obtain ⟨gi2, gr3⟩ := and_e gr2
  obtain ⟨gi3, gr4⟩ := and_e gr3
  have gi4 := gr4
  obtain ⟨w0, w1, w2, w3, w4, rfl⟩ : ∃ w0 w1 w2 w3 w4 : Value, args = #[w0, w1, w2, w3, w4] := by
    have hs : args.size = 5 := by simpa [Cond.value, given_1] using gc
    obtain ⟨L⟩ := args
    match L, hs with
    | [w0, w1, w2, w3, w4], _ => exact ⟨w0, w1, w2, w3, w4, rfl⟩
  have hw := fun d (hd : d ∈ tables_1) => atoms_spec (ws := Jvm.Cond.code x code maxLocals ret :: tables_1) hat d (List.mem_cons_of_mem _ hd)
  have hfit : Fit s := fun {y c} hc i hi => by
    obtain ⟨ha, rfl⟩ := Array.getElem?_eq_some_iff.mp hc
    have q := List.all_eq_true.mp ((Array.all_eq_true_iff_forall_mem.mp hF) _ (Array.getElem_mem ha)) i (List.mem_range.mpr hi)
    simpa [Array.getElem?_eq_getElem hi] using q
  obtain ⟨i0, ei0⟩ := is_v gi0
  obtain rfl : w0 = (.int i0) := Option.some.inj ei0
  obtain ⟨i1, ei1⟩ := is_v gi1
  obtain rfl : w1 = (.int i1) := Option.some.inj ei1
  obtain ⟨i2, ei2⟩ := is_v gi2
  obtain rfl : w2 = (.int i2) := Option.some.inj ei2
  obtain ⟨i3, ei3⟩ := isL_v gi3
  obtain rfl : w3 = (.long i3) := Option.some.inj ei3
  obtain ⟨i4, ei4⟩ := isL_v gi4
  obtain rfl : w4 = (.long i4) := Option.some.inj ei4
  obtain ⟨nw0, nr0⟩ := and_e hn
  obtain ⟨nw1, nr1⟩ := and_e nr0
  obtain ⟨nw2, nr2⟩ := and_e nr1
  obtain ⟨nw3, nr3⟩ := and_e nr2
  obtain ⟨nw4, nr4⟩ := and_e nr3
  obtain ⟨nw5, nr5⟩ := and_e nr4
  obtain ⟨nw6, nr6⟩ := and_e nr5
  obtain ⟨nw7, nr7⟩ := and_e nr6
  obtain ⟨nw8, nr8⟩ := and_e nr7
  obtain ⟨nw9, nr9⟩ := and_e nr8
  obtain ⟨nw10, nr10⟩ := and_e nr9
  obtain ⟨nw11, nr11⟩ := and_e nr10
  obtain ⟨nw12, nr12⟩ := and_e nr11
  obtain ⟨nw13, nr13⟩ := and_e nr12
  obtain ⟨nw14, nr14⟩ := and_e nr13
  obtain ⟨nw15, nr15⟩ := and_e nr14
  obtain ⟨nw16, nr16⟩ := and_e nr15
  obtain ⟨nw17, nr17⟩ := and_e nr16
  obtain ⟨nw18, nr18⟩ := and_e nr17
  obtain ⟨nw19, nr19⟩ := and_e nr18
  obtain ⟨nw20, nr20⟩ := and_e nr19
  obtain ⟨nw21, nr21⟩ := and_e nr20
  obtain ⟨nw22, nr22⟩ := and_e nr21
  obtain ⟨nw23, nr23⟩ := and_e nr22
  obtain ⟨nw24, nr24⟩ := and_e nr23
  obtain ⟨nw25, nr25⟩ := and_e nr24
  obtain ⟨nw26, nr26⟩ := and_e nr25
  obtain ⟨nw27, nr27⟩ := and_e nr26
  obtain ⟨nw28, nr28⟩ := and_e nr27
  obtain ⟨nw29, nr29⟩ := and_e nr28
  obtain ⟨nw30, nr30⟩ := and_e nr29
  obtain ⟨nw31, nr31⟩ := and_e nr30
  obtain ⟨nw32, nr32⟩ := and_e nr31
  obtain ⟨nw33, nr33⟩ := and_e nr32
  obtain ⟨nw34, nr34⟩ := and_e nr33
  obtain ⟨nw35, nr35⟩ := and_e nr34
  obtain ⟨nw36, nr36⟩ := and_e nr35
  obtain ⟨nw37, nr37⟩ := and_e nr36
  obtain ⟨nw38, nr38⟩ := and_e nr37
  obtain ⟨nw39, nr39⟩ := and_e nr38
  obtain ⟨nw40, nr40⟩ := and_e nr39
  obtain ⟨nw41, nr41⟩ := and_e nr40
  obtain ⟨nw42, nr42⟩ := and_e nr41
  obtain ⟨nw43, nr43⟩ := and_e nr42
  obtain ⟨nw44, nr44⟩ := and_e nr43
  obtain ⟨nw45, nr45⟩ := and_e nr44
  obtain ⟨nw46, nr46⟩ := and_e nr45
  obtain ⟨nw47, nr47⟩ := and_e nr46
  obtain ⟨nw48, nr48⟩ := and_e nr47
  obtain ⟨nw49, nr49⟩ := and_e nr48
  obtain ⟨nw50, nr50⟩ := and_e nr49
  obtain ⟨nw51, nr51⟩ := and_e nr50
  obtain ⟨nw52, nr52⟩ := and_e nr51
  obtain ⟨nw53, nr53⟩ := and_e nr52
  obtain ⟨nw54, nr54⟩ := and_e nr53
  obtain ⟨nw55, nr55⟩ := and_e nr54
  obtain ⟨nw56, nr56⟩ := and_e nr55
  obtain ⟨nw57, nr57⟩ := and_e nr56
  obtain ⟨nw58, nr58⟩ := and_e nr57
  obtain ⟨nw59, nr59⟩ := and_e nr58
  obtain ⟨nw60, nr60⟩ := and_e nr59
  obtain ⟨nw61, nr61⟩ := and_e nr60
  obtain ⟨nw62, nr62⟩ := and_e nr61
  obtain ⟨nw63, nr63⟩ := and_e nr62
  have nw64 := nr63
  obtain ⟨tp, et⟩ := arr_v nw0
  obtain ⟨cl, A⟩ := Arr.start et nw0
  have S := Sta.start et (Or.inr ⟨(hw _ (List.mem_of_getElem? (i := 3) rfl)), (hw _ (List.mem_of_getElem? (i := 6) rfl))⟩)
  have sz : cl.slots.size = 63 := own_len et A nw1
  have H : ∀ b, b ≤ 62 → cl.slots[b]? = some (.int (powI b)) := by
    intro b hb
    match b, hb with
    | 0, _ => exact own_at et A nw2
    | 1, _ => exact own_at et A nw3
    | 2, _ => exact own_at et A nw4
    | 3, _ => exact own_at et A nw5
    | 4, _ => exact own_at et A nw6
    | 5, _ => exact own_at et A nw7
    | 6, _ => exact own_at et A nw8
    | 7, _ => exact own_at et A nw9
    | 8, _ => exact own_at et A nw10
    | 9, _ => exact own_at et A nw11
    | 10, _ => exact own_at et A nw12
    | 11, _ => exact own_at et A nw13
    | 12, _ => exact own_at et A nw14
    | 13, _ => exact own_at et A nw15
    | 14, _ => exact own_at et A nw16
    | 15, _ => exact own_at et A nw17
    | 16, _ => exact own_at et A nw18
    | 17, _ => exact own_at et A nw19
    | 18, _ => exact own_at et A nw20
    | 19, _ => exact own_at et A nw21
    | 20, _ => exact own_at et A nw22
    | 21, _ => exact own_at et A nw23
    | 22, _ => exact own_at et A nw24
    | 23, _ => exact own_at et A nw25
    | 24, _ => exact own_at et A nw26
    | 25, _ => exact own_at et A nw27
    | 26, _ => exact own_at et A nw28
    | 27, _ => exact own_at et A nw29
    | 28, _ => exact own_at et A nw30
    | 29, _ => exact own_at et A nw31
    | 30, _ => exact own_at et A nw32
    | 31, _ => exact own_at et A nw33
    | 32, _ => exact own_at et A nw34
    | 33, _ => exact own_at et A nw35
    | 34, _ => exact own_at et A nw36
    | 35, _ => exact own_at et A nw37
    | 36, _ => exact own_at et A nw38
    | 37, _ => exact own_at et A nw39
    | 38, _ => exact own_at et A nw40
    | 39, _ => exact own_at et A nw41
    | 40, _ => exact own_at et A nw42
    | 41, _ => exact own_at et A nw43
    | 42, _ => exact own_at et A nw44
    | 43, _ => exact own_at et A nw45
    | 44, _ => exact own_at et A nw46
    | 45, _ => exact own_at et A nw47
    | 46, _ => exact own_at et A nw48
    | 47, _ => exact own_at et A nw49
    | 48, _ => exact own_at et A nw50
    | 49, _ => exact own_at et A nw51
    | 50, _ => exact own_at et A nw52
    | 51, _ => exact own_at et A nw53
    | 52, _ => exact own_at et A nw54
    | 53, _ => exact own_at et A nw55
    | 54, _ => exact own_at et A nw56
    | 55, _ => exact own_at et A nw57
    | 56, _ => exact own_at et A nw58
    | 57, _ => exact own_at et A nw59
    | 58, _ => exact own_at et A nw60
    | 59, _ => exact own_at et A nw61
    | 60, _ => exact own_at et A nw62
    | 61, _ => exact own_at et A nw63
    | 62, _ => exact own_at et A nw64
    | b + 63, hb => exact absurd hb (by omega)
  obtain ⟨n, o, h1, h2, h3, _, L, rfl, ⟨rfl, N⟩, hq⟩ := rm0 l s _ hw tables_1 i0 i1 i2 i3 i4 tp cl s.heap s.heap.size S A sz H p e ha hc hk s m _ below hf ((Spec.applies_iff_loose hf).mp happ).1 ⟨rfl, State.Warmed39.refl s, rfl⟩ trivial
  refine ⟨n, _, h1, h2, h3, hpost _ _ _ _ _ _ ⟨Cond.after_iff.mpr rfl, Cond.after_iff.mpr (eq_i res_at (Term.int_eval (1)) rfl), trivial⟩ ⟨hq.1, hq.2.1, (hq.2.2.sift fun y hy => Or.inr (N y hy)).mono (by decide) (by decide)⟩⟩
theorem main_1_1 : Claimed_1_1 := comes_1 fun _ _ _ _ _ _ h hF => ⟨h.1, hF⟩
theorem main_1_2 : Claimed_1_2 := comes_1 fun _ _ _ _ _ _ h hF => ⟨h.2.1, hF⟩
end Jvm.Pilot.@@N@@
namespace Jvm.Pilot.@@N@@
open Jvm Jvm.ClassFile Sem Op Lib Jvm.Free Jvm.Stand Jvm.Pilot.@@N@@.Jvm.D
/-! MADE BY PROGRAM (witnessworld.py) out of the Statement's table words and the real class files: 9 classes; the members and pool entries that the words name. The judged class is class 1, her method 3. -/
namespace start1
open Jvm.ClassFile
def u (s : String) : CpInfo := .utf8 (stringToUtf16 s)
/-- a pool by its gaps: so many unusable entries, then the entry; so many at the end -/
def gap : Nat → List CpInfo → List CpInfo
  | 0, r => r
  | n + 1, r => .unusable :: gap n r
def poolList (es : List (Nat × CpInfo)) (last : Nat) : List CpInfo := es.foldr (fun e r => gap e.1 (e.2 :: r)) (gap last [])
def pool (es : List (Nat × CpInfo)) (last : Nat) : Array CpInfo := ⟨poolList es last⟩
def fileOf (pool : Array CpInfo) (this : Nat) (attrs : Array Attribute := #[]) (ms : Array MethodInfo := #[]) (fl : Nat := 33) (sup : Nat := 0) (ifs : Array Nat := #[]) (fds : Array FieldInfo := #[]) : ClassFile where
  minorVersion := 0
  majorVersion := 65
  constantPool := pool
  accessFlags := fl
  thisClass := this
  superClass := sup
  interfaces := ifs
  fields := fds
  methods := ms
  attributes := attrs
def plain (name : String) (sup : Option ClassId) : Class where
  name := name
  kind := .ordinary
  loader := none
  accessFlags := 33
  super := sup
  interfaces := #[]
  cf := none
  fields := #[]
  methods := #[]
  instanceTypes := #[]
  staticTypes := #[]
  resolved := #[]
  callSites := []
  init := .initialized
  statics := none
  mirror := none

def pool0 : Array CpInfo := pool [(5, u "<init>"), (0, u "()V"), (1, .class_ 10), (1, u "java/lang/Object")] 113

def k0m0 : Method := { name := "<init>", desc := "()V", sig := { parameters := [], returnType := none }, accessFlags := 1, code := none }
/-- java/lang/Object -/
def k0 : Class := { plain "java/lang/Object" none with
  accessFlags := 33
  interfaces := #[]
  cf := some (fileOf pool0 8 #[] #[{ accessFlags := 1, nameIndex := 5, descriptorIndex := 6, attributes := #[] }] 33 0 #[] #[])
  fields := #[]
  methods := #[k0m0]
  instanceTypes := #[]
  staticTypes := #[]
  resolved := Array.replicate 124 none
  statics := none }

def pool1 : Array CpInfo := pool [(2, .class_ 4), (1, u "java/lang/Object"), (0, u "<init>"), (0, u "()V"), (0, .integer 2197175160), (0, .methodref 9 10), (0, .class_ 11), (0, .nameAndType 12 13), (0, u "drainline/Crc32cCombineCombinePinLaw"), (0, u "step"), (0, u "(I)I"), (0, .long 4611686018427387903), (1, .methodref 17 18), (0, .class_ 19), (0, .nameAndType 20 21), (0, u "drainline/Crc32cCombine"), (0, u "combine"), (0, u "(IIJ)I"), (0, .methodref 9 23), (0, .nameAndType 24 13), (0, u "timesX8"), (0, .long 2), (4, u "law"), (0, u "(IIIJJ)Z")] 2

def k1m0 : Method := { name := "<init>", desc := "()V", sig := { parameters := [], returnType := none }, accessFlags := 2, code := none }
def k1c1 : Code := { maxStack := 2, maxLocals := 1, code := method_2_code, exceptionTable := #[], attributes := #[] }
def k1m1 : Method := { name := "step", desc := "(I)I", sig := { parameters := [.int], returnType := some .int }, accessFlags := 10, code := some k1c1 }
def k1c2 : Code := { maxStack := 1, maxLocals := 2, code := method_3_code, exceptionTable := #[], attributes := #[] }
def k1m2 : Method := { name := "timesX8", desc := "(I)I", sig := { parameters := [.int], returnType := some .int }, accessFlags := 10, code := some k1c2 }
def k1c3 : Code := { maxStack := 7, maxLocals := 18, code := code, exceptionTable := #[], attributes := #[] }
def k1m3 : Method := { name := "law", desc := "(IIIJJ)Z", sig := { parameters := [.int, .int, .int, .long, .long], returnType := some .boolean }, accessFlags := 9, code := some k1c3 }
/-- drainline/Crc32cCombineCombinePinLaw -/
def k1 : Class := { plain "drainline/Crc32cCombineCombinePinLaw" (some 0) with
  accessFlags := 49
  interfaces := #[]
  cf := some (fileOf pool1 9 #[] #[{ accessFlags := 2, nameIndex := 5, descriptorIndex := 6, attributes := #[] }, { accessFlags := 10, nameIndex := 12, descriptorIndex := 13, attributes := #[] }, { accessFlags := 10, nameIndex := 24, descriptorIndex := 13, attributes := #[] }, { accessFlags := 9, nameIndex := 30, descriptorIndex := 31, attributes := #[] }] 49 2 #[] #[])
  fields := #[]
  methods := #[k1m0, k1m1, k1m2, k1m3]
  instanceTypes := #[]
  staticTypes := #[]
  resolved := Array.replicate 34 none
  statics := none }

def pool2 : Array CpInfo := pool [(2, .class_ 4), (1, u "java/lang/Object"), (0, u "<init>"), (0, u "()V"), (0, .fieldref 8 9), (0, .class_ 10), (0, .nameAndType 11 12), (0, u "drainline/Crc32cCombine"), (0, u "POWERS"), (0, u "[I"), (0, .methodref 8 14), (0, .nameAndType 15 16), (0, u "multiply"), (0, u "(II)I"), (0, .integer 2197175160), (3, u "POLYNOMIAL"), (0, u "I"), (3, u "combine"), (0, u "(IIJ)I")] 4

def k2m0 : Method := { name := "<init>", desc := "()V", sig := { parameters := [], returnType := none }, accessFlags := 2, code := none }
def k2c1 : Code := { maxStack := 4, maxLocals := 6, code := prog_4_method_2_code, exceptionTable := #[], attributes := #[] }
def k2m1 : Method := { name := "combine", desc := "(IIJ)I", sig := { parameters := [.int, .int, .long], returnType := some .int }, accessFlags := 8, code := some k2c1 }
def k2c2 : Code := { maxStack := 2, maxLocals := 5, code := prog_4_method_3_code, exceptionTable := #[], attributes := #[] }
def k2m2 : Method := { name := "multiply", desc := "(II)I", sig := { parameters := [.int, .int], returnType := some .int }, accessFlags := 10, code := some k2c2 }
/-- drainline/Crc32cCombine -/
def k2 : Class := { plain "drainline/Crc32cCombine" (some 0) with
  accessFlags := 48
  interfaces := #[]
  cf := some (fileOf pool2 8 #[] #[{ accessFlags := 2, nameIndex := 5, descriptorIndex := 6, attributes := #[] }, { accessFlags := 8, nameIndex := 26, descriptorIndex := 27, attributes := #[] }, { accessFlags := 10, nameIndex := 15, descriptorIndex := 16, attributes := #[] }] 48 2 #[] #[{ accessFlags := 26, nameIndex := 21, descriptorIndex := 22, attributes := #[] }, { accessFlags := 26, nameIndex := 11, descriptorIndex := 12, attributes := #[] }])
  fields := #[{ name := "POLYNOMIAL", type := .int, accessFlags := 26, slot := 0, constantValue := 0 }, { name := "POWERS", type := (.array .int), accessFlags := 26, slot := 1, constantValue := 0 }]
  methods := #[k2m0, k2m1, k2m2]
  instanceTypes := #[]
  staticTypes := #[.int, (.array .int)]
  resolved := Array.replicate 32 none
  statics := some 0 }

def pool3 : Array CpInfo := pool [(1, u "java/lang/Cloneable"), (0, .class_ 1), (0, u "java/lang/Object"), (0, .class_ 3)] 3

/-- java/lang/Cloneable -/
def k3 : Class := { plain "java/lang/Cloneable" (some 0) with
  accessFlags := 1537
  interfaces := #[]
  cf := some (fileOf pool3 2 #[] #[] 1537 4 #[] #[])
  fields := #[]
  methods := #[]
  instanceTypes := #[]
  staticTypes := #[]
  resolved := Array.replicate 8 none
  statics := none }

def pool4 : Array CpInfo := pool [(1, u "java/io/Serializable"), (0, .class_ 1), (0, u "java/lang/Object"), (0, .class_ 3)] 3

/-- java/io/Serializable -/
def k4 : Class := { plain "java/io/Serializable" (some 0) with
  accessFlags := 1537
  interfaces := #[]
  cf := some (fileOf pool4 2 #[] #[] 1537 4 #[] #[])
  fields := #[]
  methods := #[]
  instanceTypes := #[]
  staticTypes := #[]
  resolved := Array.replicate 8 none
  statics := none }

/-- the primitive byte -/
def k5 : Class := { plain "byte" none with kind := .primitive 'B', accessFlags := 0x411 }
/-- [B -/
def k6 : Class := { plain "[B" (some 0) with kind := .array 5 .byte, interfaces := #[3, 4], accessFlags := 1041 }

/-- the primitive int -/
def k7 : Class := { plain "int" none with kind := .primitive 'I', accessFlags := 0x411 }
/-- [I -/
def k8 : Class := { plain "[I" (some 0) with kind := .array 7 .int, interfaces := #[3, 4], accessFlags := 1041 }

def heap : Heap := #[{ cls := 2, slots := #[.int 0, .ref 1], vm := .statics 2 },
  { cls := 8, slots := #[.int 8388608, .int 32768, .int (-2097792136), .int 1856165212, .int 414771736, .int 1359660442, .int (-1205081771), .int (-1191333401), .int (-1998229646), .int 1958961316, .int (-468243690), .int 224753194, .int 903297634, .int 675681636, .int (-1085975959), .int (-487968036), .int (-25739034), .int (-112828149), .int 1008750479, .int 1401259747, .int 1500670229, .int 1934447369, .int (-1139095709), .int 2097619660, .int (-762721602), .int (-380851780), .int 95899455, .int (-1524752574), .int 1073741824, .int 536870912, .int 134217728, .int 8388608, .int 32768, .int (-2097792136), .int 1856165212, .int 414771736, .int 1359660442, .int (-1205081771), .int (-1191333401), .int (-1998229646), .int 1958961316, .int (-468243690), .int 224753194, .int 903297634, .int 675681636, .int (-1085975959), .int (-487968036), .int (-25739034), .int (-112828149), .int 1008750479, .int 1401259747, .int 1500670229, .int 1934447369, .int (-1139095709), .int 2097619660, .int (-762721602), .int (-380851780), .int 95899455, .int (-1524752574), .int 1073741824, .int 536870912, .int 134217728, .int 8388608], vm := .none }]
def classes : Array Class := #[k0, k1, k2, k3, k4, k5, k6, k7, k8]
def interned : List (Array UInt16 × Addr) := []
def slotsUsed : Nat := 65
def theMethod : MethodId := ⟨1, 3⟩
def args0 : Array Value := #[.int 5, .int 7, .int 9, .long 3, .long 4]
def aboutOver (below : List Frame) : State where
  vm := { classes := classes, interned := interned.toArray }
  heap := heap
  slotsUsed := slotsUsed
  threads := #[{ frames := .invoking theMethod args0 :: below }]
def below0 : List Frame := [.native { method := ⟨0, 0⟩, args := #[] }]
def about1 : State := aboutOver below0
def p0 : Program := .bare "" "" ""
def e0 : Env := launch0.env 0 0 0
theorem w_frames : about1.frames = Frame.invoking theMethod args0 :: below0 := rfl
set_option maxRecDepth 65536 in
theorem w_args : argsFit about1.vm theMethod args0 = true := by decide +kernel
set_option maxRecDepth 65536 in
theorem w_heap : heapFits about1 = true := by decide +kernel
set_option maxRecDepth 65536 in
theorem w_runnable : about1.curStatus? = some .runnable := by decide +kernel
set_option maxRecDepth 65536 in
theorem w_alone : about1.alone = true := by decide +kernel
set_option maxRecDepth 65536 in
theorem w_named : about1.methodNamed? x = some theMethod := by decide +kernel
set_option maxRecDepth 65536 in
theorem w_hears : about1.hears theMethod below0 = true := by decide +kernel
set_option maxRecDepth 65536 in
theorem w_ripe : about1.ripe theMethod args0 below0 = true := by decide +kernel
theorem w_running : about1.status = .running := rfl
set_option maxRecDepth 65536 in
theorem w_room : about1.hasRoom e0.platform room_1 = true :=
  launch0.hasRoom_least _ room_1 (by decide +kernel) (by decide +kernel) (by decide +kernel) (by decide +kernel) (by decide +kernel) (by decide +kernel)
theorem allAtoms_all (ts : List Jvm.Cond) (a : Array Jvm.Value) (st : Jvm.State) : (allAtoms ts).before a st = ts.all (fun c => c.before a st) := by
  induction ts with
  | nil => rfl
  | cons c t ih =>
    show (Jvm.Cond.and c (allAtoms t)).before a st = _
    rw [Jvm.Cond.before_and, ih, List.all_cons]
def words1 : List Jvm.Cond := Jvm.Cond.code x code maxLocals ret :: tables_1
/-- a 'code' word, met by the world's own term for the bytes: nothing is compared byte by byte -/
theorem code_word {y : MethodName} {bytes : ByteArray} {mx : Nat} {rt : Option FieldType} {a : Array Value} {s : State} {m : MethodId} {meth : Method} {c : Code} (h1 : s.methodNamed? y = some m) (h2 : s.vm.method? m = some meth) (h3 : meth.code = some c) (h4 : c.code = bytes)
    (h5 : (c.maxLocals == mx && c.exceptionTable.isEmpty && decide (c.maxStack ≤ mostOperands) && decide (meth.sig.returnType = rt) && !meth.locks && decide (parseMethodDescriptor y.desc = some meth.sig)) = true) : (Jvm.Cond.code y bytes mx rt).before a s = true := by
  simp only [Bool.and_eq_true, beq_iff_eq, Bool.not_eq_true', decide_eq_true_eq] at h5
  obtain ⟨⟨⟨⟨⟨g1, g2⟩, g3⟩, g4⟩, g5⟩, g6⟩ := h5
  simp [Cond.before, Cond.holds, Cond.value, h1, h2, h3, h4, g1, g2, g3, g4, g5, g6]
def isCode : Jvm.Cond → Bool
  | .code _ _ _ _ => true
  | _ => false
theorem all_split {L : List Jvm.Cond} {P : Jvm.Cond → Bool} (h1 : L.all (fun c => isCode c || P c) = true) (h2 : ∀ c ∈ L.filter isCode, P c = true) : L.all P = true := by
  refine List.all_eq_true.mpr fun c hc => ?_
  have h := List.all_eq_true.mp h1 c hc
  rcases Bool.eq_false_or_eq_true (isCode c) with hi | hi
  · exact h2 c (List.mem_filter.mpr ⟨hc, hi⟩)
  · simpa [hi] using h
set_option maxRecDepth 65536 in
theorem w_c0 : (Jvm.Cond.code x code maxLocals ret).before args0 about1 = true := code_word (m := ⟨1, 3⟩) (meth := k1m3) (c := k1c3) (by decide +kernel) rfl rfl rfl (by decide +kernel)
set_option maxRecDepth 65536 in
theorem w_c1 : (Jvm.Cond.code ({ cls := "drainline/Crc32cCombine", name := "combine", desc := "(IIJ)I" } : Jvm.MethodName) prog_4_method_2_code (6 : Nat) (Option.some Jvm.ClassFile.FieldType.int)).before args0 about1 = true := code_word (m := ⟨2, 1⟩) (meth := k2m1) (c := k2c1) (by decide +kernel) rfl rfl rfl (by decide +kernel)
set_option maxRecDepth 65536 in
theorem w_c2 : (Jvm.Cond.code ({ cls := "drainline/Crc32cCombine", name := "multiply", desc := "(II)I" } : Jvm.MethodName) prog_4_method_3_code (5 : Nat) (Option.some Jvm.ClassFile.FieldType.int)).before args0 about1 = true := code_word (m := ⟨2, 2⟩) (meth := k2m2) (c := k2c2) (by decide +kernel) rfl rfl rfl (by decide +kernel)
set_option maxRecDepth 65536 in
theorem w_c3 : (Jvm.Cond.code ({ cls := "drainline/Crc32cCombineCombinePinLaw", name := "timesX8", desc := "(I)I" } : Jvm.MethodName) method_3_code (2 : Nat) (Option.some Jvm.ClassFile.FieldType.int)).before args0 about1 = true := code_word (m := ⟨1, 2⟩) (meth := k1m2) (c := k1c2) (by decide +kernel) rfl rfl rfl (by decide +kernel)
set_option maxRecDepth 65536 in
theorem w_c4 : (Jvm.Cond.code ({ cls := "drainline/Crc32cCombineCombinePinLaw", name := "step", desc := "(I)I" } : Jvm.MethodName) method_2_code (1 : Nat) (Option.some Jvm.ClassFile.FieldType.int)).before args0 about1 = true := code_word (m := ⟨1, 1⟩) (meth := k1m1) (c := k1c1) (by decide +kernel) rfl rfl rfl (by decide +kernel)
def codes1 : List Jvm.Cond := [Jvm.Cond.code x code maxLocals ret, Jvm.Cond.code ({ cls := "drainline/Crc32cCombine", name := "combine", desc := "(IIJ)I" } : Jvm.MethodName) prog_4_method_2_code (6 : Nat) (Option.some Jvm.ClassFile.FieldType.int), Jvm.Cond.code ({ cls := "drainline/Crc32cCombine", name := "multiply", desc := "(II)I" } : Jvm.MethodName) prog_4_method_3_code (5 : Nat) (Option.some Jvm.ClassFile.FieldType.int), Jvm.Cond.code ({ cls := "drainline/Crc32cCombineCombinePinLaw", name := "timesX8", desc := "(I)I" } : Jvm.MethodName) method_3_code (2 : Nat) (Option.some Jvm.ClassFile.FieldType.int), Jvm.Cond.code ({ cls := "drainline/Crc32cCombineCombinePinLaw", name := "step", desc := "(I)I" } : Jvm.MethodName) method_2_code (1 : Nat) (Option.some Jvm.ClassFile.FieldType.int)]
set_option maxRecDepth 65536 in
theorem codes_eq : words1.filter isCode = codes1 := rfl
theorem w_codes : ∀ c ∈ words1.filter isCode, c.before args0 about1 = true := by
  rw [codes_eq]
  intro c hc
  simp only [codes1, List.mem_cons, List.not_mem_nil, or_false] at hc
  rcases hc with rfl | rfl | rfl | rfl | rfl
  · exact w_c0
  · exact w_c1
  · exact w_c2
  · exact w_c3
  · exact w_c4
set_option maxRecDepth 65536 in
theorem w_t1 : words1.all (fun c => isCode c || c.before args0 about1) = true := by decide +kernel
theorem w_tables : (allAtoms (Jvm.Cond.code x code maxLocals ret :: tables_1)).before args0 about1 = true := by
  rw [allAtoms_all]
  show words1.all (fun c => c.before args0 about1) = true
  refine all_split ?_ w_codes
  rw [w_t1]
set_option maxRecDepth 65536 in
theorem w_case : (Jvm.Cond.and given_1 narrow_1).before args0 about1 = true := by decide +kernel
theorem w_applies : (headSpec (Jvm.Cond.code x code maxLocals ret :: tables_1) room_1).applies x e0.platform about1 = true :=
  (Spec.applies_iff w_frames).mpr ⟨w_running, w_runnable, w_alone, w_named, w_hears, w_ripe, w_room, w_tables⟩
theorem atStart : AtStart classFile x code maxLocals ret World_1 tables_1 room_1 Calls_1 rest_1 Pre_1 launch0 p0 e0 about1 theMethod args0 below0 :=
  ⟨lists_1, trivial, launch0.admits_env _ _ _, launch0.least_env, fairChoices_fair.cas, fairChoices_fair.clock, w_frames, w_args, w_heap, w_applies, trivial, trivial, w_case⟩
end start1
theorem witness_1 : WitnessClaimed_1 := ⟨start1.p0, start1.e0, start1.about1, start1.theMethod, start1.args0, start1.below0, start1.atStart⟩
end Jvm.Pilot.@@N@@
