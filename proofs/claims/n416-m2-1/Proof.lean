import JvmDerived
import JvmDerived.Pilot.@@N@@Statement
import JvmDerived.Pilot.@@N@@Code
set_option linter.unusedVariables false
set_option linter.unusedSimpArgs false
namespace Jvm.Pilot.@@N@@
open Jvm Jvm.ClassFile Sem Op Lib Jvm.Free Jvm.Stand Jvm.LawKit Jvm.RoadKit Bundle Jvm.Pilot.@@N@@.Jvm.D
/-- what a walk must still come to -/
def OwnG (p : Program) (e : Env) (below : List Frame) (s : State) (C S : Nat) (Q : Option Value → Heap → List Loc → Prop) (A : State) : Prop :=
  ∃ s₂ o, Steps p.tables e below A s₂ ∧ s₂.status = .running ∧ Ended s₂ below o ∧ ∃ v L, o = .returned v ∧ Q v s₂.heap L ∧ FrameEnd s o s₂ L C S
theorem OwnG.go {p : Program} {e : Env} {below : List Frame} {s : State} {C S : Nat} {Q : Option Value → Heap → List Loc → Prop} {A B : State} (h : ∀ t, Steps p.tables e below A t → Steps p.tables e below B t) (k : OwnG p e below s C S Q A) : OwnG p e below s C S Q B := by
  obtain ⟨s₂, o, k1, k2⟩ := k
  exact ⟨s₂, o, h _ k1, k2⟩
theorem own_fin {p : Program} {l : Launch} {e : Env} {R : Room} {s : State} {m : MethodId} {args : Array Value} {below : List Frame} {meth : Method} {c : Code} {T : State} {locs : List Loc} {cells slots : Nat}
    (X : Stand p l e R s m args below meth c T locs cells slots) {C S : Nat} {Q : Option Value → Heap → List Loc → Prop} (hlocks : meth.locks = false) {v : Option Value} (hv : meth.sig.returnType = none → v = none) {A : State}
    (hst : ∀ fs, (∀ (f : JFrame) (acts : List Action), f.method = m → f.locked = none → f.entered = [] → (doReturn e (T.setTop f) acts v).1 = T.setFrames fs) → Steps p.tables e below A (T.setFrames fs))
    (hQ : Q v T.heap locs) (hc : cells ≤ C) (hs : slots ≤ S) : OwnG p e below s C S Q A := by
  obtain ⟨fs, hr, hrun, hended, hW, hsame⟩ := X.leave (v := v) hv hlocks
  exact ⟨_, _, hst fs hr, hrun, hended, v, locs, rfl, hQ, ⟨_, rfl⟩, hW, hsame.mono hc hs⟩
theorem own_lrem {p : Program} {l : Launch} {e : Env} {R : Room} {s : State} {m : MethodId} {args : Array Value} {below : List Frame} {meth : Method} {c : Code} {T : State} {locs : List Loc} {cells slots : Nat} {g : JFrame} {target : State}
    (X : Stand p l e R s m args below meth c T locs cells slots) (hx : p.tables.exec = Jvm.exec) (hg : g.method = m) {x y : Int64} {rest : List Value} (hd : decode c.code g.pc = .ok (.lrem, 1)) (hs : g.stack = .long y :: .long x :: rest) (hy : y ≠ 0)
    (hr : Steps p.tables e below (T.setTop { g with pc := g.pc + 1, stack := .long (x % y) :: rest }) target) : Steps p.tables e below (T.setTop g) target := by
  have q : x - x / y * y = x % y := lrem_mod x y
  exact XS.lrem X.here hx hg hd hs hy (by rw [q]; exact hr)
theorem own_lclt {a b : Int64} : lcmpW a b < 0 ↔ a < b := by
  unfold lcmpW
  by_cases h1 : a > b
  · simp only [h1, if_true]
    refine ⟨fun h => absurd h (by decide), fun h => ?_⟩
    rw [Int64.lt_iff_toInt_lt] at h; rw [gt_iff_lt, Int64.lt_iff_toInt_lt] at h1; omega
  · by_cases h2 : a = b
    · subst h2; simp [h1]
    · simp only [h1, h2, if_false]
      refine ⟨fun _ => ?_, fun _ => by decide⟩
      rw [gt_iff_lt, Int64.lt_iff_toInt_lt] at h1; rw [Int64.lt_iff_toInt_lt]
      have : a.toInt ≠ b.toInt := fun q => h2 (Int64.toInt_inj.mp q)
      omega
theorem own_lceq {a b : Int64} : lcmpW a b = 0 ↔ a = b := by
  unfold lcmpW
  by_cases h1 : a > b
  · simp only [h1, if_true]
    refine ⟨fun h => absurd h (by decide), fun h => ?_⟩
    subst h; rw [gt_iff_lt, Int64.lt_iff_toInt_lt] at h1; omega
  · by_cases h2 : a = b
    · subst h2; simp [h1]
    · simp only [h1, h2, if_false]
      exact ⟨fun h => absurd h (by decide), fun h => h.elim⟩
theorem own_lcgt {a b : Int64} : 0 < lcmpW a b ↔ b < a := by
  unfold lcmpW
  by_cases h1 : a > b
  · rw [if_pos h1]
    exact ⟨fun _ => h1, fun _ => by decide⟩
  · rw [if_neg h1]
    refine ⟨fun h => ?_, fun h => absurd h h1⟩
    by_cases h2 : a = b
    · rw [if_pos h2] at h; exact absurd h (by decide)
    · rw [if_neg h2] at h; exact absurd h (by decide)

theorem own_mask32 (x m : Int32) (h : 0 ≤ m.toInt) : 0 ≤ (x &&& m).toInt ∧ (x &&& m).toInt ≤ m.toInt := by
  have e : (x &&& m).toInt = (x.toBitVec &&& m.toBitVec).toInt := rfl
  have em : m.toInt = m.toBitVec.toInt := rfl
  have h1 : (x.toBitVec &&& m.toBitVec).toNat ≤ m.toBitVec.toNat := by rw [BitVec.toNat_and]; exact Nat.and_le_right
  have h2 := m.toBitVec.isLt
  rw [BitVec.toInt_eq_toNat_cond] at e em
  rw [em] at h
  rw [e, em]
  generalize (x.toBitVec &&& m.toBitVec).toNat = u at *
  generalize m.toBitVec.toNat = w at *
  split at h <;> split <;> omega
theorem own_mask64 (x m : Int64) (h : 0 ≤ m.toInt) : 0 ≤ (x &&& m).toInt ∧ (x &&& m).toInt ≤ m.toInt := by
  have e : (x &&& m).toInt = (x.toBitVec &&& m.toBitVec).toInt := rfl
  have em : m.toInt = m.toBitVec.toInt := rfl
  have h1 : (x.toBitVec &&& m.toBitVec).toNat ≤ m.toBitVec.toNat := by rw [BitVec.toNat_and]; exact Nat.and_le_right
  have h2 := m.toBitVec.isLt
  rw [BitVec.toInt_eq_toNat_cond] at e em
  rw [em] at h
  rw [e, em]
  generalize (x.toBitVec &&& m.toBitVec).toNat = u at *
  generalize m.toBitVec.toNat = w at *
  split at h <;> split <;> omega
theorem own_add32 {a b : Int32} (h1 : -2147483648 ≤ a.toInt + b.toInt) (h2 : a.toInt + b.toInt < 2147483648) : (a + b).toInt = a.toInt + b.toInt := by
  rw [Int32.toInt_add, Int.bmod_def]; omega
theorem own_sub32 {a b : Int32} (h1 : -2147483648 ≤ a.toInt - b.toInt) (h2 : a.toInt - b.toInt < 2147483648) : (a - b).toInt = a.toInt - b.toInt := by
  rw [Int32.toInt_sub, Int.bmod_def]; omega
theorem own_add64 {a b : Int64} (h1 : -9223372036854775808 ≤ a.toInt + b.toInt) (h2 : a.toInt + b.toInt < 9223372036854775808) : (a + b).toInt = a.toInt + b.toInt := by
  rw [Int64.toInt_add, Int.bmod_def]; omega
theorem own_sub64 {a b : Int64} (h1 : -9223372036854775808 ≤ a.toInt - b.toInt) (h2 : a.toInt - b.toInt < 9223372036854775808) : (a - b).toInt = a.toInt - b.toInt := by
  rw [Int64.toInt_sub, Int.bmod_def]; omega
theorem own_mul64 {a b : Int64} (h1 : -9223372036854775808 ≤ a.toInt * b.toInt) (h2 : a.toInt * b.toInt < 9223372036854775808) : (a * b).toInt = a.toInt * b.toInt := by
  rw [Int64.toInt_mul, Int.bmod_def]
  generalize a.toInt * b.toInt = z at *
  omega
theorem own_rem32 {a b : Int32} (h1 : 0 ≤ a.toInt) (h2 : 0 < b.toInt) : (a % b).toInt = a.toInt % b.toInt := by
  rw [Int32.toInt_mod, Int.tmod_eq_emod_of_nonneg h1]
theorem own_rem64 {a b : Int64} (h1 : 0 ≤ a.toInt) (h2 : 0 < b.toInt) : (a % b).toInt = a.toInt % b.toInt := by
  rw [Int64.toInt_mod, Int.tmod_eq_emod_of_nonneg h1]


/-- the s-th bits of x as a byte -/
def b8 (x : Int64) (s : Int32) : Int32 := ((((x.toUInt64 >>> (s &&& 0x3f).toInt64.toUInt64).toInt64).toInt32).toInt8.toInt32)
def b0 (x : Int64) : Int32 := ((x.toInt32).toInt8.toInt32)
def put8 (vs : List Value) (i : Nat) (x : Int64) : List Value :=
  ((((((((vs.set (i + 0) (.int (nar .byte (b0 x)))).set (i + 1) (.int (nar .byte (b8 x 8)))).set (i + 2) (.int (nar .byte (b8 x 16)))).set (i + 3) (.int (nar .byte (b8 x 24)))).set (i + 4) (.int (nar .byte (b8 x 32)))).set (i + 5) (.int (nar .byte (b8 x 40)))).set (i + 6) (.int (nar .byte (b8 x 48)))).set (i + 7) (.int (nar .byte (b8 x 56))))
theorem own_put8_length (vs : List Value) (i : Nat) (x : Int64) : (put8 vs i x).length = vs.length := by simp only [put8, List.length_set]
def Four (p : Int32) : Prop := p = 0 ∨ p = 8 ∨ p = 16 ∨ p = 24
def byteAt (x : Int64) (k : Nat) : Int32 := match k with | 0 => b0 x | 1 => b8 x 8 | 2 => b8 x 16 | 3 => b8 x 24 | 4 => b8 x 32 | 5 => b8 x 40 | 6 => b8 x 48 | _ => b8 x 56
theorem own_getD_set (vs : List Value) (i j : Nat) (v d : Value) : (vs.set i v).getD j d = if i = j ∧ j < vs.length then v else vs.getD j d := by
  simp only [List.getD_eq_getElem?_getD, List.getElem?_set]
  by_cases h : i = j
  · subst h
    by_cases h2 : i < vs.length
    · simp [h2]
    · simp [h2]
  · simp [h]
/-- what the array says of the eight bytes from i on -/
def Says (vs : List Value) (i : Nat) (x : Int64) : Prop := ∀ k, k < 8 → vs.getD (i + k) (.int (0 : Int32)) = .int (nar .byte (byteAt x k))
theorem own_says (vs : List Value) (i : Nat) (x : Int64) (h : i + 8 ≤ vs.length) : Says (put8 vs i x) i x := by
  intro k hk
  have : k = 0 ∨ k = 1 ∨ k = 2 ∨ k = 3 ∨ k = 4 ∨ k = 5 ∨ k = 6 ∨ k = 7 := by omega
  simp only [put8, own_getD_set, List.length_set]
  rcases this with rfl | rfl | rfl | rfl | rfl | rfl | rfl | rfl
  all_goals (repeat (first | rw [if_pos (by omega)] | rw [if_neg (by omega)]))
  all_goals rfl
theorem own_says_other (vs : List Value) (i j : Nat) (x y : Int64) (h : Says vs i x) (hj : i + 8 ≤ j ∨ j + 8 ≤ i) : Says (put8 vs j y) i x := by
  intro k hk
  simp only [put8, own_getD_set, List.length_set]
  repeat rw [if_neg (by omega)]
  exact h k hk
theorem own_nar (x : Int32) : nar .byte x.toInt8.toInt32 = x.toInt8.toInt32 := by
  show x.toInt8.toInt32.toInt8.toInt32 = _
  simp
theorem own_idx (p : Int32) (hp : Four p) (k : Nat) (hk : k < 8) : (¬ (p + Int32.ofNat k < 0) ∧ p + Int32.ofNat k < 32) ∧ (p + Int32.ofNat k).toNatClampNeg = p.toNatClampNeg + k ∧ p.toNatClampNeg + k < 32 := by
  have : k = 0 ∨ k = 1 ∨ k = 2 ∨ k = 3 ∨ k = 4 ∨ k = 5 ∨ k = 6 ∨ k = 7 := by omega
  rcases hp with rfl | rfl | rfl | rfl <;> rcases this with rfl | rfl | rfl | rfl | rfl | rfl | rfl | rfl <;> decide
theorem own_idx0 (p : Int32) (hp : Four p) : (¬ (p < 0) ∧ p < 32) ∧ p.toNatClampNeg = p.toNatClampNeg + 0 ∧ p.toNatClampNeg + 0 < 32 := by
  rcases hp with rfl | rfl | rfl | rfl <;> decide
theorem own_and31 (x : Int32) : ¬ ((x &&& (31 : Int32)) < 0) ∧ (x &&& (31 : Int32)) < 32 := by
  have h := own_mask32 x 31 (by decide)
  have e1 : (31 : Int32).toInt = 31 := rfl
  have e2 : (32 : Int32).toInt = 32 := rfl
  have e0 : (0 : Int32).toInt = 0 := rfl
  rw [Int32.lt_iff_toInt_lt, Int32.lt_iff_toInt_lt]; omega
theorem own_fitB {v : Value} (h : fits .byte v = true) : ∃ w : Int32, v = .int w := by
  cases v <;> first | exact ⟨_, rfl⟩ | (simp [fits] at h)
theorem own_len32 {x : Int32} (h : ¬ (x < 0) ∧ x < 32) : x.toNatClampNeg < 32 := by
  have e2 : (32 : Int32).toInt = 32 := rfl
  have q := nat_of h.1
  have h2 := Int32.lt_iff_toInt_lt.mp h.2
  omega

theorem d1_0 : decode method_2_code 0 = .ok (.aload_n 0, 1) := by decide +kernel
theorem d1_1 : decode method_2_code 1 = .ok (.iload_n 1, 1) := by decide +kernel
theorem d1_2 : decode method_2_code 2 = .ok (.lload_n 2, 1) := by decide +kernel
theorem d1_3 : decode method_2_code 3 = .ok (.l2i, 1) := by decide +kernel
theorem d1_4 : decode method_2_code 4 = .ok (.i2b, 1) := by decide +kernel
theorem d1_5 : decode method_2_code 5 = .ok (.bastore, 1) := by decide +kernel
theorem d1_6 : decode method_2_code 6 = .ok (.aload_n 0, 1) := by decide +kernel
theorem d1_7 : decode method_2_code 7 = .ok (.iload_n 1, 1) := by decide +kernel
theorem d1_8 : decode method_2_code 8 = .ok (.iconst 1, 1) := by decide +kernel
theorem d1_9 : decode method_2_code 9 = .ok (.iadd, 1) := by decide +kernel
theorem d1_10 : decode method_2_code 10 = .ok (.lload_n 2, 1) := by decide +kernel
theorem d1_11 : decode method_2_code 11 = .ok (.bipush 8, 2) := by decide +kernel
theorem d1_13 : decode method_2_code 13 = .ok (.lushr, 1) := by decide +kernel
theorem d1_14 : decode method_2_code 14 = .ok (.l2i, 1) := by decide +kernel
theorem d1_15 : decode method_2_code 15 = .ok (.i2b, 1) := by decide +kernel
theorem d1_16 : decode method_2_code 16 = .ok (.bastore, 1) := by decide +kernel
theorem d1_17 : decode method_2_code 17 = .ok (.aload_n 0, 1) := by decide +kernel
theorem d1_18 : decode method_2_code 18 = .ok (.iload_n 1, 1) := by decide +kernel
theorem d1_19 : decode method_2_code 19 = .ok (.iconst 2, 1) := by decide +kernel
theorem d1_20 : decode method_2_code 20 = .ok (.iadd, 1) := by decide +kernel
theorem d1_21 : decode method_2_code 21 = .ok (.lload_n 2, 1) := by decide +kernel
theorem d1_22 : decode method_2_code 22 = .ok (.bipush 16, 2) := by decide +kernel
theorem d1_24 : decode method_2_code 24 = .ok (.lushr, 1) := by decide +kernel
theorem d1_25 : decode method_2_code 25 = .ok (.l2i, 1) := by decide +kernel
theorem d1_26 : decode method_2_code 26 = .ok (.i2b, 1) := by decide +kernel
theorem d1_27 : decode method_2_code 27 = .ok (.bastore, 1) := by decide +kernel
theorem d1_28 : decode method_2_code 28 = .ok (.aload_n 0, 1) := by decide +kernel
theorem d1_29 : decode method_2_code 29 = .ok (.iload_n 1, 1) := by decide +kernel
theorem d1_30 : decode method_2_code 30 = .ok (.iconst 3, 1) := by decide +kernel
theorem d1_31 : decode method_2_code 31 = .ok (.iadd, 1) := by decide +kernel
theorem d1_32 : decode method_2_code 32 = .ok (.lload_n 2, 1) := by decide +kernel
theorem d1_33 : decode method_2_code 33 = .ok (.bipush 24, 2) := by decide +kernel
theorem d1_35 : decode method_2_code 35 = .ok (.lushr, 1) := by decide +kernel
theorem d1_36 : decode method_2_code 36 = .ok (.l2i, 1) := by decide +kernel
theorem d1_37 : decode method_2_code 37 = .ok (.i2b, 1) := by decide +kernel
theorem d1_38 : decode method_2_code 38 = .ok (.bastore, 1) := by decide +kernel
theorem d1_39 : decode method_2_code 39 = .ok (.aload_n 0, 1) := by decide +kernel
theorem d1_40 : decode method_2_code 40 = .ok (.iload_n 1, 1) := by decide +kernel
theorem d1_41 : decode method_2_code 41 = .ok (.iconst 4, 1) := by decide +kernel
theorem d1_42 : decode method_2_code 42 = .ok (.iadd, 1) := by decide +kernel
theorem d1_43 : decode method_2_code 43 = .ok (.lload_n 2, 1) := by decide +kernel
theorem d1_44 : decode method_2_code 44 = .ok (.bipush 32, 2) := by decide +kernel
theorem d1_46 : decode method_2_code 46 = .ok (.lushr, 1) := by decide +kernel
theorem d1_47 : decode method_2_code 47 = .ok (.l2i, 1) := by decide +kernel
theorem d1_48 : decode method_2_code 48 = .ok (.i2b, 1) := by decide +kernel
theorem d1_49 : decode method_2_code 49 = .ok (.bastore, 1) := by decide +kernel
theorem d1_50 : decode method_2_code 50 = .ok (.aload_n 0, 1) := by decide +kernel
theorem d1_51 : decode method_2_code 51 = .ok (.iload_n 1, 1) := by decide +kernel
theorem d1_52 : decode method_2_code 52 = .ok (.iconst 5, 1) := by decide +kernel
theorem d1_53 : decode method_2_code 53 = .ok (.iadd, 1) := by decide +kernel
theorem d1_54 : decode method_2_code 54 = .ok (.lload_n 2, 1) := by decide +kernel
theorem d1_55 : decode method_2_code 55 = .ok (.bipush 40, 2) := by decide +kernel
theorem d1_57 : decode method_2_code 57 = .ok (.lushr, 1) := by decide +kernel
theorem d1_58 : decode method_2_code 58 = .ok (.l2i, 1) := by decide +kernel
theorem d1_59 : decode method_2_code 59 = .ok (.i2b, 1) := by decide +kernel
theorem d1_60 : decode method_2_code 60 = .ok (.bastore, 1) := by decide +kernel
theorem d1_61 : decode method_2_code 61 = .ok (.aload_n 0, 1) := by decide +kernel
theorem d1_62 : decode method_2_code 62 = .ok (.iload_n 1, 1) := by decide +kernel
theorem d1_63 : decode method_2_code 63 = .ok (.bipush 6, 2) := by decide +kernel
theorem d1_65 : decode method_2_code 65 = .ok (.iadd, 1) := by decide +kernel
theorem d1_66 : decode method_2_code 66 = .ok (.lload_n 2, 1) := by decide +kernel
theorem d1_67 : decode method_2_code 67 = .ok (.bipush 48, 2) := by decide +kernel
theorem d1_69 : decode method_2_code 69 = .ok (.lushr, 1) := by decide +kernel
theorem d1_70 : decode method_2_code 70 = .ok (.l2i, 1) := by decide +kernel
theorem d1_71 : decode method_2_code 71 = .ok (.i2b, 1) := by decide +kernel
theorem d1_72 : decode method_2_code 72 = .ok (.bastore, 1) := by decide +kernel
theorem d1_73 : decode method_2_code 73 = .ok (.aload_n 0, 1) := by decide +kernel
theorem d1_74 : decode method_2_code 74 = .ok (.iload_n 1, 1) := by decide +kernel
theorem d1_75 : decode method_2_code 75 = .ok (.bipush 7, 2) := by decide +kernel
theorem d1_77 : decode method_2_code 77 = .ok (.iadd, 1) := by decide +kernel
theorem d1_78 : decode method_2_code 78 = .ok (.lload_n 2, 1) := by decide +kernel
theorem d1_79 : decode method_2_code 79 = .ok (.bipush 56, 2) := by decide +kernel
theorem d1_81 : decode method_2_code 81 = .ok (.lushr, 1) := by decide +kernel
theorem d1_82 : decode method_2_code 82 = .ok (.l2i, 1) := by decide +kernel
theorem d1_83 : decode method_2_code 83 = .ok (.i2b, 1) := by decide +kernel
theorem d1_84 : decode method_2_code 84 = .ok (.bastore, 1) := by decide +kernel
theorem d1_85 : decode method_2_code 85 = .ok (.return_, 1) := by decide +kernel
theorem pn_1 : plainName "com/example/answer_once/answeronce/model/FingerprintOfDigestPinLaw" = true := by first | (simp [plainName, overriddenIn]; done) | decide +kernel
theorem ef_rm1 (m : MethodId) (a1 : Addr) (p2 : Int32) (q3 : Int64) : entryFrame m #[(.ref a1), (.int p2), (.long q3)] 4 = mkF m 0 #[.val (.ref a1), .val (.int p2), .val (.long q3), .second] [] := by first | (simp [entryFrame, mkF, argsToLocals, Value.category]; done) | rfl
def Q1 (Z : State) (a1 : Addr) (p2 : Int32) (q3 : Int64) (k : ClassId) (vs : List Value) (h0 : Heap) (n0 : Nat) (v : Option Value) (h : Heap) (L : List Loc) : Prop := v = none ∧ Fr n0 L ∧ Keep h0 h [a1] ∧ Arv Z h a1 k .byte (32 : Int32) (put8 vs p2.toNatClampNeg q3) (.int (0 : Int32))
set_option maxRecDepth 65536 in
set_option maxHeartbeats 40000000 in
theorem rm1 (l : Launch) (Z : State) (a0 : Array Value) (hw : ∀ d ∈ tables_1, d.before a0 Z = true) (ws : List Jvm.Cond) (a1 : Addr) (p2 : Int32) (q3 : Int64) (k : ClassId) (vs : List Value) (h0 : Heap) (n0 : Nat) (Z0 : n0 ≤ h0.size) (VA : Arv Z h0 a1 k .byte (32 : Int32) vs (.int (0 : Int32))) (hl : vs.length = 32) (hp : Four p2) (g_a1 : n0 ≤ a1) :
    MetFree l (⟨"com/example/answer_once/answeronce/model/FingerprintOfDigestPinLaw", "put", "([BIJ)V"⟩ : MethodName) (head1 (Jvm.Cond.code (⟨"com/example/answer_once/answeronce/model/FingerprintOfDigestPinLaw", "put", "([BIJ)V"⟩ : MethodName) method_2_code 4 none :: ws) ({ frames := 0, cells := 0, slots := 0, locals := 0 } : Room)) (fun a U => a = #[(.ref a1), (.int p2), (.long q3)] ∧ Z.Warmed39 U.vm ∧ U.heap = h0) (fun _ _ _ _ _ => True) (fun _ U o U' => ∃ v L, o = .returned v ∧ Q1 Z a1 p2 q3 k vs h0 n0 v U'.heap L ∧ FrameEnd U o U' L ({ frames := 0, cells := 0, slots := 0, locals := 0 } : Room).cells ({ frames := 0, cells := 0, slots := 0, locals := 0 } : Room).slots) := by
  refine MetFree.of_bodySF (plainFor_of_name pn_1) hisR ?_
  intro p e s m args below meth c s₁ Bd hml0 hP hK
  obtain ⟨rfl, hZ, hh⟩ := hP
  have hx := Bd.exec
  have hby := Bd.bytes
  have hml : c.maxLocals = 4 := hml0
  have hown : s.vm.findClass "com/example/answer_once/answeronce/model/FingerprintOfDigestPinLaw" = some m.cls := findClass_of_methodNamed Bd.named
  have hnm := (name_of_methodNamed Bd.named Bd.method).1
  have X0 : Stand p l e ({ frames := 0, cells := 0, slots := 0, locals := 0 } : Room) s m #[(.ref a1), (.int p2), (.long q3)] below meth c s₁ [] 0 0 := Stand.of_body Bd
  have e0 : s₁.heap = h0 := by rw [← hh, Bd.state]; rfl
  have N0 := Fr.nil n0
  obtain ⟨G, hG⟩ : ∃ G : State → Prop, G = OwnG p e below s ({ frames := 0, cells := 0, slots := 0, locals := 0 } : Room).cells ({ frames := 0, cells := 0, slots := 0, locals := 0 } : Room).slots (Q1 Z a1 p2 q3 k vs h0 n0) := ⟨_, rfl⟩
  have go : ∀ {A B : State}, (∀ t, Steps p.tables e below A t → Steps p.tables e below B t) → G A → G B := fun h k => by rw [hG] at k ⊢; exact OwnG.go h k
  suffices k0 : G (s₁.setTop (mkF m 0 #[.val (.ref a1), .val (.int p2), .val (.long q3), .second] [])) by
    rw [hG] at k0; exact OwnG.go (fun t k => castTop (ef_rm1 m a1 p2 q3) k) k0
  have K0 : Keep h0 h0 [a1] := Keep.refl _ _
  refine go (fun _ k => XS.aloadN X0.here hx rfl (hb hby d1_0) rfl rfl k) ?_
  show G (s₁.setTop (mkF m 1 #[.val (.ref a1), .val (.int p2), .val (.long q3), .second] [(.ref a1)]))
  refine go (fun _ k => XS.iloadN X0.here hx rfl (hb hby d1_1) rfl k) ?_
  show G (s₁.setTop (mkF m 2 #[.val (.ref a1), .val (.int p2), .val (.long q3), .second] [(.int p2), (.ref a1)]))
  refine go (fun _ k => XS.lloadN X0.here hx rfl (hb hby d1_2) rfl k) ?_
  show G (s₁.setTop (mkF m 3 #[.val (.ref a1), .val (.int p2), .val (.long q3), .second] [(.long q3), (.int p2), (.ref a1)]))
  refine go (fun _ k => XS.l2i X0.here hx rfl (hb hby d1_3) rfl k) ?_
  show G (s₁.setTop (mkF m 4 #[.val (.ref a1), .val (.int p2), .val (.long q3), .second] [(.int (q3.toInt32)), (.int p2), (.ref a1)]))
  refine go (fun _ k => XS.i2b X0.here hx rfl (hb hby d1_4) rfl k) ?_
  show G (s₁.setTop (mkF m 5 #[.val (.ref a1), .val (.int p2), .val (.long q3), .second] [(.int ((q3.toInt32).toInt8.toInt32)), (.int p2), (.ref a1)]))
  obtain ⟨cl1, Ar1, qk1, qs1, qn1, qh1, qg1⟩ := id VA
  obtain ⟨T1, h1, X1, e1, W1, st1⟩ := stB X0 hx hZ e0 Ar1 (j := p2) (inb_of qs1 (own_idx0 p2 hp).1) (g := (mkF m 5 #[.val (.ref a1), .val (.int p2), .val (.long q3), .second] [(.int ((q3.toInt32).toInt8.toInt32)), (.int p2), (.ref a1)])) rfl rfl (hb hby d1_5)
  have V1 : Arv Z h1 a1 k .byte (32 : Int32) (vs.set (p2.toNatClampNeg + 0) (.int (nar .byte ((q3.toInt32).toInt8.toInt32)))) (.int (0 : Int32)) := Arv.set Ar1 qk1 qs1 qn1 qh1 qg1 (fits_nar_byte _) W1 (p2.toNatClampNeg + 0) (own_idx0 p2 hp).2.1 (by rw [hl]; exact (own_idx0 p2 hp).2.2)
  have K1 : Keep h0 h1 [a1] := K0.wr W1 (Or.inl (List.mem_of_getElem? (i := 0) rfl))
  have Zs1 : n0 ≤ h1.size := Nat.le_trans Z0 (Keep.of_wr W1).1
  have N1 := Fr.snoc X1 N0 g_a1
  refine go st1 ?_
  show G (T1.setTop (mkF m 6 #[.val (.ref a1), .val (.int p2), .val (.long q3), .second] []))
  refine go (fun _ k => XS.aloadN X1.here hx rfl (hb hby d1_6) rfl rfl k) ?_
  show G (T1.setTop (mkF m 7 #[.val (.ref a1), .val (.int p2), .val (.long q3), .second] [(.ref a1)]))
  refine go (fun _ k => XS.iloadN X1.here hx rfl (hb hby d1_7) rfl k) ?_
  show G (T1.setTop (mkF m 8 #[.val (.ref a1), .val (.int p2), .val (.long q3), .second] [(.int p2), (.ref a1)]))
  refine go (fun _ k => XS.iconst X1.here hx rfl (hb hby d1_8) k) ?_
  show G (T1.setTop (mkF m 9 #[.val (.ref a1), .val (.int p2), .val (.long q3), .second] [(.int (1 : Int32)), (.int p2), (.ref a1)]))
  refine go (fun _ k => XS.iadd X1.here hx rfl (hb hby d1_9) rfl k) ?_
  show G (T1.setTop (mkF m 10 #[.val (.ref a1), .val (.int p2), .val (.long q3), .second] [(.int (p2 + (1 : Int32))), (.ref a1)]))
  refine go (fun _ k => XS.lloadN X1.here hx rfl (hb hby d1_10) rfl k) ?_
  show G (T1.setTop (mkF m 11 #[.val (.ref a1), .val (.int p2), .val (.long q3), .second] [(.long q3), (.int (p2 + (1 : Int32))), (.ref a1)]))
  refine go (fun _ k => XS.bipush X1.here hx rfl (hb hby d1_11) k) ?_
  show G (T1.setTop (mkF m 13 #[.val (.ref a1), .val (.int p2), .val (.long q3), .second] [(.int (8 : Int32)), (.long q3), (.int (p2 + (1 : Int32))), (.ref a1)]))
  refine go (fun _ k => XS.lushr X1.here hx rfl (hb hby d1_13) rfl k) ?_
  show G (T1.setTop (mkF m 14 #[.val (.ref a1), .val (.int p2), .val (.long q3), .second] [(.long ((q3.toUInt64 >>> ((8 : Int32) &&& 0x3f).toInt64.toUInt64).toInt64)), (.int (p2 + (1 : Int32))), (.ref a1)]))
  refine go (fun _ k => XS.l2i X1.here hx rfl (hb hby d1_14) rfl k) ?_
  show G (T1.setTop (mkF m 15 #[.val (.ref a1), .val (.int p2), .val (.long q3), .second] [(.int (((q3.toUInt64 >>> ((8 : Int32) &&& 0x3f).toInt64.toUInt64).toInt64).toInt32)), (.int (p2 + (1 : Int32))), (.ref a1)]))
  refine go (fun _ k => XS.i2b X1.here hx rfl (hb hby d1_15) rfl k) ?_
  show G (T1.setTop (mkF m 16 #[.val (.ref a1), .val (.int p2), .val (.long q3), .second] [(.int ((((q3.toUInt64 >>> ((8 : Int32) &&& 0x3f).toInt64.toUInt64).toInt64).toInt32).toInt8.toInt32)), (.int (p2 + (1 : Int32))), (.ref a1)]))
  obtain ⟨cl2, Ar2, qk2, qs2, qn2, qh2, qg2⟩ := id V1
  obtain ⟨T2, h2, X2, e2, W2, st2⟩ := stB X1 hx hZ e1 Ar2 (j := (p2 + (1 : Int32))) (inb_of qs2 (own_idx p2 hp 1 (by decide)).1) (g := (mkF m 16 #[.val (.ref a1), .val (.int p2), .val (.long q3), .second] [(.int ((((q3.toUInt64 >>> ((8 : Int32) &&& 0x3f).toInt64.toUInt64).toInt64).toInt32).toInt8.toInt32)), (.int (p2 + (1 : Int32))), (.ref a1)])) rfl rfl (hb hby d1_16)
  have V2 : Arv Z h2 a1 k .byte (32 : Int32) ((vs.set (p2.toNatClampNeg + 0) (.int (nar .byte ((q3.toInt32).toInt8.toInt32)))).set (p2.toNatClampNeg + 1) (.int (nar .byte ((((q3.toUInt64 >>> ((8 : Int32) &&& 0x3f).toInt64.toUInt64).toInt64).toInt32).toInt8.toInt32)))) (.int (0 : Int32)) := Arv.set Ar2 qk2 qs2 qn2 qh2 qg2 (fits_nar_byte _) W2 (p2.toNatClampNeg + 1) (own_idx p2 hp 1 (by decide)).2.1 (by simp only [List.length_set]; rw [hl]; exact (own_idx p2 hp 1 (by decide)).2.2)
  have K2 : Keep h0 h2 [a1] := K1.wr W2 (Or.inl (List.mem_of_getElem? (i := 0) rfl))
  have Zs2 : n0 ≤ h2.size := Nat.le_trans Zs1 (Keep.of_wr W2).1
  have N2 := Fr.snoc X2 N1 g_a1
  refine go st2 ?_
  show G (T2.setTop (mkF m 17 #[.val (.ref a1), .val (.int p2), .val (.long q3), .second] []))
  refine go (fun _ k => XS.aloadN X2.here hx rfl (hb hby d1_17) rfl rfl k) ?_
  show G (T2.setTop (mkF m 18 #[.val (.ref a1), .val (.int p2), .val (.long q3), .second] [(.ref a1)]))
  refine go (fun _ k => XS.iloadN X2.here hx rfl (hb hby d1_18) rfl k) ?_
  show G (T2.setTop (mkF m 19 #[.val (.ref a1), .val (.int p2), .val (.long q3), .second] [(.int p2), (.ref a1)]))
  refine go (fun _ k => XS.iconst X2.here hx rfl (hb hby d1_19) k) ?_
  show G (T2.setTop (mkF m 20 #[.val (.ref a1), .val (.int p2), .val (.long q3), .second] [(.int (2 : Int32)), (.int p2), (.ref a1)]))
  refine go (fun _ k => XS.iadd X2.here hx rfl (hb hby d1_20) rfl k) ?_
  show G (T2.setTop (mkF m 21 #[.val (.ref a1), .val (.int p2), .val (.long q3), .second] [(.int (p2 + (2 : Int32))), (.ref a1)]))
  refine go (fun _ k => XS.lloadN X2.here hx rfl (hb hby d1_21) rfl k) ?_
  show G (T2.setTop (mkF m 22 #[.val (.ref a1), .val (.int p2), .val (.long q3), .second] [(.long q3), (.int (p2 + (2 : Int32))), (.ref a1)]))
  refine go (fun _ k => XS.bipush X2.here hx rfl (hb hby d1_22) k) ?_
  show G (T2.setTop (mkF m 24 #[.val (.ref a1), .val (.int p2), .val (.long q3), .second] [(.int (16 : Int32)), (.long q3), (.int (p2 + (2 : Int32))), (.ref a1)]))
  refine go (fun _ k => XS.lushr X2.here hx rfl (hb hby d1_24) rfl k) ?_
  show G (T2.setTop (mkF m 25 #[.val (.ref a1), .val (.int p2), .val (.long q3), .second] [(.long ((q3.toUInt64 >>> ((16 : Int32) &&& 0x3f).toInt64.toUInt64).toInt64)), (.int (p2 + (2 : Int32))), (.ref a1)]))
  refine go (fun _ k => XS.l2i X2.here hx rfl (hb hby d1_25) rfl k) ?_
  show G (T2.setTop (mkF m 26 #[.val (.ref a1), .val (.int p2), .val (.long q3), .second] [(.int (((q3.toUInt64 >>> ((16 : Int32) &&& 0x3f).toInt64.toUInt64).toInt64).toInt32)), (.int (p2 + (2 : Int32))), (.ref a1)]))
  refine go (fun _ k => XS.i2b X2.here hx rfl (hb hby d1_26) rfl k) ?_
  show G (T2.setTop (mkF m 27 #[.val (.ref a1), .val (.int p2), .val (.long q3), .second] [(.int ((((q3.toUInt64 >>> ((16 : Int32) &&& 0x3f).toInt64.toUInt64).toInt64).toInt32).toInt8.toInt32)), (.int (p2 + (2 : Int32))), (.ref a1)]))
  obtain ⟨cl3, Ar3, qk3, qs3, qn3, qh3, qg3⟩ := id V2
  obtain ⟨T3, h3, X3, e3, W3, st3⟩ := stB X2 hx hZ e2 Ar3 (j := (p2 + (2 : Int32))) (inb_of qs3 (own_idx p2 hp 2 (by decide)).1) (g := (mkF m 27 #[.val (.ref a1), .val (.int p2), .val (.long q3), .second] [(.int ((((q3.toUInt64 >>> ((16 : Int32) &&& 0x3f).toInt64.toUInt64).toInt64).toInt32).toInt8.toInt32)), (.int (p2 + (2 : Int32))), (.ref a1)])) rfl rfl (hb hby d1_27)
  have V3 : Arv Z h3 a1 k .byte (32 : Int32) (((vs.set (p2.toNatClampNeg + 0) (.int (nar .byte ((q3.toInt32).toInt8.toInt32)))).set (p2.toNatClampNeg + 1) (.int (nar .byte ((((q3.toUInt64 >>> ((8 : Int32) &&& 0x3f).toInt64.toUInt64).toInt64).toInt32).toInt8.toInt32)))).set (p2.toNatClampNeg + 2) (.int (nar .byte ((((q3.toUInt64 >>> ((16 : Int32) &&& 0x3f).toInt64.toUInt64).toInt64).toInt32).toInt8.toInt32)))) (.int (0 : Int32)) := Arv.set Ar3 qk3 qs3 qn3 qh3 qg3 (fits_nar_byte _) W3 (p2.toNatClampNeg + 2) (own_idx p2 hp 2 (by decide)).2.1 (by simp only [List.length_set]; rw [hl]; exact (own_idx p2 hp 2 (by decide)).2.2)
  have K3 : Keep h0 h3 [a1] := K2.wr W3 (Or.inl (List.mem_of_getElem? (i := 0) rfl))
  have Zs3 : n0 ≤ h3.size := Nat.le_trans Zs2 (Keep.of_wr W3).1
  have N3 := Fr.snoc X3 N2 g_a1
  refine go st3 ?_
  show G (T3.setTop (mkF m 28 #[.val (.ref a1), .val (.int p2), .val (.long q3), .second] []))
  refine go (fun _ k => XS.aloadN X3.here hx rfl (hb hby d1_28) rfl rfl k) ?_
  show G (T3.setTop (mkF m 29 #[.val (.ref a1), .val (.int p2), .val (.long q3), .second] [(.ref a1)]))
  refine go (fun _ k => XS.iloadN X3.here hx rfl (hb hby d1_29) rfl k) ?_
  show G (T3.setTop (mkF m 30 #[.val (.ref a1), .val (.int p2), .val (.long q3), .second] [(.int p2), (.ref a1)]))
  refine go (fun _ k => XS.iconst X3.here hx rfl (hb hby d1_30) k) ?_
  show G (T3.setTop (mkF m 31 #[.val (.ref a1), .val (.int p2), .val (.long q3), .second] [(.int (3 : Int32)), (.int p2), (.ref a1)]))
  refine go (fun _ k => XS.iadd X3.here hx rfl (hb hby d1_31) rfl k) ?_
  show G (T3.setTop (mkF m 32 #[.val (.ref a1), .val (.int p2), .val (.long q3), .second] [(.int (p2 + (3 : Int32))), (.ref a1)]))
  refine go (fun _ k => XS.lloadN X3.here hx rfl (hb hby d1_32) rfl k) ?_
  show G (T3.setTop (mkF m 33 #[.val (.ref a1), .val (.int p2), .val (.long q3), .second] [(.long q3), (.int (p2 + (3 : Int32))), (.ref a1)]))
  refine go (fun _ k => XS.bipush X3.here hx rfl (hb hby d1_33) k) ?_
  show G (T3.setTop (mkF m 35 #[.val (.ref a1), .val (.int p2), .val (.long q3), .second] [(.int (24 : Int32)), (.long q3), (.int (p2 + (3 : Int32))), (.ref a1)]))
  refine go (fun _ k => XS.lushr X3.here hx rfl (hb hby d1_35) rfl k) ?_
  show G (T3.setTop (mkF m 36 #[.val (.ref a1), .val (.int p2), .val (.long q3), .second] [(.long ((q3.toUInt64 >>> ((24 : Int32) &&& 0x3f).toInt64.toUInt64).toInt64)), (.int (p2 + (3 : Int32))), (.ref a1)]))
  refine go (fun _ k => XS.l2i X3.here hx rfl (hb hby d1_36) rfl k) ?_
  show G (T3.setTop (mkF m 37 #[.val (.ref a1), .val (.int p2), .val (.long q3), .second] [(.int (((q3.toUInt64 >>> ((24 : Int32) &&& 0x3f).toInt64.toUInt64).toInt64).toInt32)), (.int (p2 + (3 : Int32))), (.ref a1)]))
  refine go (fun _ k => XS.i2b X3.here hx rfl (hb hby d1_37) rfl k) ?_
  show G (T3.setTop (mkF m 38 #[.val (.ref a1), .val (.int p2), .val (.long q3), .second] [(.int ((((q3.toUInt64 >>> ((24 : Int32) &&& 0x3f).toInt64.toUInt64).toInt64).toInt32).toInt8.toInt32)), (.int (p2 + (3 : Int32))), (.ref a1)]))
  obtain ⟨cl4, Ar4, qk4, qs4, qn4, qh4, qg4⟩ := id V3
  obtain ⟨T4, h4, X4, e4, W4, st4⟩ := stB X3 hx hZ e3 Ar4 (j := (p2 + (3 : Int32))) (inb_of qs4 (own_idx p2 hp 3 (by decide)).1) (g := (mkF m 38 #[.val (.ref a1), .val (.int p2), .val (.long q3), .second] [(.int ((((q3.toUInt64 >>> ((24 : Int32) &&& 0x3f).toInt64.toUInt64).toInt64).toInt32).toInt8.toInt32)), (.int (p2 + (3 : Int32))), (.ref a1)])) rfl rfl (hb hby d1_38)
  have V4 : Arv Z h4 a1 k .byte (32 : Int32) ((((vs.set (p2.toNatClampNeg + 0) (.int (nar .byte ((q3.toInt32).toInt8.toInt32)))).set (p2.toNatClampNeg + 1) (.int (nar .byte ((((q3.toUInt64 >>> ((8 : Int32) &&& 0x3f).toInt64.toUInt64).toInt64).toInt32).toInt8.toInt32)))).set (p2.toNatClampNeg + 2) (.int (nar .byte ((((q3.toUInt64 >>> ((16 : Int32) &&& 0x3f).toInt64.toUInt64).toInt64).toInt32).toInt8.toInt32)))).set (p2.toNatClampNeg + 3) (.int (nar .byte ((((q3.toUInt64 >>> ((24 : Int32) &&& 0x3f).toInt64.toUInt64).toInt64).toInt32).toInt8.toInt32)))) (.int (0 : Int32)) := Arv.set Ar4 qk4 qs4 qn4 qh4 qg4 (fits_nar_byte _) W4 (p2.toNatClampNeg + 3) (own_idx p2 hp 3 (by decide)).2.1 (by simp only [List.length_set]; rw [hl]; exact (own_idx p2 hp 3 (by decide)).2.2)
  have K4 : Keep h0 h4 [a1] := K3.wr W4 (Or.inl (List.mem_of_getElem? (i := 0) rfl))
  have Zs4 : n0 ≤ h4.size := Nat.le_trans Zs3 (Keep.of_wr W4).1
  have N4 := Fr.snoc X4 N3 g_a1
  refine go st4 ?_
  show G (T4.setTop (mkF m 39 #[.val (.ref a1), .val (.int p2), .val (.long q3), .second] []))
  refine go (fun _ k => XS.aloadN X4.here hx rfl (hb hby d1_39) rfl rfl k) ?_
  show G (T4.setTop (mkF m 40 #[.val (.ref a1), .val (.int p2), .val (.long q3), .second] [(.ref a1)]))
  refine go (fun _ k => XS.iloadN X4.here hx rfl (hb hby d1_40) rfl k) ?_
  show G (T4.setTop (mkF m 41 #[.val (.ref a1), .val (.int p2), .val (.long q3), .second] [(.int p2), (.ref a1)]))
  refine go (fun _ k => XS.iconst X4.here hx rfl (hb hby d1_41) k) ?_
  show G (T4.setTop (mkF m 42 #[.val (.ref a1), .val (.int p2), .val (.long q3), .second] [(.int (4 : Int32)), (.int p2), (.ref a1)]))
  refine go (fun _ k => XS.iadd X4.here hx rfl (hb hby d1_42) rfl k) ?_
  show G (T4.setTop (mkF m 43 #[.val (.ref a1), .val (.int p2), .val (.long q3), .second] [(.int (p2 + (4 : Int32))), (.ref a1)]))
  refine go (fun _ k => XS.lloadN X4.here hx rfl (hb hby d1_43) rfl k) ?_
  show G (T4.setTop (mkF m 44 #[.val (.ref a1), .val (.int p2), .val (.long q3), .second] [(.long q3), (.int (p2 + (4 : Int32))), (.ref a1)]))
  refine go (fun _ k => XS.bipush X4.here hx rfl (hb hby d1_44) k) ?_
  show G (T4.setTop (mkF m 46 #[.val (.ref a1), .val (.int p2), .val (.long q3), .second] [(.int (32 : Int32)), (.long q3), (.int (p2 + (4 : Int32))), (.ref a1)]))
  refine go (fun _ k => XS.lushr X4.here hx rfl (hb hby d1_46) rfl k) ?_
  show G (T4.setTop (mkF m 47 #[.val (.ref a1), .val (.int p2), .val (.long q3), .second] [(.long ((q3.toUInt64 >>> ((32 : Int32) &&& 0x3f).toInt64.toUInt64).toInt64)), (.int (p2 + (4 : Int32))), (.ref a1)]))
  refine go (fun _ k => XS.l2i X4.here hx rfl (hb hby d1_47) rfl k) ?_
  show G (T4.setTop (mkF m 48 #[.val (.ref a1), .val (.int p2), .val (.long q3), .second] [(.int (((q3.toUInt64 >>> ((32 : Int32) &&& 0x3f).toInt64.toUInt64).toInt64).toInt32)), (.int (p2 + (4 : Int32))), (.ref a1)]))
  refine go (fun _ k => XS.i2b X4.here hx rfl (hb hby d1_48) rfl k) ?_
  show G (T4.setTop (mkF m 49 #[.val (.ref a1), .val (.int p2), .val (.long q3), .second] [(.int ((((q3.toUInt64 >>> ((32 : Int32) &&& 0x3f).toInt64.toUInt64).toInt64).toInt32).toInt8.toInt32)), (.int (p2 + (4 : Int32))), (.ref a1)]))
  obtain ⟨cl5, Ar5, qk5, qs5, qn5, qh5, qg5⟩ := id V4
  obtain ⟨T5, h5, X5, e5, W5, st5⟩ := stB X4 hx hZ e4 Ar5 (j := (p2 + (4 : Int32))) (inb_of qs5 (own_idx p2 hp 4 (by decide)).1) (g := (mkF m 49 #[.val (.ref a1), .val (.int p2), .val (.long q3), .second] [(.int ((((q3.toUInt64 >>> ((32 : Int32) &&& 0x3f).toInt64.toUInt64).toInt64).toInt32).toInt8.toInt32)), (.int (p2 + (4 : Int32))), (.ref a1)])) rfl rfl (hb hby d1_49)
  have V5 : Arv Z h5 a1 k .byte (32 : Int32) (((((vs.set (p2.toNatClampNeg + 0) (.int (nar .byte ((q3.toInt32).toInt8.toInt32)))).set (p2.toNatClampNeg + 1) (.int (nar .byte ((((q3.toUInt64 >>> ((8 : Int32) &&& 0x3f).toInt64.toUInt64).toInt64).toInt32).toInt8.toInt32)))).set (p2.toNatClampNeg + 2) (.int (nar .byte ((((q3.toUInt64 >>> ((16 : Int32) &&& 0x3f).toInt64.toUInt64).toInt64).toInt32).toInt8.toInt32)))).set (p2.toNatClampNeg + 3) (.int (nar .byte ((((q3.toUInt64 >>> ((24 : Int32) &&& 0x3f).toInt64.toUInt64).toInt64).toInt32).toInt8.toInt32)))).set (p2.toNatClampNeg + 4) (.int (nar .byte ((((q3.toUInt64 >>> ((32 : Int32) &&& 0x3f).toInt64.toUInt64).toInt64).toInt32).toInt8.toInt32)))) (.int (0 : Int32)) := Arv.set Ar5 qk5 qs5 qn5 qh5 qg5 (fits_nar_byte _) W5 (p2.toNatClampNeg + 4) (own_idx p2 hp 4 (by decide)).2.1 (by simp only [List.length_set]; rw [hl]; exact (own_idx p2 hp 4 (by decide)).2.2)
  have K5 : Keep h0 h5 [a1] := K4.wr W5 (Or.inl (List.mem_of_getElem? (i := 0) rfl))
  have Zs5 : n0 ≤ h5.size := Nat.le_trans Zs4 (Keep.of_wr W5).1
  have N5 := Fr.snoc X5 N4 g_a1
  refine go st5 ?_
  show G (T5.setTop (mkF m 50 #[.val (.ref a1), .val (.int p2), .val (.long q3), .second] []))
  refine go (fun _ k => XS.aloadN X5.here hx rfl (hb hby d1_50) rfl rfl k) ?_
  show G (T5.setTop (mkF m 51 #[.val (.ref a1), .val (.int p2), .val (.long q3), .second] [(.ref a1)]))
  refine go (fun _ k => XS.iloadN X5.here hx rfl (hb hby d1_51) rfl k) ?_
  show G (T5.setTop (mkF m 52 #[.val (.ref a1), .val (.int p2), .val (.long q3), .second] [(.int p2), (.ref a1)]))
  refine go (fun _ k => XS.iconst X5.here hx rfl (hb hby d1_52) k) ?_
  show G (T5.setTop (mkF m 53 #[.val (.ref a1), .val (.int p2), .val (.long q3), .second] [(.int (5 : Int32)), (.int p2), (.ref a1)]))
  refine go (fun _ k => XS.iadd X5.here hx rfl (hb hby d1_53) rfl k) ?_
  show G (T5.setTop (mkF m 54 #[.val (.ref a1), .val (.int p2), .val (.long q3), .second] [(.int (p2 + (5 : Int32))), (.ref a1)]))
  refine go (fun _ k => XS.lloadN X5.here hx rfl (hb hby d1_54) rfl k) ?_
  show G (T5.setTop (mkF m 55 #[.val (.ref a1), .val (.int p2), .val (.long q3), .second] [(.long q3), (.int (p2 + (5 : Int32))), (.ref a1)]))
  refine go (fun _ k => XS.bipush X5.here hx rfl (hb hby d1_55) k) ?_
  show G (T5.setTop (mkF m 57 #[.val (.ref a1), .val (.int p2), .val (.long q3), .second] [(.int (40 : Int32)), (.long q3), (.int (p2 + (5 : Int32))), (.ref a1)]))
  refine go (fun _ k => XS.lushr X5.here hx rfl (hb hby d1_57) rfl k) ?_
  show G (T5.setTop (mkF m 58 #[.val (.ref a1), .val (.int p2), .val (.long q3), .second] [(.long ((q3.toUInt64 >>> ((40 : Int32) &&& 0x3f).toInt64.toUInt64).toInt64)), (.int (p2 + (5 : Int32))), (.ref a1)]))
  refine go (fun _ k => XS.l2i X5.here hx rfl (hb hby d1_58) rfl k) ?_
  show G (T5.setTop (mkF m 59 #[.val (.ref a1), .val (.int p2), .val (.long q3), .second] [(.int (((q3.toUInt64 >>> ((40 : Int32) &&& 0x3f).toInt64.toUInt64).toInt64).toInt32)), (.int (p2 + (5 : Int32))), (.ref a1)]))
  refine go (fun _ k => XS.i2b X5.here hx rfl (hb hby d1_59) rfl k) ?_
  show G (T5.setTop (mkF m 60 #[.val (.ref a1), .val (.int p2), .val (.long q3), .second] [(.int ((((q3.toUInt64 >>> ((40 : Int32) &&& 0x3f).toInt64.toUInt64).toInt64).toInt32).toInt8.toInt32)), (.int (p2 + (5 : Int32))), (.ref a1)]))
  obtain ⟨cl6, Ar6, qk6, qs6, qn6, qh6, qg6⟩ := id V5
  obtain ⟨T6, h6, X6, e6, W6, st6⟩ := stB X5 hx hZ e5 Ar6 (j := (p2 + (5 : Int32))) (inb_of qs6 (own_idx p2 hp 5 (by decide)).1) (g := (mkF m 60 #[.val (.ref a1), .val (.int p2), .val (.long q3), .second] [(.int ((((q3.toUInt64 >>> ((40 : Int32) &&& 0x3f).toInt64.toUInt64).toInt64).toInt32).toInt8.toInt32)), (.int (p2 + (5 : Int32))), (.ref a1)])) rfl rfl (hb hby d1_60)
  have V6 : Arv Z h6 a1 k .byte (32 : Int32) ((((((vs.set (p2.toNatClampNeg + 0) (.int (nar .byte ((q3.toInt32).toInt8.toInt32)))).set (p2.toNatClampNeg + 1) (.int (nar .byte ((((q3.toUInt64 >>> ((8 : Int32) &&& 0x3f).toInt64.toUInt64).toInt64).toInt32).toInt8.toInt32)))).set (p2.toNatClampNeg + 2) (.int (nar .byte ((((q3.toUInt64 >>> ((16 : Int32) &&& 0x3f).toInt64.toUInt64).toInt64).toInt32).toInt8.toInt32)))).set (p2.toNatClampNeg + 3) (.int (nar .byte ((((q3.toUInt64 >>> ((24 : Int32) &&& 0x3f).toInt64.toUInt64).toInt64).toInt32).toInt8.toInt32)))).set (p2.toNatClampNeg + 4) (.int (nar .byte ((((q3.toUInt64 >>> ((32 : Int32) &&& 0x3f).toInt64.toUInt64).toInt64).toInt32).toInt8.toInt32)))).set (p2.toNatClampNeg + 5) (.int (nar .byte ((((q3.toUInt64 >>> ((40 : Int32) &&& 0x3f).toInt64.toUInt64).toInt64).toInt32).toInt8.toInt32)))) (.int (0 : Int32)) := Arv.set Ar6 qk6 qs6 qn6 qh6 qg6 (fits_nar_byte _) W6 (p2.toNatClampNeg + 5) (own_idx p2 hp 5 (by decide)).2.1 (by simp only [List.length_set]; rw [hl]; exact (own_idx p2 hp 5 (by decide)).2.2)
  have K6 : Keep h0 h6 [a1] := K5.wr W6 (Or.inl (List.mem_of_getElem? (i := 0) rfl))
  have Zs6 : n0 ≤ h6.size := Nat.le_trans Zs5 (Keep.of_wr W6).1
  have N6 := Fr.snoc X6 N5 g_a1
  refine go st6 ?_
  show G (T6.setTop (mkF m 61 #[.val (.ref a1), .val (.int p2), .val (.long q3), .second] []))
  refine go (fun _ k => XS.aloadN X6.here hx rfl (hb hby d1_61) rfl rfl k) ?_
  show G (T6.setTop (mkF m 62 #[.val (.ref a1), .val (.int p2), .val (.long q3), .second] [(.ref a1)]))
  refine go (fun _ k => XS.iloadN X6.here hx rfl (hb hby d1_62) rfl k) ?_
  show G (T6.setTop (mkF m 63 #[.val (.ref a1), .val (.int p2), .val (.long q3), .second] [(.int p2), (.ref a1)]))
  refine go (fun _ k => XS.bipush X6.here hx rfl (hb hby d1_63) k) ?_
  show G (T6.setTop (mkF m 65 #[.val (.ref a1), .val (.int p2), .val (.long q3), .second] [(.int (6 : Int32)), (.int p2), (.ref a1)]))
  refine go (fun _ k => XS.iadd X6.here hx rfl (hb hby d1_65) rfl k) ?_
  show G (T6.setTop (mkF m 66 #[.val (.ref a1), .val (.int p2), .val (.long q3), .second] [(.int (p2 + (6 : Int32))), (.ref a1)]))
  refine go (fun _ k => XS.lloadN X6.here hx rfl (hb hby d1_66) rfl k) ?_
  show G (T6.setTop (mkF m 67 #[.val (.ref a1), .val (.int p2), .val (.long q3), .second] [(.long q3), (.int (p2 + (6 : Int32))), (.ref a1)]))
  refine go (fun _ k => XS.bipush X6.here hx rfl (hb hby d1_67) k) ?_
  show G (T6.setTop (mkF m 69 #[.val (.ref a1), .val (.int p2), .val (.long q3), .second] [(.int (48 : Int32)), (.long q3), (.int (p2 + (6 : Int32))), (.ref a1)]))
  refine go (fun _ k => XS.lushr X6.here hx rfl (hb hby d1_69) rfl k) ?_
  show G (T6.setTop (mkF m 70 #[.val (.ref a1), .val (.int p2), .val (.long q3), .second] [(.long ((q3.toUInt64 >>> ((48 : Int32) &&& 0x3f).toInt64.toUInt64).toInt64)), (.int (p2 + (6 : Int32))), (.ref a1)]))
  refine go (fun _ k => XS.l2i X6.here hx rfl (hb hby d1_70) rfl k) ?_
  show G (T6.setTop (mkF m 71 #[.val (.ref a1), .val (.int p2), .val (.long q3), .second] [(.int (((q3.toUInt64 >>> ((48 : Int32) &&& 0x3f).toInt64.toUInt64).toInt64).toInt32)), (.int (p2 + (6 : Int32))), (.ref a1)]))
  refine go (fun _ k => XS.i2b X6.here hx rfl (hb hby d1_71) rfl k) ?_
  show G (T6.setTop (mkF m 72 #[.val (.ref a1), .val (.int p2), .val (.long q3), .second] [(.int ((((q3.toUInt64 >>> ((48 : Int32) &&& 0x3f).toInt64.toUInt64).toInt64).toInt32).toInt8.toInt32)), (.int (p2 + (6 : Int32))), (.ref a1)]))
  obtain ⟨cl7, Ar7, qk7, qs7, qn7, qh7, qg7⟩ := id V6
  obtain ⟨T7, h7, X7, e7, W7, st7⟩ := stB X6 hx hZ e6 Ar7 (j := (p2 + (6 : Int32))) (inb_of qs7 (own_idx p2 hp 6 (by decide)).1) (g := (mkF m 72 #[.val (.ref a1), .val (.int p2), .val (.long q3), .second] [(.int ((((q3.toUInt64 >>> ((48 : Int32) &&& 0x3f).toInt64.toUInt64).toInt64).toInt32).toInt8.toInt32)), (.int (p2 + (6 : Int32))), (.ref a1)])) rfl rfl (hb hby d1_72)
  have V7 : Arv Z h7 a1 k .byte (32 : Int32) (((((((vs.set (p2.toNatClampNeg + 0) (.int (nar .byte ((q3.toInt32).toInt8.toInt32)))).set (p2.toNatClampNeg + 1) (.int (nar .byte ((((q3.toUInt64 >>> ((8 : Int32) &&& 0x3f).toInt64.toUInt64).toInt64).toInt32).toInt8.toInt32)))).set (p2.toNatClampNeg + 2) (.int (nar .byte ((((q3.toUInt64 >>> ((16 : Int32) &&& 0x3f).toInt64.toUInt64).toInt64).toInt32).toInt8.toInt32)))).set (p2.toNatClampNeg + 3) (.int (nar .byte ((((q3.toUInt64 >>> ((24 : Int32) &&& 0x3f).toInt64.toUInt64).toInt64).toInt32).toInt8.toInt32)))).set (p2.toNatClampNeg + 4) (.int (nar .byte ((((q3.toUInt64 >>> ((32 : Int32) &&& 0x3f).toInt64.toUInt64).toInt64).toInt32).toInt8.toInt32)))).set (p2.toNatClampNeg + 5) (.int (nar .byte ((((q3.toUInt64 >>> ((40 : Int32) &&& 0x3f).toInt64.toUInt64).toInt64).toInt32).toInt8.toInt32)))).set (p2.toNatClampNeg + 6) (.int (nar .byte ((((q3.toUInt64 >>> ((48 : Int32) &&& 0x3f).toInt64.toUInt64).toInt64).toInt32).toInt8.toInt32)))) (.int (0 : Int32)) := Arv.set Ar7 qk7 qs7 qn7 qh7 qg7 (fits_nar_byte _) W7 (p2.toNatClampNeg + 6) (own_idx p2 hp 6 (by decide)).2.1 (by simp only [List.length_set]; rw [hl]; exact (own_idx p2 hp 6 (by decide)).2.2)
  have K7 : Keep h0 h7 [a1] := K6.wr W7 (Or.inl (List.mem_of_getElem? (i := 0) rfl))
  have Zs7 : n0 ≤ h7.size := Nat.le_trans Zs6 (Keep.of_wr W7).1
  have N7 := Fr.snoc X7 N6 g_a1
  refine go st7 ?_
  show G (T7.setTop (mkF m 73 #[.val (.ref a1), .val (.int p2), .val (.long q3), .second] []))
  refine go (fun _ k => XS.aloadN X7.here hx rfl (hb hby d1_73) rfl rfl k) ?_
  show G (T7.setTop (mkF m 74 #[.val (.ref a1), .val (.int p2), .val (.long q3), .second] [(.ref a1)]))
  refine go (fun _ k => XS.iloadN X7.here hx rfl (hb hby d1_74) rfl k) ?_
  show G (T7.setTop (mkF m 75 #[.val (.ref a1), .val (.int p2), .val (.long q3), .second] [(.int p2), (.ref a1)]))
  refine go (fun _ k => XS.bipush X7.here hx rfl (hb hby d1_75) k) ?_
  show G (T7.setTop (mkF m 77 #[.val (.ref a1), .val (.int p2), .val (.long q3), .second] [(.int (7 : Int32)), (.int p2), (.ref a1)]))
  refine go (fun _ k => XS.iadd X7.here hx rfl (hb hby d1_77) rfl k) ?_
  show G (T7.setTop (mkF m 78 #[.val (.ref a1), .val (.int p2), .val (.long q3), .second] [(.int (p2 + (7 : Int32))), (.ref a1)]))
  refine go (fun _ k => XS.lloadN X7.here hx rfl (hb hby d1_78) rfl k) ?_
  show G (T7.setTop (mkF m 79 #[.val (.ref a1), .val (.int p2), .val (.long q3), .second] [(.long q3), (.int (p2 + (7 : Int32))), (.ref a1)]))
  refine go (fun _ k => XS.bipush X7.here hx rfl (hb hby d1_79) k) ?_
  show G (T7.setTop (mkF m 81 #[.val (.ref a1), .val (.int p2), .val (.long q3), .second] [(.int (56 : Int32)), (.long q3), (.int (p2 + (7 : Int32))), (.ref a1)]))
  refine go (fun _ k => XS.lushr X7.here hx rfl (hb hby d1_81) rfl k) ?_
  show G (T7.setTop (mkF m 82 #[.val (.ref a1), .val (.int p2), .val (.long q3), .second] [(.long ((q3.toUInt64 >>> ((56 : Int32) &&& 0x3f).toInt64.toUInt64).toInt64)), (.int (p2 + (7 : Int32))), (.ref a1)]))
  refine go (fun _ k => XS.l2i X7.here hx rfl (hb hby d1_82) rfl k) ?_
  show G (T7.setTop (mkF m 83 #[.val (.ref a1), .val (.int p2), .val (.long q3), .second] [(.int (((q3.toUInt64 >>> ((56 : Int32) &&& 0x3f).toInt64.toUInt64).toInt64).toInt32)), (.int (p2 + (7 : Int32))), (.ref a1)]))
  refine go (fun _ k => XS.i2b X7.here hx rfl (hb hby d1_83) rfl k) ?_
  show G (T7.setTop (mkF m 84 #[.val (.ref a1), .val (.int p2), .val (.long q3), .second] [(.int ((((q3.toUInt64 >>> ((56 : Int32) &&& 0x3f).toInt64.toUInt64).toInt64).toInt32).toInt8.toInt32)), (.int (p2 + (7 : Int32))), (.ref a1)]))
  obtain ⟨cl8, Ar8, qk8, qs8, qn8, qh8, qg8⟩ := id V7
  obtain ⟨T8, h8, X8, e8, W8, st8⟩ := stB X7 hx hZ e7 Ar8 (j := (p2 + (7 : Int32))) (inb_of qs8 (own_idx p2 hp 7 (by decide)).1) (g := (mkF m 84 #[.val (.ref a1), .val (.int p2), .val (.long q3), .second] [(.int ((((q3.toUInt64 >>> ((56 : Int32) &&& 0x3f).toInt64.toUInt64).toInt64).toInt32).toInt8.toInt32)), (.int (p2 + (7 : Int32))), (.ref a1)])) rfl rfl (hb hby d1_84)
  have V8 : Arv Z h8 a1 k .byte (32 : Int32) ((((((((vs.set (p2.toNatClampNeg + 0) (.int (nar .byte ((q3.toInt32).toInt8.toInt32)))).set (p2.toNatClampNeg + 1) (.int (nar .byte ((((q3.toUInt64 >>> ((8 : Int32) &&& 0x3f).toInt64.toUInt64).toInt64).toInt32).toInt8.toInt32)))).set (p2.toNatClampNeg + 2) (.int (nar .byte ((((q3.toUInt64 >>> ((16 : Int32) &&& 0x3f).toInt64.toUInt64).toInt64).toInt32).toInt8.toInt32)))).set (p2.toNatClampNeg + 3) (.int (nar .byte ((((q3.toUInt64 >>> ((24 : Int32) &&& 0x3f).toInt64.toUInt64).toInt64).toInt32).toInt8.toInt32)))).set (p2.toNatClampNeg + 4) (.int (nar .byte ((((q3.toUInt64 >>> ((32 : Int32) &&& 0x3f).toInt64.toUInt64).toInt64).toInt32).toInt8.toInt32)))).set (p2.toNatClampNeg + 5) (.int (nar .byte ((((q3.toUInt64 >>> ((40 : Int32) &&& 0x3f).toInt64.toUInt64).toInt64).toInt32).toInt8.toInt32)))).set (p2.toNatClampNeg + 6) (.int (nar .byte ((((q3.toUInt64 >>> ((48 : Int32) &&& 0x3f).toInt64.toUInt64).toInt64).toInt32).toInt8.toInt32)))).set (p2.toNatClampNeg + 7) (.int (nar .byte ((((q3.toUInt64 >>> ((56 : Int32) &&& 0x3f).toInt64.toUInt64).toInt64).toInt32).toInt8.toInt32)))) (.int (0 : Int32)) := Arv.set Ar8 qk8 qs8 qn8 qh8 qg8 (fits_nar_byte _) W8 (p2.toNatClampNeg + 7) (own_idx p2 hp 7 (by decide)).2.1 (by simp only [List.length_set]; rw [hl]; exact (own_idx p2 hp 7 (by decide)).2.2)
  have K8 : Keep h0 h8 [a1] := K7.wr W8 (Or.inl (List.mem_of_getElem? (i := 0) rfl))
  have Zs8 : n0 ≤ h8.size := Nat.le_trans Zs7 (Keep.of_wr W8).1
  have N8 := Fr.snoc X8 N7 g_a1
  refine go st8 ?_
  show G (T8.setTop (mkF m 85 #[.val (.ref a1), .val (.int p2), .val (.long q3), .second] []))
  rw [hG]
  refine own_fin X8 Bd.notSynchronized (v := none) (fun _ => rfl) (fun fs hr => X8.returnOut hx Bd.returns (hb hby d1_85) hr) ?_ (by decide) (by decide)
  show Q1 Z a1 p2 q3 k vs h0 n0 (none) T8.heap _
  rw [e8]
  exact ⟨rfl, N8, K8, V8⟩

theorem d3_0 : decode prog_12_method_1_code 0 = .ok (.aload_n 0, 1) := by decide +kernel
theorem d3_1 : decode prog_12_method_1_code 1 = .ok (.invokespecial 1, 3) := by decide +kernel
theorem d3_4 : decode prog_12_method_1_code 4 = .ok (.aload_n 0, 1) := by decide +kernel
theorem d3_5 : decode prog_12_method_1_code 5 = .ok (.aload_n 1, 1) := by decide +kernel
theorem d3_6 : decode prog_12_method_1_code 6 = .ok (.putfield 7, 3) := by decide +kernel
theorem d3_9 : decode prog_12_method_1_code 9 = .ok (.return_, 1) := by decide +kernel
theorem pn_3 : plainName "com/example/answer_once/answeronce/model/Fingerprint" = true := by first | (simp [plainName, overriddenIn]; done) | decide +kernel
theorem ef_rm3 (m : MethodId) (a1 : Addr) (a2 : Addr) : entryFrame m #[(.ref a1), (.ref a2)] 2 = mkF m 0 #[.val (.ref a1), .val (.ref a2)] [] := by first | (simp [entryFrame, mkF, argsToLocals, Value.category]; done) | rfl
def Q3 (Z : State) (a1 : Addr) (a2 : Addr) (h0 : Heap) (n0 : Nat) (v : Option Value) (h : Heap) (L : List Loc) : Prop := v = none ∧ Fr n0 L ∧ Keep h0 h [a1] ∧ Fld Z h a1 "com/example/answer_once/answeronce/model/Fingerprint" "digest" "[B" (.ref a2)
set_option maxRecDepth 65536 in
set_option maxHeartbeats 40000000 in
theorem rm3 (l : Launch) (Z : State) (a0 : Array Value) (hw : ∀ d ∈ tables_1, d.before a0 Z = true) (ws : List Jvm.Cond) (a1 : Addr) (a2 : Addr) (h0 : Heap) (n0 : Nat) (Z0 : n0 ≤ h0.size) (F : Fld Z h0 a1 "com/example/answer_once/answeronce/model/Fingerprint" "digest" "[B" .null) (E : Exa Z h0 a1 "com/example/answer_once/answeronce/model/Fingerprint") (g_a1 : n0 ≤ a1) :
    MetFree l (⟨"com/example/answer_once/answeronce/model/Fingerprint", "<init>", "([B)V"⟩ : MethodName) (head1 (Jvm.Cond.code (⟨"com/example/answer_once/answeronce/model/Fingerprint", "<init>", "([B)V"⟩ : MethodName) prog_12_method_1_code 2 none :: ws) ({ frames := 1, cells := 0, slots := 0, locals := 12 } : Room)) (fun a U => a = #[(.ref a1), (.ref a2)] ∧ Z.Warmed39 U.vm ∧ U.heap = h0) (fun _ _ _ _ _ => True) (fun _ U o U' => ∃ v L, o = .returned v ∧ Q3 Z a1 a2 h0 n0 v U'.heap L ∧ FrameEnd U o U' L ({ frames := 1, cells := 0, slots := 0, locals := 12 } : Room).cells ({ frames := 1, cells := 0, slots := 0, locals := 12 } : Room).slots) := by
  refine MetFree.of_bodySF (plainFor_of_name pn_3) hisR ?_
  intro p e s m args below meth c s₁ Bd hml0 hP hK
  obtain ⟨rfl, hZ, hh⟩ := hP
  have hx := Bd.exec
  have hby := Bd.bytes
  have hml : c.maxLocals = 2 := hml0
  have hown : s.vm.findClass "com/example/answer_once/answeronce/model/Fingerprint" = some m.cls := findClass_of_methodNamed Bd.named
  have hnm := (name_of_methodNamed Bd.named Bd.method).1
  have X0 : Stand p l e ({ frames := 1, cells := 0, slots := 0, locals := 12 } : Room) s m #[(.ref a1), (.ref a2)] below meth c s₁ [] 0 0 := Stand.of_body Bd
  have e0 : s₁.heap = h0 := by rw [← hh, Bd.state]; rfl
  have N0 := Fr.nil n0
  obtain ⟨G, hG⟩ : ∃ G : State → Prop, G = OwnG p e below s ({ frames := 1, cells := 0, slots := 0, locals := 12 } : Room).cells ({ frames := 1, cells := 0, slots := 0, locals := 12 } : Room).slots (Q3 Z a1 a2 h0 n0) := ⟨_, rfl⟩
  have go : ∀ {A B : State}, (∀ t, Steps p.tables e below A t → Steps p.tables e below B t) → G A → G B := fun h k => by rw [hG] at k ⊢; exact OwnG.go h k
  suffices k0 : G (s₁.setTop (mkF m 0 #[.val (.ref a1), .val (.ref a2)] [])) by
    rw [hG] at k0; exact OwnG.go (fun t k => castTop (ef_rm3 m a1 a2) k) k0
  have K0 : Keep h0 h0 [a1] := Keep.refl _ _
  refine go (fun _ k => XS.aloadN X0.here hx rfl (hb hby d3_0) rfl rfl k) ?_
  show G (s₁.setTop (mkF m 1 #[.val (.ref a1), .val (.ref a2)] [(.ref a1)]))
  obtain ⟨T1, X1, e1, st1⟩ := initO X0 hx hZ hown (hw _ (List.mem_of_getElem? (i := 23) rfl)) (hw _ (List.mem_of_getElem? (i := 24) rfl)) (hw _ (List.mem_of_getElem? (i := 25) rfl)) e0 (g := (mkF m 1 #[.val (.ref a1), .val (.ref a2)] [(.ref a1)])) rfl (by rw [hml]; rfl) rfl (hb hby d3_1) (by decide) (W := 0) (by show 2 * 0 + _ ≤ _; exact Nat.le_of_eq rfl) (by decide)
  refine go st1 ?_
  show G (T1.setTop (mkF m 4 #[.val (.ref a1), .val (.ref a2)] []))
  refine go (fun _ k => XS.aloadN X1.here hx rfl (hb hby d3_4) rfl rfl k) ?_
  show G (T1.setTop (mkF m 5 #[.val (.ref a1), .val (.ref a2)] [(.ref a1)]))
  refine go (fun _ k => XS.aloadN X1.here hx rfl (hb hby d3_5) rfl rfl k) ?_
  show G (T1.setTop (mkF m 6 #[.val (.ref a1), .val (.ref a2)] [(.ref a2), (.ref a1)]))
  obtain ⟨T2, h2, X2, e2, W2, st2⟩ := putF X1 hx hZ hown (host := "") (Or.inl (hw _ (List.mem_of_getElem? (i := 26) rfl))) Via.refl e1 F E (Or.inr ⟨(hw _ (List.mem_of_getElem? (i := 27) rfl)), rfl, hnm⟩) (hw _ (List.mem_of_getElem? (i := 10) rfl)) (ty := (.array .byte)) (by decide) rfl rfl (g := (mkF m 6 #[.val (.ref a1), .val (.ref a2)] [(.ref a2), (.ref a1)])) rfl rfl (hb hby d3_6)
  have f3 := E.wr W2
  have K2 : Keep h0 h2 [a1] := K0.wr W2 (Or.inl (List.mem_of_getElem? (i := 0) rfl))
  have Zs2 : n0 ≤ h2.size := Nat.le_trans Z0 (Keep.of_wr W2).1
  have N2 := Fr.snoc X2 N0 g_a1
  have Fw2 := F.same W2
  refine go st2 ?_
  show G (T2.setTop (mkF m 9 #[.val (.ref a1), .val (.ref a2)] []))
  rw [hG]
  refine own_fin X2 Bd.notSynchronized (v := none) (fun _ => rfl) (fun fs hr => X2.returnOut hx Bd.returns (hb hby d3_9) hr) ?_ (by decide) (by decide)
  show Q3 Z a1 a2 h0 n0 (none) T2.heap _
  rw [e2]
  exact ⟨rfl, N2, K2, Fw2⟩

theorem d2_0 : decode prog_12_method_3_code 0 = .ok (.aload_n 0, 1) := by decide +kernel
theorem d2_1 : decode prog_12_method_3_code 1 = .ok (.arraylength, 1) := by decide +kernel
theorem d2_2 : decode prog_12_method_3_code 2 = .ok (.bipush 32, 2) := by decide +kernel
theorem d2_4 : decode prog_12_method_3_code 4 = .ok (.if_icmp .eq 18, 3) := by decide +kernel
theorem d2_22 : decode prog_12_method_3_code 22 = .ok (.new 8, 3) := by decide +kernel
theorem d2_25 : decode prog_12_method_3_code 25 = .ok (.dup, 1) := by decide +kernel
theorem d2_26 : decode prog_12_method_3_code 26 = .ok (.aload_n 0, 1) := by decide +kernel
theorem d2_27 : decode prog_12_method_3_code 27 = .ok (.invokevirtual 48, 3) := by decide +kernel
theorem d2_30 : decode prog_12_method_3_code 30 = .ok (.checkcast 49, 3) := by decide +kernel
theorem d2_33 : decode prog_12_method_3_code 33 = .ok (.invokespecial 36, 3) := by decide +kernel
theorem d2_36 : decode prog_12_method_3_code 36 = .ok (.areturn, 1) := by decide +kernel
theorem pn_2 : plainName "com/example/answer_once/answeronce/model/Fingerprint" = true := by first | (simp [plainName, overriddenIn]; done) | decide +kernel
theorem pd_2_0 : parseMethodDescriptor "([B)V" = some ⟨[(.array .byte)], none⟩ := by decide +kernel
theorem ef_rm2 (m : MethodId) (a1 : Addr) : entryFrame m #[(.ref a1)] 1 = mkF m 0 #[.val (.ref a1)] [] := by first | (simp [entryFrame, mkF, argsToLocals, Value.category]; done) | rfl
def Q2 (Z : State) (a1 : Addr) (k : ClassId) (vs : List Value) (h0 : Heap) (n0 : Nat) (v : Option Value) (h : Heap) (L : List Loc) : Prop := ∃ r b : Addr, v = some (.ref r) ∧ Fr n0 L ∧ Keep h0 h [] ∧ h0.size ≤ r ∧ h0.size ≤ b ∧ r ≠ b ∧ Exa Z h r "com/example/answer_once/answeronce/model/Fingerprint" ∧ Fld Z h r "com/example/answer_once/answeronce/model/Fingerprint" "digest" "[B" (.ref b) ∧ Arv Z h b k .byte (32 : Int32) vs (.int (0 : Int32)) ∧ Exa Z h b "[B"
set_option maxRecDepth 65536 in
set_option maxHeartbeats 40000000 in
theorem rm2 (l : Launch) (Z : State) (a0 : Array Value) (hw : ∀ d ∈ tables_1, d.before a0 Z = true) (ws : List Jvm.Cond) (a1 : Addr) (k : ClassId) (vs : List Value) (h0 : Heap) (n0 : Nat) (Z0 : n0 ≤ h0.size) (VA : Arv Z h0 a1 k .byte (32 : Int32) vs (.int (0 : Int32))) (EA : Exa Z h0 a1 "[B") :
    MetFree l (⟨"com/example/answer_once/answeronce/model/Fingerprint", "ofDigest", "([B)Lcom/example/answer_once/answeronce/model/Fingerprint;"⟩ : MethodName) (head1 (Jvm.Cond.code (⟨"com/example/answer_once/answeronce/model/Fingerprint", "ofDigest", "([B)Lcom/example/answer_once/answeronce/model/Fingerprint;"⟩ : MethodName) prog_12_method_3_code 1 (some (.object "com/example/answer_once/answeronce/model/Fingerprint")) :: ws) ({ frames := 2, cells := 2, slots := 33, locals := 27 } : Room)) (fun a U => a = #[(.ref a1)] ∧ Z.Warmed39 U.vm ∧ U.heap = h0) (fun _ _ _ _ _ => True) (fun _ U o U' => ∃ v L, o = .returned v ∧ Q2 Z a1 k vs h0 n0 v U'.heap L ∧ FrameEnd U o U' L ({ frames := 2, cells := 2, slots := 33, locals := 27 } : Room).cells ({ frames := 2, cells := 2, slots := 33, locals := 27 } : Room).slots) := by
  refine MetFree.of_bodySF (plainFor_of_name pn_2) hisR ?_
  intro p e s m args below meth c s₁ Bd hml0 hP hK
  obtain ⟨rfl, hZ, hh⟩ := hP
  have hx := Bd.exec
  have hby := Bd.bytes
  have hml : c.maxLocals = 1 := hml0
  have hown : s.vm.findClass "com/example/answer_once/answeronce/model/Fingerprint" = some m.cls := findClass_of_methodNamed Bd.named
  have hnm := (name_of_methodNamed Bd.named Bd.method).1
  have X0 : Stand p l e ({ frames := 2, cells := 2, slots := 33, locals := 27 } : Room) s m #[(.ref a1)] below meth c s₁ [] 0 0 := Stand.of_body Bd
  have e0 : s₁.heap = h0 := by rw [← hh, Bd.state]; rfl
  have N0 := Fr.nil n0
  obtain ⟨G, hG⟩ : ∃ G : State → Prop, G = OwnG p e below s ({ frames := 2, cells := 2, slots := 33, locals := 27 } : Room).cells ({ frames := 2, cells := 2, slots := 33, locals := 27 } : Room).slots (Q2 Z a1 k vs h0 n0) := ⟨_, rfl⟩
  have go : ∀ {A B : State}, (∀ t, Steps p.tables e below A t → Steps p.tables e below B t) → G A → G B := fun h k => by rw [hG] at k ⊢; exact OwnG.go h k
  suffices k0 : G (s₁.setTop (mkF m 0 #[.val (.ref a1)] [])) by
    rw [hG] at k0; exact OwnG.go (fun t k => castTop (ef_rm2 m a1) k) k0
  have K0 : Keep h0 h0 [] := Keep.refl _ _
  refine go (fun _ k => XS.aloadN X0.here hx rfl (hb hby d2_0) rfl rfl k) ?_
  show G (s₁.setTop (mkF m 1 #[.val (.ref a1)] [(.ref a1)]))
  obtain ⟨cl1, Ar1, qk1, qs1, qn1, qh1, qg1⟩ := id VA
  refine go (X0.arraylength hx (by rw [e0]; exact Ar1.1) (State.isArrayOf_alike hZ.alike Ar1.2.1) (g := (mkF m 1 #[.val (.ref a1)] [(.ref a1)])) rfl rfl (hb hby d2_1)) ?_
  rw [len_of qs1 qn1]
  show G (s₁.setTop (mkF m 2 #[.val (.ref a1)] [(.int (32 : Int32))]))
  refine go (fun _ k => XS.bipush X0.here hx rfl (hb hby d2_2) k) ?_
  show G (s₁.setTop (mkF m 4 #[.val (.ref a1)] [(.int (32 : Int32)), (.int (32 : Int32))]))
  have hc2 : (32 : Int32) = (32 : Int32) := rfl
  refine go (fun _ k => XS.icmpYes X0.here hx rfl (pc0 := 4) (pc' := 22) rfl (hb hby d2_4) rfl (teq hc2).1 (by decide) (by decide) k) ?_
  show G (s₁.setTop (mkF m 22 #[.val (.ref a1)] []))
  obtain ⟨T3, h3, X3, e3, E3, A3, D3, -, st3⟩ := newO X0 hx hZ hown (hw _ (List.mem_of_getElem? (i := 9) rfl)) (hw _ (List.mem_of_getElem? (i := 10) rfl)) (hw _ (List.mem_of_getElem? (i := 7) rfl)) e0 (g := (mkF m 22 #[.val (.ref a1)] [])) rfl (hb hby d2_22) (by decide) (by decide)
  obtain ⟨b3, ga3⟩ : ∃ z, z = h0.size := ⟨_, rfl⟩
  have ne_a1_b3 : a1 ≠ b3 := Nat.ne_of_lt (Nat.lt_of_lt_of_le VA.lt (Nat.le_of_eq ga3.symm))
  have g_b3 : n0 ≤ b3 := Nat.le_trans Z0 (Nat.le_of_eq ga3.symm)
  have sz_b3 : h0.size ≤ b3 := Nat.le_trans K0.1 (Nat.le_of_eq ga3.symm)
  rw [← ga3] at A3 D3 st3
  have f4 := VA.ext E3
  have f5 := EA.ext E3
  have K3 : Keep h0 h3 [] := K0.ext E3
  have Zs3 : n0 ≤ h3.size := Nat.le_trans Z0 E3.1
  have F3_digest : Fld Z h3 b3 "com/example/answer_once/answeronce/model/Fingerprint" "digest" "[B" .null := D3 (Or.inr (hw _ (List.mem_of_getElem? (i := 27) rfl))) (ty := (.array .byte)) (by decide)
  refine go st3 ?_
  show G (T3.setTop (mkF m 25 #[.val (.ref a1)] [(.ref b3)]))
  refine go (fun _ k => XS.dup X3.here hx rfl (hb hby d2_25) rfl rfl k) ?_
  show G (T3.setTop (mkF m 26 #[.val (.ref a1)] [(.ref b3), (.ref b3)]))
  refine go (fun _ k => XS.aloadN X3.here hx rfl (hb hby d2_26) rfl rfl k) ?_
  show G (T3.setTop (mkF m 27 #[.val (.ref a1)] [(.ref a1), (.ref b3), (.ref b3)]))
  obtain ⟨T6, h6, X6, e6, E6, Vh6, A6, st6⟩ := cloneH X3 hx hZ hown (hw _ (List.mem_of_getElem? (i := 11) rfl)) (hw _ (List.mem_of_getElem? (i := 12) rfl)) (hw _ (List.mem_of_getElem? (i := 16) rfl)) (hw _ (List.mem_of_getElem? (i := 14) rfl)) (hw _ (List.mem_of_getElem? (i := 15) rfl)) (hw _ (List.mem_of_getElem? (i := 17) rfl)) e3 f4.arh f5 (g := (mkF m 27 #[.val (.ref a1)] [(.ref a1), (.ref b3), (.ref b3)])) rfl (by rw [hml]; rfl) rfl (hb hby d2_27) (by decide) (W := 2) (cap := 32) (by show 2 * 0 + _ ≤ _; exact Nat.le_of_eq rfl) (by decide) (by decide) (by decide) (by decide)
  obtain ⟨b6, ga6⟩ : ∃ z, z = h3.size := ⟨_, rfl⟩
  have ne_a1_b6 : a1 ≠ b6 := Nat.ne_of_lt (Nat.lt_of_lt_of_le f4.lt (Nat.le_of_eq ga6.symm))
  have ne_b3_b6 : b3 ≠ b6 := Nat.ne_of_lt (Nat.lt_of_lt_of_le A3.lt (Nat.le_of_eq ga6.symm))
  have g_b6 : n0 ≤ b6 := Nat.le_trans Zs3 (Nat.le_of_eq ga6.symm)
  have sz_b6 : h0.size ≤ b6 := Nat.le_trans K3.1 (Nat.le_of_eq ga6.symm)
  rw [← ga6] at Vh6 A6 st6
  have f7 := f4.ext E6
  have f8 := f5.ext E6
  have f9 := A3.ext E6
  have f10 := F3_digest.ext E6
  have K6 : Keep h0 h6 [] := K3.ext E6
  have Zs6 : n0 ≤ h6.size := Nat.le_trans Zs3 E6.1
  have V6 : Arv Z h6 b6 k .byte (32 : Int32) vs (.int (0 : Int32)) := Vh6
  refine go st6 ?_
  show G (T6.setTop (mkF m 30 #[.val (.ref a1)] [(.ref b6), (.ref b3), (.ref b3)]))
  obtain ⟨T11, X11, e11, st11⟩ := castY X6 hx hZ hown (hw _ (List.mem_of_getElem? (i := 18) rfl)) e6 (Ins.self A6) (g := (mkF m 30 #[.val (.ref a1)] [(.ref b6), (.ref b3), (.ref b3)])) rfl rfl (hb hby d2_30)
  refine go st11 ?_
  show G (T11.setTop (mkF m 33 #[.val (.ref a1)] [(.ref b6), (.ref b3), (.ref b3)]))
  obtain ⟨_, _, ⟨T12, L12, k12, n12⟩, -, X12, ⟨Lc12, hQ12, l12, y12, z12⟩, st12⟩ := X11.specialBack hx (y := (⟨"com/example/answer_once/answeronce/model/Fingerprint", "<init>", "([B)V"⟩ : MethodName)) rfl hown (mvT hZ (hw _ (List.mem_of_getElem? (i := 20) rfl))) (mvT hZ (hw _ (List.mem_of_getElem? (i := 21) rfl))) (mvT hZ (hw _ (List.mem_of_getElem? (i := 22) rfl))) (by decide) (backOf (W := 1) (rm3 l Z a0 hw [] b3 b6 h6 n0 Zs6 f10 f9 g_b3) hZ (hw _ (List.mem_of_getElem? (i := 22) rfl)) (hw _ (List.mem_of_getElem? (i := 7) rfl)) (by decide) (by decide)) (g := (mkF m 33 #[.val (.ref a1)] [(.ref b6), (.ref b3), (.ref b3)])) rfl (by rw [hml]; rfl) (Steps.refl _) (a := b3) (argsL := [(.ref b6)]) (rest := [(.ref b3)]) (lenOf pd_2_0 rfl) rfl (by show 2 * 0 + _ ≤ _; exact Nat.le_of_eq rfl) (hb hby d2_33) (fun _ _ => ⟨rfl, e11, (by decide : 2 + 0 ≤ _), (by decide : 33 + 0 ≤ _)⟩)
  dsimp only [Pt.U, Pt.locs, Pt.cells, Pt.slots] at X12 l12 y12 z12 st12 hQ12
  subst l12 y12 z12
  obtain ⟨rfl, N12q, Kc12, c12_0⟩ := hQ12
  have f13 := f7.keep Kc12 (ninS ne_a1_b3 nin0)
  have f14 := f8.keep Kc12
  have f15 := f9.keep Kc12
  have f16 := A6.keep Kc12
  have f17 := V6.keep Kc12 (ninS (Ne.symm ne_b3_b6) nin0)
  have K12 : Keep h0 T12.heap [] := K6.trans Kc12 (allS (P := fun x => x ∈ [] ∨ h0.size ≤ x) (Or.inr sz_b3) all0)
  have Zs12 : n0 ≤ T12.heap.size := Nat.le_trans Zs6 Kc12.1
  have N12 := Fr.app N0 N12q
  refine go (fun _ k => st12.trans k) ?_
  show G (T12.setTop (mkF m 36 #[.val (.ref a1)] [(.ref b3)]))
  rw [hG]
  refine own_fin X12 Bd.notSynchronized (v := some (.ref b3)) (fun h => by rw [Bd.returns] at h; cases h) (fun fs hr => retOut X12 hx Bd.returns rfl (by simp [FieldType.isReference, Value.isRef]) (hb hby d2_36) hr) ?_ (by decide) (by decide)
  show Q2 Z a1 k vs h0 n0 (some (.ref b3)) T12.heap _
  exact ⟨b3, b6, rfl, N12, K12, sz_b3, sz_b6, ne_b3_b6, f15, c12_0, f17, f16⟩

theorem d5_0 : decode prog_12_method_4_code 0 = .ok (.aload_n 0, 1) := by decide +kernel
theorem d5_1 : decode prog_12_method_4_code 1 = .ok (.getfield 7, 3) := by decide +kernel
theorem d5_4 : decode prog_12_method_4_code 4 = .ok (.invokevirtual 48, 3) := by decide +kernel
theorem d5_7 : decode prog_12_method_4_code 7 = .ok (.checkcast 49, 3) := by decide +kernel
theorem d5_10 : decode prog_12_method_4_code 10 = .ok (.areturn, 1) := by decide +kernel
theorem pn_5 : plainName "com/example/answer_once/answeronce/model/Fingerprint" = true := by first | (simp [plainName, overriddenIn]; done) | decide +kernel
theorem ef_rm5 (m : MethodId) (a1 : Addr) : entryFrame m #[(.ref a1)] 1 = mkF m 0 #[.val (.ref a1)] [] := by first | (simp [entryFrame, mkF, argsToLocals, Value.category]; done) | rfl
def Q5 (Z : State) (a1 : Addr) (d : Addr) (k : ClassId) (vs : List Value) (h0 : Heap) (n0 : Nat) (v : Option Value) (h : Heap) (L : List Loc) : Prop := ∃ b : Addr, v = some (.ref b) ∧ Fr n0 L ∧ Keep h0 h [] ∧ h0.size ≤ b ∧ Arv Z h b k .byte (32 : Int32) vs (.int (0 : Int32))
set_option maxRecDepth 65536 in
set_option maxHeartbeats 40000000 in
theorem rm5 (l : Launch) (Z : State) (a0 : Array Value) (hw : ∀ d ∈ tables_1, d.before a0 Z = true) (ws : List Jvm.Cond) (a1 : Addr) (d : Addr) (k : ClassId) (vs : List Value) (h0 : Heap) (n0 : Nat) (Z0 : n0 ≤ h0.size) (F : Fld Z h0 a1 "com/example/answer_once/answeronce/model/Fingerprint" "digest" "[B" (.ref d)) (VA : Arv Z h0 d k .byte (32 : Int32) vs (.int (0 : Int32))) (EA : Exa Z h0 d "[B") :
    MetFree l (⟨"com/example/answer_once/answeronce/model/Fingerprint", "getDigest", "()[B"⟩ : MethodName) (head1 (Jvm.Cond.code (⟨"com/example/answer_once/answeronce/model/Fingerprint", "getDigest", "()[B"⟩ : MethodName) prog_12_method_4_code 1 (some (.array .byte)) :: ws) ({ frames := 1, cells := 1, slots := 32, locals := 14 } : Room)) (fun a U => a = #[(.ref a1)] ∧ Z.Warmed39 U.vm ∧ U.heap = h0) (fun _ _ _ _ _ => True) (fun _ U o U' => ∃ v L, o = .returned v ∧ Q5 Z a1 d k vs h0 n0 v U'.heap L ∧ FrameEnd U o U' L ({ frames := 1, cells := 1, slots := 32, locals := 14 } : Room).cells ({ frames := 1, cells := 1, slots := 32, locals := 14 } : Room).slots) := by
  refine MetFree.of_bodySF (plainFor_of_name pn_5) hisR ?_
  intro p e s m args below meth c s₁ Bd hml0 hP hK
  obtain ⟨rfl, hZ, hh⟩ := hP
  have hx := Bd.exec
  have hby := Bd.bytes
  have hml : c.maxLocals = 1 := hml0
  have hown : s.vm.findClass "com/example/answer_once/answeronce/model/Fingerprint" = some m.cls := findClass_of_methodNamed Bd.named
  have hnm := (name_of_methodNamed Bd.named Bd.method).1
  have X0 : Stand p l e ({ frames := 1, cells := 1, slots := 32, locals := 14 } : Room) s m #[(.ref a1)] below meth c s₁ [] 0 0 := Stand.of_body Bd
  have e0 : s₁.heap = h0 := by rw [← hh, Bd.state]; rfl
  have N0 := Fr.nil n0
  obtain ⟨G, hG⟩ : ∃ G : State → Prop, G = OwnG p e below s ({ frames := 1, cells := 1, slots := 32, locals := 14 } : Room).cells ({ frames := 1, cells := 1, slots := 32, locals := 14 } : Room).slots (Q5 Z a1 d k vs h0 n0) := ⟨_, rfl⟩
  have go : ∀ {A B : State}, (∀ t, Steps p.tables e below A t → Steps p.tables e below B t) → G A → G B := fun h k => by rw [hG] at k ⊢; exact OwnG.go h k
  suffices k0 : G (s₁.setTop (mkF m 0 #[.val (.ref a1)] [])) by
    rw [hG] at k0; exact OwnG.go (fun t k => castTop (ef_rm5 m a1) k) k0
  have K0 : Keep h0 h0 [] := Keep.refl _ _
  refine go (fun _ k => XS.aloadN X0.here hx rfl (hb hby d5_0) rfl rfl k) ?_
  show G (s₁.setTop (mkF m 1 #[.val (.ref a1)] [(.ref a1)]))
  obtain ⟨T1, X1, e1, st1⟩ := getF X0 hx hZ hown (host := "") (Or.inl (hw _ (List.mem_of_getElem? (i := 26) rfl))) Via.refl e0 F (g := (mkF m 1 #[.val (.ref a1)] [(.ref a1)])) rfl rfl (hb hby d5_1)
  refine go st1 ?_
  show G (T1.setTop (mkF m 4 #[.val (.ref a1)] [(.ref d)]))
  obtain ⟨T2, h2, X2, e2, E2, Vh2, A2, st2⟩ := cloneH X1 hx hZ hown (hw _ (List.mem_of_getElem? (i := 11) rfl)) (hw _ (List.mem_of_getElem? (i := 12) rfl)) (hw _ (List.mem_of_getElem? (i := 16) rfl)) (hw _ (List.mem_of_getElem? (i := 14) rfl)) (hw _ (List.mem_of_getElem? (i := 15) rfl)) (hw _ (List.mem_of_getElem? (i := 17) rfl)) e1 VA.arh EA (g := (mkF m 4 #[.val (.ref a1)] [(.ref d)])) rfl (by rw [hml]; rfl) rfl (hb hby d5_4) (by decide) (W := 0) (cap := 32) (by show 2 * 0 + _ ≤ _; exact Nat.le_of_eq rfl) (by decide) (by decide) (by decide) (by decide)
  obtain ⟨b2, ga2⟩ : ∃ z, z = h0.size := ⟨_, rfl⟩
  have ne_a1_b2 : a1 ≠ b2 := Nat.ne_of_lt (Nat.lt_of_lt_of_le F.lt (Nat.le_of_eq ga2.symm))
  have ne_d_b2 : d ≠ b2 := Nat.ne_of_lt (Nat.lt_of_lt_of_le VA.lt (Nat.le_of_eq ga2.symm))
  have g_b2 : n0 ≤ b2 := Nat.le_trans Z0 (Nat.le_of_eq ga2.symm)
  have sz_b2 : h0.size ≤ b2 := Nat.le_trans K0.1 (Nat.le_of_eq ga2.symm)
  rw [← ga2] at Vh2 A2 st2
  have f3 := F.ext E2
  have f4 := VA.ext E2
  have f5 := EA.ext E2
  have K2 : Keep h0 h2 [] := K0.ext E2
  have Zs2 : n0 ≤ h2.size := Nat.le_trans Z0 E2.1
  have V2 : Arv Z h2 b2 k .byte (32 : Int32) vs (.int (0 : Int32)) := Vh2
  refine go st2 ?_
  show G (T2.setTop (mkF m 7 #[.val (.ref a1)] [(.ref b2)]))
  obtain ⟨T6, X6, e6, st6⟩ := castY X2 hx hZ hown (hw _ (List.mem_of_getElem? (i := 18) rfl)) e2 (Ins.self A2) (g := (mkF m 7 #[.val (.ref a1)] [(.ref b2)])) rfl rfl (hb hby d5_7)
  refine go st6 ?_
  show G (T6.setTop (mkF m 10 #[.val (.ref a1)] [(.ref b2)]))
  rw [hG]
  refine own_fin X6 Bd.notSynchronized (v := some (.ref b2)) (fun h => by rw [Bd.returns] at h; cases h) (fun fs hr => retOut X6 hx Bd.returns rfl (by simp [FieldType.isReference, Value.isRef]) (hb hby d5_10) hr) ?_ (by decide) (by decide)
  show Q5 Z a1 d k vs h0 n0 (some (.ref b2)) T6.heap _
  rw [e6]
  exact ⟨b2, rfl, N0, K2, sz_b2, V2⟩

theorem d6_0 : decode method_3_code 0 = .ok (.aload_n 0, 1) := by decide +kernel
theorem d6_1 : decode method_3_code 1 = .ok (.iload_n 1, 1) := by decide +kernel
theorem d6_2 : decode method_3_code 2 = .ok (.baload, 1) := by decide +kernel
theorem d6_3 : decode method_3_code 3 = .ok (.lload_n 2, 1) := by decide +kernel
theorem d6_4 : decode method_3_code 4 = .ok (.l2i, 1) := by decide +kernel
theorem d6_5 : decode method_3_code 5 = .ok (.i2b, 1) := by decide +kernel
theorem d6_6 : decode method_3_code 6 = .ok (.if_icmp .ne 107, 3) := by decide +kernel
theorem d6_9 : decode method_3_code 9 = .ok (.aload_n 0, 1) := by decide +kernel
theorem d6_10 : decode method_3_code 10 = .ok (.iload_n 1, 1) := by decide +kernel
theorem d6_11 : decode method_3_code 11 = .ok (.iconst 1, 1) := by decide +kernel
theorem d6_12 : decode method_3_code 12 = .ok (.iadd, 1) := by decide +kernel
theorem d6_13 : decode method_3_code 13 = .ok (.baload, 1) := by decide +kernel
theorem d6_14 : decode method_3_code 14 = .ok (.lload_n 2, 1) := by decide +kernel
theorem d6_15 : decode method_3_code 15 = .ok (.bipush 8, 2) := by decide +kernel
theorem d6_17 : decode method_3_code 17 = .ok (.lushr, 1) := by decide +kernel
theorem d6_18 : decode method_3_code 18 = .ok (.l2i, 1) := by decide +kernel
theorem d6_19 : decode method_3_code 19 = .ok (.i2b, 1) := by decide +kernel
theorem d6_20 : decode method_3_code 20 = .ok (.if_icmp .ne 93, 3) := by decide +kernel
theorem d6_23 : decode method_3_code 23 = .ok (.aload_n 0, 1) := by decide +kernel
theorem d6_24 : decode method_3_code 24 = .ok (.iload_n 1, 1) := by decide +kernel
theorem d6_25 : decode method_3_code 25 = .ok (.iconst 2, 1) := by decide +kernel
theorem d6_26 : decode method_3_code 26 = .ok (.iadd, 1) := by decide +kernel
theorem d6_27 : decode method_3_code 27 = .ok (.baload, 1) := by decide +kernel
theorem d6_28 : decode method_3_code 28 = .ok (.lload_n 2, 1) := by decide +kernel
theorem d6_29 : decode method_3_code 29 = .ok (.bipush 16, 2) := by decide +kernel
theorem d6_31 : decode method_3_code 31 = .ok (.lushr, 1) := by decide +kernel
theorem d6_32 : decode method_3_code 32 = .ok (.l2i, 1) := by decide +kernel
theorem d6_33 : decode method_3_code 33 = .ok (.i2b, 1) := by decide +kernel
theorem d6_34 : decode method_3_code 34 = .ok (.if_icmp .ne 79, 3) := by decide +kernel
theorem d6_37 : decode method_3_code 37 = .ok (.aload_n 0, 1) := by decide +kernel
theorem d6_38 : decode method_3_code 38 = .ok (.iload_n 1, 1) := by decide +kernel
theorem d6_39 : decode method_3_code 39 = .ok (.iconst 3, 1) := by decide +kernel
theorem d6_40 : decode method_3_code 40 = .ok (.iadd, 1) := by decide +kernel
theorem d6_41 : decode method_3_code 41 = .ok (.baload, 1) := by decide +kernel
theorem d6_42 : decode method_3_code 42 = .ok (.lload_n 2, 1) := by decide +kernel
theorem d6_43 : decode method_3_code 43 = .ok (.bipush 24, 2) := by decide +kernel
theorem d6_45 : decode method_3_code 45 = .ok (.lushr, 1) := by decide +kernel
theorem d6_46 : decode method_3_code 46 = .ok (.l2i, 1) := by decide +kernel
theorem d6_47 : decode method_3_code 47 = .ok (.i2b, 1) := by decide +kernel
theorem d6_48 : decode method_3_code 48 = .ok (.if_icmp .ne 65, 3) := by decide +kernel
theorem d6_51 : decode method_3_code 51 = .ok (.aload_n 0, 1) := by decide +kernel
theorem d6_52 : decode method_3_code 52 = .ok (.iload_n 1, 1) := by decide +kernel
theorem d6_53 : decode method_3_code 53 = .ok (.iconst 4, 1) := by decide +kernel
theorem d6_54 : decode method_3_code 54 = .ok (.iadd, 1) := by decide +kernel
theorem d6_55 : decode method_3_code 55 = .ok (.baload, 1) := by decide +kernel
theorem d6_56 : decode method_3_code 56 = .ok (.lload_n 2, 1) := by decide +kernel
theorem d6_57 : decode method_3_code 57 = .ok (.bipush 32, 2) := by decide +kernel
theorem d6_59 : decode method_3_code 59 = .ok (.lushr, 1) := by decide +kernel
theorem d6_60 : decode method_3_code 60 = .ok (.l2i, 1) := by decide +kernel
theorem d6_61 : decode method_3_code 61 = .ok (.i2b, 1) := by decide +kernel
theorem d6_62 : decode method_3_code 62 = .ok (.if_icmp .ne 51, 3) := by decide +kernel
theorem d6_65 : decode method_3_code 65 = .ok (.aload_n 0, 1) := by decide +kernel
theorem d6_66 : decode method_3_code 66 = .ok (.iload_n 1, 1) := by decide +kernel
theorem d6_67 : decode method_3_code 67 = .ok (.iconst 5, 1) := by decide +kernel
theorem d6_68 : decode method_3_code 68 = .ok (.iadd, 1) := by decide +kernel
theorem d6_69 : decode method_3_code 69 = .ok (.baload, 1) := by decide +kernel
theorem d6_70 : decode method_3_code 70 = .ok (.lload_n 2, 1) := by decide +kernel
theorem d6_71 : decode method_3_code 71 = .ok (.bipush 40, 2) := by decide +kernel
theorem d6_73 : decode method_3_code 73 = .ok (.lushr, 1) := by decide +kernel
theorem d6_74 : decode method_3_code 74 = .ok (.l2i, 1) := by decide +kernel
theorem d6_75 : decode method_3_code 75 = .ok (.i2b, 1) := by decide +kernel
theorem d6_76 : decode method_3_code 76 = .ok (.if_icmp .ne 37, 3) := by decide +kernel
theorem d6_79 : decode method_3_code 79 = .ok (.aload_n 0, 1) := by decide +kernel
theorem d6_80 : decode method_3_code 80 = .ok (.iload_n 1, 1) := by decide +kernel
theorem d6_81 : decode method_3_code 81 = .ok (.bipush 6, 2) := by decide +kernel
theorem d6_83 : decode method_3_code 83 = .ok (.iadd, 1) := by decide +kernel
theorem d6_84 : decode method_3_code 84 = .ok (.baload, 1) := by decide +kernel
theorem d6_85 : decode method_3_code 85 = .ok (.lload_n 2, 1) := by decide +kernel
theorem d6_86 : decode method_3_code 86 = .ok (.bipush 48, 2) := by decide +kernel
theorem d6_88 : decode method_3_code 88 = .ok (.lushr, 1) := by decide +kernel
theorem d6_89 : decode method_3_code 89 = .ok (.l2i, 1) := by decide +kernel
theorem d6_90 : decode method_3_code 90 = .ok (.i2b, 1) := by decide +kernel
theorem d6_91 : decode method_3_code 91 = .ok (.if_icmp .ne 22, 3) := by decide +kernel
theorem d6_94 : decode method_3_code 94 = .ok (.aload_n 0, 1) := by decide +kernel
theorem d6_95 : decode method_3_code 95 = .ok (.iload_n 1, 1) := by decide +kernel
theorem d6_96 : decode method_3_code 96 = .ok (.bipush 7, 2) := by decide +kernel
theorem d6_98 : decode method_3_code 98 = .ok (.iadd, 1) := by decide +kernel
theorem d6_99 : decode method_3_code 99 = .ok (.baload, 1) := by decide +kernel
theorem d6_100 : decode method_3_code 100 = .ok (.lload_n 2, 1) := by decide +kernel
theorem d6_101 : decode method_3_code 101 = .ok (.bipush 56, 2) := by decide +kernel
theorem d6_103 : decode method_3_code 103 = .ok (.lushr, 1) := by decide +kernel
theorem d6_104 : decode method_3_code 104 = .ok (.l2i, 1) := by decide +kernel
theorem d6_105 : decode method_3_code 105 = .ok (.i2b, 1) := by decide +kernel
theorem d6_106 : decode method_3_code 106 = .ok (.if_icmp .ne 7, 3) := by decide +kernel
theorem d6_109 : decode method_3_code 109 = .ok (.iconst 1, 1) := by decide +kernel
theorem d6_110 : decode method_3_code 110 = .ok (.goto 4, 3) := by decide +kernel
theorem d6_114 : decode method_3_code 114 = .ok (.ireturn, 1) := by decide +kernel
theorem pn_6 : plainName "com/example/answer_once/answeronce/model/FingerprintOfDigestPinLaw" = true := by first | (simp [plainName, overriddenIn]; done) | decide +kernel
theorem ef_rm6 (m : MethodId) (a1 : Addr) (p2 : Int32) (q3 : Int64) : entryFrame m #[(.ref a1), (.int p2), (.long q3)] 4 = mkF m 0 #[.val (.ref a1), .val (.int p2), .val (.long q3), .second] [] := by first | (simp [entryFrame, mkF, argsToLocals, Value.category]; done) | rfl
def Q6 (Z : State) (a1 : Addr) (p2 : Int32) (q3 : Int64) (k : ClassId) (vs : List Value) (h0 : Heap) (n0 : Nat) (v : Option Value) (h : Heap) (L : List Loc) : Prop := v = some (.int (1 : Int32)) ∧ Fr n0 L ∧ h = h0
set_option maxRecDepth 65536 in
set_option maxHeartbeats 40000000 in
theorem rm6 (l : Launch) (Z : State) (a0 : Array Value) (hw : ∀ d ∈ tables_1, d.before a0 Z = true) (ws : List Jvm.Cond) (a1 : Addr) (p2 : Int32) (q3 : Int64) (k : ClassId) (vs : List Value) (h0 : Heap) (n0 : Nat) (Z0 : n0 ≤ h0.size) (VA : Arv Z h0 a1 k .byte (32 : Int32) vs (.int (0 : Int32))) (hp : Four p2) (hS : Says vs p2.toNatClampNeg q3) :
    MetFree l (⟨"com/example/answer_once/answeronce/model/FingerprintOfDigestPinLaw", "same", "([BIJ)Z"⟩ : MethodName) (head1 (Jvm.Cond.code (⟨"com/example/answer_once/answeronce/model/FingerprintOfDigestPinLaw", "same", "([BIJ)Z"⟩ : MethodName) method_3_code 4 (some .boolean) :: ws) ({ frames := 0, cells := 0, slots := 0, locals := 0 } : Room)) (fun a U => a = #[(.ref a1), (.int p2), (.long q3)] ∧ Z.Warmed39 U.vm ∧ U.heap = h0) (fun _ _ _ _ _ => True) (fun _ U o U' => ∃ v L, o = .returned v ∧ Q6 Z a1 p2 q3 k vs h0 n0 v U'.heap L ∧ FrameEnd U o U' L ({ frames := 0, cells := 0, slots := 0, locals := 0 } : Room).cells ({ frames := 0, cells := 0, slots := 0, locals := 0 } : Room).slots) := by
  refine MetFree.of_bodySF (plainFor_of_name pn_6) hisR ?_
  intro p e s m args below meth c s₁ Bd hml0 hP hK
  obtain ⟨rfl, hZ, hh⟩ := hP
  have hx := Bd.exec
  have hby := Bd.bytes
  have hml : c.maxLocals = 4 := hml0
  have hown : s.vm.findClass "com/example/answer_once/answeronce/model/FingerprintOfDigestPinLaw" = some m.cls := findClass_of_methodNamed Bd.named
  have hnm := (name_of_methodNamed Bd.named Bd.method).1
  have X0 : Stand p l e ({ frames := 0, cells := 0, slots := 0, locals := 0 } : Room) s m #[(.ref a1), (.int p2), (.long q3)] below meth c s₁ [] 0 0 := Stand.of_body Bd
  have e0 : s₁.heap = h0 := by rw [← hh, Bd.state]; rfl
  have N0 := Fr.nil n0
  obtain ⟨G, hG⟩ : ∃ G : State → Prop, G = OwnG p e below s ({ frames := 0, cells := 0, slots := 0, locals := 0 } : Room).cells ({ frames := 0, cells := 0, slots := 0, locals := 0 } : Room).slots (Q6 Z a1 p2 q3 k vs h0 n0) := ⟨_, rfl⟩
  have go : ∀ {A B : State}, (∀ t, Steps p.tables e below A t → Steps p.tables e below B t) → G A → G B := fun h k => by rw [hG] at k ⊢; exact OwnG.go h k
  suffices k0 : G (s₁.setTop (mkF m 0 #[.val (.ref a1), .val (.int p2), .val (.long q3), .second] [])) by
    rw [hG] at k0; exact OwnG.go (fun t k => castTop (ef_rm6 m a1 p2 q3) k) k0
  refine go (fun _ k => XS.aloadN X0.here hx rfl (hb hby d6_0) rfl rfl k) ?_
  show G (s₁.setTop (mkF m 1 #[.val (.ref a1), .val (.int p2), .val (.long q3), .second] [(.ref a1)]))
  refine go (fun _ k => XS.iloadN X0.here hx rfl (hb hby d6_1) rfl k) ?_
  show G (s₁.setTop (mkF m 2 #[.val (.ref a1), .val (.int p2), .val (.long q3), .second] [(.int p2), (.ref a1)]))
  obtain ⟨cl1, Ar1, qk1, qs1, qn1, qh1, qg1⟩ := id VA
  refine go (X0.baloadBytes hx (j := p2) (v := (.int (nar .byte (byteAt q3 0)))) (by rw [e0]; exact Ar1.1) (State.isArrayOf_alike hZ.alike Ar1.2.1) Ar1.2.2 (inb_of qs1 (own_idx0 p2 hp).1) (Has.at qh1 (inb_of qs1 (own_idx0 p2 hp).1) (by rw [(own_idx0 p2 hp).2.1]; exact hS 0 (by decide))) (g := (mkF m 2 #[.val (.ref a1), .val (.int p2), .val (.long q3), .second] [(.int p2), (.ref a1)])) rfl rfl (hb hby d6_2)) ?_
  show G (s₁.setTop (mkF m 3 #[.val (.ref a1), .val (.int p2), .val (.long q3), .second] [(.int (nar .byte (byteAt q3 0)))]))
  refine go (fun _ k => XS.lloadN X0.here hx rfl (hb hby d6_3) rfl k) ?_
  show G (s₁.setTop (mkF m 4 #[.val (.ref a1), .val (.int p2), .val (.long q3), .second] [(.long q3), (.int (nar .byte (byteAt q3 0)))]))
  refine go (fun _ k => XS.l2i X0.here hx rfl (hb hby d6_4) rfl k) ?_
  show G (s₁.setTop (mkF m 5 #[.val (.ref a1), .val (.int p2), .val (.long q3), .second] [(.int (q3.toInt32)), (.int (nar .byte (byteAt q3 0)))]))
  refine go (fun _ k => XS.i2b X0.here hx rfl (hb hby d6_5) rfl k) ?_
  show G (s₁.setTop (mkF m 6 #[.val (.ref a1), .val (.int p2), .val (.long q3), .second] [(.int ((q3.toInt32).toInt8.toInt32)), (.int (nar .byte (byteAt q3 0)))]))
  have hc2 : (nar .byte (byteAt q3 0)) = ((q3.toInt32).toInt8.toInt32) := own_nar _
  refine go (fun _ k => XS.icmpNo X0.here hx rfl (hb hby d6_6) rfl (teq hc2).2 k) ?_
  show G (s₁.setTop (mkF m 9 #[.val (.ref a1), .val (.int p2), .val (.long q3), .second] []))
  refine go (fun _ k => XS.aloadN X0.here hx rfl (hb hby d6_9) rfl rfl k) ?_
  show G (s₁.setTop (mkF m 10 #[.val (.ref a1), .val (.int p2), .val (.long q3), .second] [(.ref a1)]))
  refine go (fun _ k => XS.iloadN X0.here hx rfl (hb hby d6_10) rfl k) ?_
  show G (s₁.setTop (mkF m 11 #[.val (.ref a1), .val (.int p2), .val (.long q3), .second] [(.int p2), (.ref a1)]))
  refine go (fun _ k => XS.iconst X0.here hx rfl (hb hby d6_11) k) ?_
  show G (s₁.setTop (mkF m 12 #[.val (.ref a1), .val (.int p2), .val (.long q3), .second] [(.int (1 : Int32)), (.int p2), (.ref a1)]))
  refine go (fun _ k => XS.iadd X0.here hx rfl (hb hby d6_12) rfl k) ?_
  show G (s₁.setTop (mkF m 13 #[.val (.ref a1), .val (.int p2), .val (.long q3), .second] [(.int (p2 + (1 : Int32))), (.ref a1)]))
  obtain ⟨cl3, Ar3, qk3, qs3, qn3, qh3, qg3⟩ := id VA
  refine go (X0.baloadBytes hx (j := (p2 + (1 : Int32))) (v := (.int (nar .byte (byteAt q3 1)))) (by rw [e0]; exact Ar3.1) (State.isArrayOf_alike hZ.alike Ar3.2.1) Ar3.2.2 (inb_of qs3 (own_idx p2 hp 1 (by decide)).1) (Has.at qh3 (inb_of qs3 (own_idx p2 hp 1 (by decide)).1) (by show vs.getD (p2 + Int32.ofNat 1).toNatClampNeg _ = _; rw [(own_idx p2 hp 1 (by decide)).2.1]; exact hS 1 (by decide))) (g := (mkF m 13 #[.val (.ref a1), .val (.int p2), .val (.long q3), .second] [(.int (p2 + (1 : Int32))), (.ref a1)])) rfl rfl (hb hby d6_13)) ?_
  show G (s₁.setTop (mkF m 14 #[.val (.ref a1), .val (.int p2), .val (.long q3), .second] [(.int (nar .byte (byteAt q3 1)))]))
  refine go (fun _ k => XS.lloadN X0.here hx rfl (hb hby d6_14) rfl k) ?_
  show G (s₁.setTop (mkF m 15 #[.val (.ref a1), .val (.int p2), .val (.long q3), .second] [(.long q3), (.int (nar .byte (byteAt q3 1)))]))
  refine go (fun _ k => XS.bipush X0.here hx rfl (hb hby d6_15) k) ?_
  show G (s₁.setTop (mkF m 17 #[.val (.ref a1), .val (.int p2), .val (.long q3), .second] [(.int (8 : Int32)), (.long q3), (.int (nar .byte (byteAt q3 1)))]))
  refine go (fun _ k => XS.lushr X0.here hx rfl (hb hby d6_17) rfl k) ?_
  show G (s₁.setTop (mkF m 18 #[.val (.ref a1), .val (.int p2), .val (.long q3), .second] [(.long ((q3.toUInt64 >>> ((8 : Int32) &&& 0x3f).toInt64.toUInt64).toInt64)), (.int (nar .byte (byteAt q3 1)))]))
  refine go (fun _ k => XS.l2i X0.here hx rfl (hb hby d6_18) rfl k) ?_
  show G (s₁.setTop (mkF m 19 #[.val (.ref a1), .val (.int p2), .val (.long q3), .second] [(.int (((q3.toUInt64 >>> ((8 : Int32) &&& 0x3f).toInt64.toUInt64).toInt64).toInt32)), (.int (nar .byte (byteAt q3 1)))]))
  refine go (fun _ k => XS.i2b X0.here hx rfl (hb hby d6_19) rfl k) ?_
  show G (s₁.setTop (mkF m 20 #[.val (.ref a1), .val (.int p2), .val (.long q3), .second] [(.int ((((q3.toUInt64 >>> ((8 : Int32) &&& 0x3f).toInt64.toUInt64).toInt64).toInt32).toInt8.toInt32)), (.int (nar .byte (byteAt q3 1)))]))
  have hc4 : (nar .byte (byteAt q3 1)) = ((((q3.toUInt64 >>> ((8 : Int32) &&& 0x3f).toInt64.toUInt64).toInt64).toInt32).toInt8.toInt32) := own_nar _
  refine go (fun _ k => XS.icmpNo X0.here hx rfl (hb hby d6_20) rfl (teq hc4).2 k) ?_
  show G (s₁.setTop (mkF m 23 #[.val (.ref a1), .val (.int p2), .val (.long q3), .second] []))
  refine go (fun _ k => XS.aloadN X0.here hx rfl (hb hby d6_23) rfl rfl k) ?_
  show G (s₁.setTop (mkF m 24 #[.val (.ref a1), .val (.int p2), .val (.long q3), .second] [(.ref a1)]))
  refine go (fun _ k => XS.iloadN X0.here hx rfl (hb hby d6_24) rfl k) ?_
  show G (s₁.setTop (mkF m 25 #[.val (.ref a1), .val (.int p2), .val (.long q3), .second] [(.int p2), (.ref a1)]))
  refine go (fun _ k => XS.iconst X0.here hx rfl (hb hby d6_25) k) ?_
  show G (s₁.setTop (mkF m 26 #[.val (.ref a1), .val (.int p2), .val (.long q3), .second] [(.int (2 : Int32)), (.int p2), (.ref a1)]))
  refine go (fun _ k => XS.iadd X0.here hx rfl (hb hby d6_26) rfl k) ?_
  show G (s₁.setTop (mkF m 27 #[.val (.ref a1), .val (.int p2), .val (.long q3), .second] [(.int (p2 + (2 : Int32))), (.ref a1)]))
  obtain ⟨cl5, Ar5, qk5, qs5, qn5, qh5, qg5⟩ := id VA
  refine go (X0.baloadBytes hx (j := (p2 + (2 : Int32))) (v := (.int (nar .byte (byteAt q3 2)))) (by rw [e0]; exact Ar5.1) (State.isArrayOf_alike hZ.alike Ar5.2.1) Ar5.2.2 (inb_of qs5 (own_idx p2 hp 2 (by decide)).1) (Has.at qh5 (inb_of qs5 (own_idx p2 hp 2 (by decide)).1) (by show vs.getD (p2 + Int32.ofNat 2).toNatClampNeg _ = _; rw [(own_idx p2 hp 2 (by decide)).2.1]; exact hS 2 (by decide))) (g := (mkF m 27 #[.val (.ref a1), .val (.int p2), .val (.long q3), .second] [(.int (p2 + (2 : Int32))), (.ref a1)])) rfl rfl (hb hby d6_27)) ?_
  show G (s₁.setTop (mkF m 28 #[.val (.ref a1), .val (.int p2), .val (.long q3), .second] [(.int (nar .byte (byteAt q3 2)))]))
  refine go (fun _ k => XS.lloadN X0.here hx rfl (hb hby d6_28) rfl k) ?_
  show G (s₁.setTop (mkF m 29 #[.val (.ref a1), .val (.int p2), .val (.long q3), .second] [(.long q3), (.int (nar .byte (byteAt q3 2)))]))
  refine go (fun _ k => XS.bipush X0.here hx rfl (hb hby d6_29) k) ?_
  show G (s₁.setTop (mkF m 31 #[.val (.ref a1), .val (.int p2), .val (.long q3), .second] [(.int (16 : Int32)), (.long q3), (.int (nar .byte (byteAt q3 2)))]))
  refine go (fun _ k => XS.lushr X0.here hx rfl (hb hby d6_31) rfl k) ?_
  show G (s₁.setTop (mkF m 32 #[.val (.ref a1), .val (.int p2), .val (.long q3), .second] [(.long ((q3.toUInt64 >>> ((16 : Int32) &&& 0x3f).toInt64.toUInt64).toInt64)), (.int (nar .byte (byteAt q3 2)))]))
  refine go (fun _ k => XS.l2i X0.here hx rfl (hb hby d6_32) rfl k) ?_
  show G (s₁.setTop (mkF m 33 #[.val (.ref a1), .val (.int p2), .val (.long q3), .second] [(.int (((q3.toUInt64 >>> ((16 : Int32) &&& 0x3f).toInt64.toUInt64).toInt64).toInt32)), (.int (nar .byte (byteAt q3 2)))]))
  refine go (fun _ k => XS.i2b X0.here hx rfl (hb hby d6_33) rfl k) ?_
  show G (s₁.setTop (mkF m 34 #[.val (.ref a1), .val (.int p2), .val (.long q3), .second] [(.int ((((q3.toUInt64 >>> ((16 : Int32) &&& 0x3f).toInt64.toUInt64).toInt64).toInt32).toInt8.toInt32)), (.int (nar .byte (byteAt q3 2)))]))
  have hc6 : (nar .byte (byteAt q3 2)) = ((((q3.toUInt64 >>> ((16 : Int32) &&& 0x3f).toInt64.toUInt64).toInt64).toInt32).toInt8.toInt32) := own_nar _
  refine go (fun _ k => XS.icmpNo X0.here hx rfl (hb hby d6_34) rfl (teq hc6).2 k) ?_
  show G (s₁.setTop (mkF m 37 #[.val (.ref a1), .val (.int p2), .val (.long q3), .second] []))
  refine go (fun _ k => XS.aloadN X0.here hx rfl (hb hby d6_37) rfl rfl k) ?_
  show G (s₁.setTop (mkF m 38 #[.val (.ref a1), .val (.int p2), .val (.long q3), .second] [(.ref a1)]))
  refine go (fun _ k => XS.iloadN X0.here hx rfl (hb hby d6_38) rfl k) ?_
  show G (s₁.setTop (mkF m 39 #[.val (.ref a1), .val (.int p2), .val (.long q3), .second] [(.int p2), (.ref a1)]))
  refine go (fun _ k => XS.iconst X0.here hx rfl (hb hby d6_39) k) ?_
  show G (s₁.setTop (mkF m 40 #[.val (.ref a1), .val (.int p2), .val (.long q3), .second] [(.int (3 : Int32)), (.int p2), (.ref a1)]))
  refine go (fun _ k => XS.iadd X0.here hx rfl (hb hby d6_40) rfl k) ?_
  show G (s₁.setTop (mkF m 41 #[.val (.ref a1), .val (.int p2), .val (.long q3), .second] [(.int (p2 + (3 : Int32))), (.ref a1)]))
  obtain ⟨cl7, Ar7, qk7, qs7, qn7, qh7, qg7⟩ := id VA
  refine go (X0.baloadBytes hx (j := (p2 + (3 : Int32))) (v := (.int (nar .byte (byteAt q3 3)))) (by rw [e0]; exact Ar7.1) (State.isArrayOf_alike hZ.alike Ar7.2.1) Ar7.2.2 (inb_of qs7 (own_idx p2 hp 3 (by decide)).1) (Has.at qh7 (inb_of qs7 (own_idx p2 hp 3 (by decide)).1) (by show vs.getD (p2 + Int32.ofNat 3).toNatClampNeg _ = _; rw [(own_idx p2 hp 3 (by decide)).2.1]; exact hS 3 (by decide))) (g := (mkF m 41 #[.val (.ref a1), .val (.int p2), .val (.long q3), .second] [(.int (p2 + (3 : Int32))), (.ref a1)])) rfl rfl (hb hby d6_41)) ?_
  show G (s₁.setTop (mkF m 42 #[.val (.ref a1), .val (.int p2), .val (.long q3), .second] [(.int (nar .byte (byteAt q3 3)))]))
  refine go (fun _ k => XS.lloadN X0.here hx rfl (hb hby d6_42) rfl k) ?_
  show G (s₁.setTop (mkF m 43 #[.val (.ref a1), .val (.int p2), .val (.long q3), .second] [(.long q3), (.int (nar .byte (byteAt q3 3)))]))
  refine go (fun _ k => XS.bipush X0.here hx rfl (hb hby d6_43) k) ?_
  show G (s₁.setTop (mkF m 45 #[.val (.ref a1), .val (.int p2), .val (.long q3), .second] [(.int (24 : Int32)), (.long q3), (.int (nar .byte (byteAt q3 3)))]))
  refine go (fun _ k => XS.lushr X0.here hx rfl (hb hby d6_45) rfl k) ?_
  show G (s₁.setTop (mkF m 46 #[.val (.ref a1), .val (.int p2), .val (.long q3), .second] [(.long ((q3.toUInt64 >>> ((24 : Int32) &&& 0x3f).toInt64.toUInt64).toInt64)), (.int (nar .byte (byteAt q3 3)))]))
  refine go (fun _ k => XS.l2i X0.here hx rfl (hb hby d6_46) rfl k) ?_
  show G (s₁.setTop (mkF m 47 #[.val (.ref a1), .val (.int p2), .val (.long q3), .second] [(.int (((q3.toUInt64 >>> ((24 : Int32) &&& 0x3f).toInt64.toUInt64).toInt64).toInt32)), (.int (nar .byte (byteAt q3 3)))]))
  refine go (fun _ k => XS.i2b X0.here hx rfl (hb hby d6_47) rfl k) ?_
  show G (s₁.setTop (mkF m 48 #[.val (.ref a1), .val (.int p2), .val (.long q3), .second] [(.int ((((q3.toUInt64 >>> ((24 : Int32) &&& 0x3f).toInt64.toUInt64).toInt64).toInt32).toInt8.toInt32)), (.int (nar .byte (byteAt q3 3)))]))
  have hc8 : (nar .byte (byteAt q3 3)) = ((((q3.toUInt64 >>> ((24 : Int32) &&& 0x3f).toInt64.toUInt64).toInt64).toInt32).toInt8.toInt32) := own_nar _
  refine go (fun _ k => XS.icmpNo X0.here hx rfl (hb hby d6_48) rfl (teq hc8).2 k) ?_
  show G (s₁.setTop (mkF m 51 #[.val (.ref a1), .val (.int p2), .val (.long q3), .second] []))
  refine go (fun _ k => XS.aloadN X0.here hx rfl (hb hby d6_51) rfl rfl k) ?_
  show G (s₁.setTop (mkF m 52 #[.val (.ref a1), .val (.int p2), .val (.long q3), .second] [(.ref a1)]))
  refine go (fun _ k => XS.iloadN X0.here hx rfl (hb hby d6_52) rfl k) ?_
  show G (s₁.setTop (mkF m 53 #[.val (.ref a1), .val (.int p2), .val (.long q3), .second] [(.int p2), (.ref a1)]))
  refine go (fun _ k => XS.iconst X0.here hx rfl (hb hby d6_53) k) ?_
  show G (s₁.setTop (mkF m 54 #[.val (.ref a1), .val (.int p2), .val (.long q3), .second] [(.int (4 : Int32)), (.int p2), (.ref a1)]))
  refine go (fun _ k => XS.iadd X0.here hx rfl (hb hby d6_54) rfl k) ?_
  show G (s₁.setTop (mkF m 55 #[.val (.ref a1), .val (.int p2), .val (.long q3), .second] [(.int (p2 + (4 : Int32))), (.ref a1)]))
  obtain ⟨cl9, Ar9, qk9, qs9, qn9, qh9, qg9⟩ := id VA
  refine go (X0.baloadBytes hx (j := (p2 + (4 : Int32))) (v := (.int (nar .byte (byteAt q3 4)))) (by rw [e0]; exact Ar9.1) (State.isArrayOf_alike hZ.alike Ar9.2.1) Ar9.2.2 (inb_of qs9 (own_idx p2 hp 4 (by decide)).1) (Has.at qh9 (inb_of qs9 (own_idx p2 hp 4 (by decide)).1) (by show vs.getD (p2 + Int32.ofNat 4).toNatClampNeg _ = _; rw [(own_idx p2 hp 4 (by decide)).2.1]; exact hS 4 (by decide))) (g := (mkF m 55 #[.val (.ref a1), .val (.int p2), .val (.long q3), .second] [(.int (p2 + (4 : Int32))), (.ref a1)])) rfl rfl (hb hby d6_55)) ?_
  show G (s₁.setTop (mkF m 56 #[.val (.ref a1), .val (.int p2), .val (.long q3), .second] [(.int (nar .byte (byteAt q3 4)))]))
  refine go (fun _ k => XS.lloadN X0.here hx rfl (hb hby d6_56) rfl k) ?_
  show G (s₁.setTop (mkF m 57 #[.val (.ref a1), .val (.int p2), .val (.long q3), .second] [(.long q3), (.int (nar .byte (byteAt q3 4)))]))
  refine go (fun _ k => XS.bipush X0.here hx rfl (hb hby d6_57) k) ?_
  show G (s₁.setTop (mkF m 59 #[.val (.ref a1), .val (.int p2), .val (.long q3), .second] [(.int (32 : Int32)), (.long q3), (.int (nar .byte (byteAt q3 4)))]))
  refine go (fun _ k => XS.lushr X0.here hx rfl (hb hby d6_59) rfl k) ?_
  show G (s₁.setTop (mkF m 60 #[.val (.ref a1), .val (.int p2), .val (.long q3), .second] [(.long ((q3.toUInt64 >>> ((32 : Int32) &&& 0x3f).toInt64.toUInt64).toInt64)), (.int (nar .byte (byteAt q3 4)))]))
  refine go (fun _ k => XS.l2i X0.here hx rfl (hb hby d6_60) rfl k) ?_
  show G (s₁.setTop (mkF m 61 #[.val (.ref a1), .val (.int p2), .val (.long q3), .second] [(.int (((q3.toUInt64 >>> ((32 : Int32) &&& 0x3f).toInt64.toUInt64).toInt64).toInt32)), (.int (nar .byte (byteAt q3 4)))]))
  refine go (fun _ k => XS.i2b X0.here hx rfl (hb hby d6_61) rfl k) ?_
  show G (s₁.setTop (mkF m 62 #[.val (.ref a1), .val (.int p2), .val (.long q3), .second] [(.int ((((q3.toUInt64 >>> ((32 : Int32) &&& 0x3f).toInt64.toUInt64).toInt64).toInt32).toInt8.toInt32)), (.int (nar .byte (byteAt q3 4)))]))
  have hc10 : (nar .byte (byteAt q3 4)) = ((((q3.toUInt64 >>> ((32 : Int32) &&& 0x3f).toInt64.toUInt64).toInt64).toInt32).toInt8.toInt32) := own_nar _
  refine go (fun _ k => XS.icmpNo X0.here hx rfl (hb hby d6_62) rfl (teq hc10).2 k) ?_
  show G (s₁.setTop (mkF m 65 #[.val (.ref a1), .val (.int p2), .val (.long q3), .second] []))
  refine go (fun _ k => XS.aloadN X0.here hx rfl (hb hby d6_65) rfl rfl k) ?_
  show G (s₁.setTop (mkF m 66 #[.val (.ref a1), .val (.int p2), .val (.long q3), .second] [(.ref a1)]))
  refine go (fun _ k => XS.iloadN X0.here hx rfl (hb hby d6_66) rfl k) ?_
  show G (s₁.setTop (mkF m 67 #[.val (.ref a1), .val (.int p2), .val (.long q3), .second] [(.int p2), (.ref a1)]))
  refine go (fun _ k => XS.iconst X0.here hx rfl (hb hby d6_67) k) ?_
  show G (s₁.setTop (mkF m 68 #[.val (.ref a1), .val (.int p2), .val (.long q3), .second] [(.int (5 : Int32)), (.int p2), (.ref a1)]))
  refine go (fun _ k => XS.iadd X0.here hx rfl (hb hby d6_68) rfl k) ?_
  show G (s₁.setTop (mkF m 69 #[.val (.ref a1), .val (.int p2), .val (.long q3), .second] [(.int (p2 + (5 : Int32))), (.ref a1)]))
  obtain ⟨cl11, Ar11, qk11, qs11, qn11, qh11, qg11⟩ := id VA
  refine go (X0.baloadBytes hx (j := (p2 + (5 : Int32))) (v := (.int (nar .byte (byteAt q3 5)))) (by rw [e0]; exact Ar11.1) (State.isArrayOf_alike hZ.alike Ar11.2.1) Ar11.2.2 (inb_of qs11 (own_idx p2 hp 5 (by decide)).1) (Has.at qh11 (inb_of qs11 (own_idx p2 hp 5 (by decide)).1) (by show vs.getD (p2 + Int32.ofNat 5).toNatClampNeg _ = _; rw [(own_idx p2 hp 5 (by decide)).2.1]; exact hS 5 (by decide))) (g := (mkF m 69 #[.val (.ref a1), .val (.int p2), .val (.long q3), .second] [(.int (p2 + (5 : Int32))), (.ref a1)])) rfl rfl (hb hby d6_69)) ?_
  show G (s₁.setTop (mkF m 70 #[.val (.ref a1), .val (.int p2), .val (.long q3), .second] [(.int (nar .byte (byteAt q3 5)))]))
  refine go (fun _ k => XS.lloadN X0.here hx rfl (hb hby d6_70) rfl k) ?_
  show G (s₁.setTop (mkF m 71 #[.val (.ref a1), .val (.int p2), .val (.long q3), .second] [(.long q3), (.int (nar .byte (byteAt q3 5)))]))
  refine go (fun _ k => XS.bipush X0.here hx rfl (hb hby d6_71) k) ?_
  show G (s₁.setTop (mkF m 73 #[.val (.ref a1), .val (.int p2), .val (.long q3), .second] [(.int (40 : Int32)), (.long q3), (.int (nar .byte (byteAt q3 5)))]))
  refine go (fun _ k => XS.lushr X0.here hx rfl (hb hby d6_73) rfl k) ?_
  show G (s₁.setTop (mkF m 74 #[.val (.ref a1), .val (.int p2), .val (.long q3), .second] [(.long ((q3.toUInt64 >>> ((40 : Int32) &&& 0x3f).toInt64.toUInt64).toInt64)), (.int (nar .byte (byteAt q3 5)))]))
  refine go (fun _ k => XS.l2i X0.here hx rfl (hb hby d6_74) rfl k) ?_
  show G (s₁.setTop (mkF m 75 #[.val (.ref a1), .val (.int p2), .val (.long q3), .second] [(.int (((q3.toUInt64 >>> ((40 : Int32) &&& 0x3f).toInt64.toUInt64).toInt64).toInt32)), (.int (nar .byte (byteAt q3 5)))]))
  refine go (fun _ k => XS.i2b X0.here hx rfl (hb hby d6_75) rfl k) ?_
  show G (s₁.setTop (mkF m 76 #[.val (.ref a1), .val (.int p2), .val (.long q3), .second] [(.int ((((q3.toUInt64 >>> ((40 : Int32) &&& 0x3f).toInt64.toUInt64).toInt64).toInt32).toInt8.toInt32)), (.int (nar .byte (byteAt q3 5)))]))
  have hc12 : (nar .byte (byteAt q3 5)) = ((((q3.toUInt64 >>> ((40 : Int32) &&& 0x3f).toInt64.toUInt64).toInt64).toInt32).toInt8.toInt32) := own_nar _
  refine go (fun _ k => XS.icmpNo X0.here hx rfl (hb hby d6_76) rfl (teq hc12).2 k) ?_
  show G (s₁.setTop (mkF m 79 #[.val (.ref a1), .val (.int p2), .val (.long q3), .second] []))
  refine go (fun _ k => XS.aloadN X0.here hx rfl (hb hby d6_79) rfl rfl k) ?_
  show G (s₁.setTop (mkF m 80 #[.val (.ref a1), .val (.int p2), .val (.long q3), .second] [(.ref a1)]))
  refine go (fun _ k => XS.iloadN X0.here hx rfl (hb hby d6_80) rfl k) ?_
  show G (s₁.setTop (mkF m 81 #[.val (.ref a1), .val (.int p2), .val (.long q3), .second] [(.int p2), (.ref a1)]))
  refine go (fun _ k => XS.bipush X0.here hx rfl (hb hby d6_81) k) ?_
  show G (s₁.setTop (mkF m 83 #[.val (.ref a1), .val (.int p2), .val (.long q3), .second] [(.int (6 : Int32)), (.int p2), (.ref a1)]))
  refine go (fun _ k => XS.iadd X0.here hx rfl (hb hby d6_83) rfl k) ?_
  show G (s₁.setTop (mkF m 84 #[.val (.ref a1), .val (.int p2), .val (.long q3), .second] [(.int (p2 + (6 : Int32))), (.ref a1)]))
  obtain ⟨cl13, Ar13, qk13, qs13, qn13, qh13, qg13⟩ := id VA
  refine go (X0.baloadBytes hx (j := (p2 + (6 : Int32))) (v := (.int (nar .byte (byteAt q3 6)))) (by rw [e0]; exact Ar13.1) (State.isArrayOf_alike hZ.alike Ar13.2.1) Ar13.2.2 (inb_of qs13 (own_idx p2 hp 6 (by decide)).1) (Has.at qh13 (inb_of qs13 (own_idx p2 hp 6 (by decide)).1) (by show vs.getD (p2 + Int32.ofNat 6).toNatClampNeg _ = _; rw [(own_idx p2 hp 6 (by decide)).2.1]; exact hS 6 (by decide))) (g := (mkF m 84 #[.val (.ref a1), .val (.int p2), .val (.long q3), .second] [(.int (p2 + (6 : Int32))), (.ref a1)])) rfl rfl (hb hby d6_84)) ?_
  show G (s₁.setTop (mkF m 85 #[.val (.ref a1), .val (.int p2), .val (.long q3), .second] [(.int (nar .byte (byteAt q3 6)))]))
  refine go (fun _ k => XS.lloadN X0.here hx rfl (hb hby d6_85) rfl k) ?_
  show G (s₁.setTop (mkF m 86 #[.val (.ref a1), .val (.int p2), .val (.long q3), .second] [(.long q3), (.int (nar .byte (byteAt q3 6)))]))
  refine go (fun _ k => XS.bipush X0.here hx rfl (hb hby d6_86) k) ?_
  show G (s₁.setTop (mkF m 88 #[.val (.ref a1), .val (.int p2), .val (.long q3), .second] [(.int (48 : Int32)), (.long q3), (.int (nar .byte (byteAt q3 6)))]))
  refine go (fun _ k => XS.lushr X0.here hx rfl (hb hby d6_88) rfl k) ?_
  show G (s₁.setTop (mkF m 89 #[.val (.ref a1), .val (.int p2), .val (.long q3), .second] [(.long ((q3.toUInt64 >>> ((48 : Int32) &&& 0x3f).toInt64.toUInt64).toInt64)), (.int (nar .byte (byteAt q3 6)))]))
  refine go (fun _ k => XS.l2i X0.here hx rfl (hb hby d6_89) rfl k) ?_
  show G (s₁.setTop (mkF m 90 #[.val (.ref a1), .val (.int p2), .val (.long q3), .second] [(.int (((q3.toUInt64 >>> ((48 : Int32) &&& 0x3f).toInt64.toUInt64).toInt64).toInt32)), (.int (nar .byte (byteAt q3 6)))]))
  refine go (fun _ k => XS.i2b X0.here hx rfl (hb hby d6_90) rfl k) ?_
  show G (s₁.setTop (mkF m 91 #[.val (.ref a1), .val (.int p2), .val (.long q3), .second] [(.int ((((q3.toUInt64 >>> ((48 : Int32) &&& 0x3f).toInt64.toUInt64).toInt64).toInt32).toInt8.toInt32)), (.int (nar .byte (byteAt q3 6)))]))
  have hc14 : (nar .byte (byteAt q3 6)) = ((((q3.toUInt64 >>> ((48 : Int32) &&& 0x3f).toInt64.toUInt64).toInt64).toInt32).toInt8.toInt32) := own_nar _
  refine go (fun _ k => XS.icmpNo X0.here hx rfl (hb hby d6_91) rfl (teq hc14).2 k) ?_
  show G (s₁.setTop (mkF m 94 #[.val (.ref a1), .val (.int p2), .val (.long q3), .second] []))
  refine go (fun _ k => XS.aloadN X0.here hx rfl (hb hby d6_94) rfl rfl k) ?_
  show G (s₁.setTop (mkF m 95 #[.val (.ref a1), .val (.int p2), .val (.long q3), .second] [(.ref a1)]))
  refine go (fun _ k => XS.iloadN X0.here hx rfl (hb hby d6_95) rfl k) ?_
  show G (s₁.setTop (mkF m 96 #[.val (.ref a1), .val (.int p2), .val (.long q3), .second] [(.int p2), (.ref a1)]))
  refine go (fun _ k => XS.bipush X0.here hx rfl (hb hby d6_96) k) ?_
  show G (s₁.setTop (mkF m 98 #[.val (.ref a1), .val (.int p2), .val (.long q3), .second] [(.int (7 : Int32)), (.int p2), (.ref a1)]))
  refine go (fun _ k => XS.iadd X0.here hx rfl (hb hby d6_98) rfl k) ?_
  show G (s₁.setTop (mkF m 99 #[.val (.ref a1), .val (.int p2), .val (.long q3), .second] [(.int (p2 + (7 : Int32))), (.ref a1)]))
  obtain ⟨cl15, Ar15, qk15, qs15, qn15, qh15, qg15⟩ := id VA
  refine go (X0.baloadBytes hx (j := (p2 + (7 : Int32))) (v := (.int (nar .byte (byteAt q3 7)))) (by rw [e0]; exact Ar15.1) (State.isArrayOf_alike hZ.alike Ar15.2.1) Ar15.2.2 (inb_of qs15 (own_idx p2 hp 7 (by decide)).1) (Has.at qh15 (inb_of qs15 (own_idx p2 hp 7 (by decide)).1) (by show vs.getD (p2 + Int32.ofNat 7).toNatClampNeg _ = _; rw [(own_idx p2 hp 7 (by decide)).2.1]; exact hS 7 (by decide))) (g := (mkF m 99 #[.val (.ref a1), .val (.int p2), .val (.long q3), .second] [(.int (p2 + (7 : Int32))), (.ref a1)])) rfl rfl (hb hby d6_99)) ?_
  show G (s₁.setTop (mkF m 100 #[.val (.ref a1), .val (.int p2), .val (.long q3), .second] [(.int (nar .byte (byteAt q3 7)))]))
  refine go (fun _ k => XS.lloadN X0.here hx rfl (hb hby d6_100) rfl k) ?_
  show G (s₁.setTop (mkF m 101 #[.val (.ref a1), .val (.int p2), .val (.long q3), .second] [(.long q3), (.int (nar .byte (byteAt q3 7)))]))
  refine go (fun _ k => XS.bipush X0.here hx rfl (hb hby d6_101) k) ?_
  show G (s₁.setTop (mkF m 103 #[.val (.ref a1), .val (.int p2), .val (.long q3), .second] [(.int (56 : Int32)), (.long q3), (.int (nar .byte (byteAt q3 7)))]))
  refine go (fun _ k => XS.lushr X0.here hx rfl (hb hby d6_103) rfl k) ?_
  show G (s₁.setTop (mkF m 104 #[.val (.ref a1), .val (.int p2), .val (.long q3), .second] [(.long ((q3.toUInt64 >>> ((56 : Int32) &&& 0x3f).toInt64.toUInt64).toInt64)), (.int (nar .byte (byteAt q3 7)))]))
  refine go (fun _ k => XS.l2i X0.here hx rfl (hb hby d6_104) rfl k) ?_
  show G (s₁.setTop (mkF m 105 #[.val (.ref a1), .val (.int p2), .val (.long q3), .second] [(.int (((q3.toUInt64 >>> ((56 : Int32) &&& 0x3f).toInt64.toUInt64).toInt64).toInt32)), (.int (nar .byte (byteAt q3 7)))]))
  refine go (fun _ k => XS.i2b X0.here hx rfl (hb hby d6_105) rfl k) ?_
  show G (s₁.setTop (mkF m 106 #[.val (.ref a1), .val (.int p2), .val (.long q3), .second] [(.int ((((q3.toUInt64 >>> ((56 : Int32) &&& 0x3f).toInt64.toUInt64).toInt64).toInt32).toInt8.toInt32)), (.int (nar .byte (byteAt q3 7)))]))
  have hc16 : (nar .byte (byteAt q3 7)) = ((((q3.toUInt64 >>> ((56 : Int32) &&& 0x3f).toInt64.toUInt64).toInt64).toInt32).toInt8.toInt32) := own_nar _
  refine go (fun _ k => XS.icmpNo X0.here hx rfl (hb hby d6_106) rfl (teq hc16).2 k) ?_
  show G (s₁.setTop (mkF m 109 #[.val (.ref a1), .val (.int p2), .val (.long q3), .second] []))
  refine go (fun _ k => XS.iconst X0.here hx rfl (hb hby d6_109) k) ?_
  show G (s₁.setTop (mkF m 110 #[.val (.ref a1), .val (.int p2), .val (.long q3), .second] [(.int (1 : Int32))]))
  refine go (fun _ k => XS.goto X0.here hx rfl (pc0 := 110) (pc' := 114) rfl (hb hby d6_110) (by decide) (by decide) k) ?_
  show G (s₁.setTop (mkF m 114 #[.val (.ref a1), .val (.int p2), .val (.long q3), .second] [(.int (1 : Int32))]))
  rw [hG]
  refine own_fin X0 Bd.notSynchronized (v := some (.int (1 : Int32))) (fun h => by rw [Bd.returns] at h; cases h) (fun fs hr => retOut X0 hx Bd.returns rfl (by simp [FieldType.isReference, Value.isRef]) (hb hby d6_114) hr) ?_ (by decide) (by decide)
  show Q6 Z a1 p2 q3 k vs h0 n0 (some (.int (1 : Int32))) s₁.heap _
  rw [e0]
  exact ⟨rfl, N0, rfl⟩

theorem pn_0 : plainName "com/example/answer_once/answeronce/model/FingerprintOfDigestPinLaw" = true := by first | (simp [plainName, overriddenIn]; done) | decide +kernel
theorem pd_0_0 : parseMethodDescriptor "([BIJ)V" = some ⟨[(.array .byte), .int, .long], none⟩ := by decide +kernel
theorem pd_0_1 : parseMethodDescriptor "([B)Lcom/example/answer_once/answeronce/model/Fingerprint;" = some ⟨[(.array .byte)], some (.object "com/example/answer_once/answeronce/model/Fingerprint")⟩ := by decide +kernel
theorem pd_0_2 : parseMethodDescriptor "()[B" = some ⟨[], some (.array .byte)⟩ := by decide +kernel
theorem pd_0_3 : parseMethodDescriptor "([BIJ)Z" = some ⟨[(.array .byte), .int, .long], some .boolean⟩ := by decide +kernel
theorem ef_rm0 (m : MethodId) (q1 : Int64) (q2 : Int64) (q3 : Int64) (q4 : Int64) (p5 : Int32) : entryFrame m #[(.long q1), (.long q2), (.long q3), (.long q4), (.int p5)] maxLocals = mkF m 0 #[.val (.long q1), .second, .val (.long q2), .second, .val (.long q3), .second, .val (.long q4), .second, .val (.int p5), .unset, .unset, .unset, .unset] [] := by first | (simp [entryFrame, mkF, argsToLocals, Value.category, maxLocals]; done) | rfl
def Q0 (Z : State) (q1 : Int64) (q2 : Int64) (q3 : Int64) (q4 : Int64) (p5 : Int32) (h0 : Heap) (n0 : Nat) (v : Option Value) (h : Heap) (L : List Loc) : Prop := v = some (.int (1 : Int32)) ∧ Fr n0 L
set_option maxRecDepth 65536 in
set_option maxHeartbeats 40000000 in
theorem rm0 (l : Launch) (Z : State) (a0 : Array Value) (hw : ∀ d ∈ tables_1, d.before a0 Z = true) (ws : List Jvm.Cond) (q1 : Int64) (q2 : Int64) (q3 : Int64) (q4 : Int64) (p5 : Int32) (h0 : Heap) (n0 : Nat) (Z0 : n0 ≤ h0.size) :
    MetFree l x (head1 (Jvm.Cond.code x code maxLocals ret :: ws) room_1) (fun a U => a = #[(.long q1), (.long q2), (.long q3), (.long q4), (.int p5)] ∧ Z.Warmed39 U.vm ∧ U.heap = h0) (fun _ _ _ _ _ => True) (fun _ U o U' => ∃ v L, o = .returned v ∧ Q0 Z q1 q2 q3 q4 p5 h0 n0 v U'.heap L ∧ FrameEnd U o U' L room_1.cells room_1.slots) := by
  refine MetFree.of_bodySF (plainFor_of_name pn_0) hisR ?_
  intro p e s m args below meth c s₁ Bd hml0 hP hK
  obtain ⟨rfl, hZ, hh⟩ := hP
  have hx := Bd.exec
  have hby := Bd.bytes
  have hml : c.maxLocals = 13 := hml0
  have hown : s.vm.findClass "com/example/answer_once/answeronce/model/FingerprintOfDigestPinLaw" = some m.cls := findClass_of_methodNamed Bd.named
  have hnm := (name_of_methodNamed Bd.named Bd.method).1
  have X0 : Stand p l e room_1 s m #[(.long q1), (.long q2), (.long q3), (.long q4), (.int p5)] below meth c s₁ [] 0 0 := Stand.of_body Bd
  have e0 : s₁.heap = h0 := by rw [← hh, Bd.state]; rfl
  have N0 := Fr.nil n0
  obtain ⟨G, hG⟩ : ∃ G : State → Prop, G = OwnG p e below s room_1.cells room_1.slots (Q0 Z q1 q2 q3 q4 p5 h0 n0) := ⟨_, rfl⟩
  have go : ∀ {A B : State}, (∀ t, Steps p.tables e below A t → Steps p.tables e below B t) → G A → G B := fun h k => by rw [hG] at k ⊢; exact OwnG.go h k
  suffices k0 : G (s₁.setTop (mkF m 0 #[.val (.long q1), .second, .val (.long q2), .second, .val (.long q3), .second, .val (.long q4), .second, .val (.int p5), .unset, .unset, .unset, .unset] [])) by
    rw [hG] at k0; exact OwnG.go (fun t k => castTop (ef_rm0 m q1 q2 q3 q4 p5) k) k0
  refine go (fun _ k => XS.bipush X0.here hx rfl (hb hby at_0) k) ?_
  show G (s₁.setTop (mkF m 2 #[.val (.long q1), .second, .val (.long q2), .second, .val (.long q3), .second, .val (.long q4), .second, .val (.int p5), .unset, .unset, .unset, .unset] [(.int (32 : Int32))]))
  obtain ⟨T1, h1, k1, X1, e1, E1, A1, B1, st1⟩ := newPE X0 hx hZ (hw _ (List.mem_of_getElem? (i := 0) rfl)) e0 (g := (mkF m 2 #[.val (.long q1), .second, .val (.long q2), .second, .val (.long q3), .second, .val (.long q4), .second, .val (.int p5), .unset, .unset, .unset, .unset] [(.int (32 : Int32))])) rfl (hb hby at_2) rfl (by decide) (cap := 32) (by decide) (by decide) (by decide) (by decide) (ad := "[B") (by decide)
  obtain ⟨b1, ga1⟩ : ∃ z, z = h0.size := ⟨_, rfl⟩
  have g_b1 : n0 ≤ b1 := Nat.le_trans Z0 (Nat.le_of_eq ga1.symm)
  rw [← ga1] at A1 B1 st1
  have Zs1 : n0 ≤ h1.size := Nat.le_trans Z0 E1.1
  have V1 : Arv Z h1 b1 k1 .byte (32 : Int32) [(.int (0 : Int32)), (.int (0 : Int32)), (.int (0 : Int32)), (.int (0 : Int32)), (.int (0 : Int32)), (.int (0 : Int32)), (.int (0 : Int32)), (.int (0 : Int32)), (.int (0 : Int32)), (.int (0 : Int32)), (.int (0 : Int32)), (.int (0 : Int32)), (.int (0 : Int32)), (.int (0 : Int32)), (.int (0 : Int32)), (.int (0 : Int32)), (.int (0 : Int32)), (.int (0 : Int32)), (.int (0 : Int32)), (.int (0 : Int32)), (.int (0 : Int32)), (.int (0 : Int32)), (.int (0 : Int32)), (.int (0 : Int32)), (.int (0 : Int32)), (.int (0 : Int32)), (.int (0 : Int32)), (.int (0 : Int32)), (.int (0 : Int32)), (.int (0 : Int32)), (.int (0 : Int32)), (.int (0 : Int32))] (.int (0 : Int32)) := (Arv.new A1 (by decide)).pad (pad_rep [] (.int (0 : Int32)) 32)
  refine go st1 ?_
  show G (T1.setTop (mkF m 4 #[.val (.long q1), .second, .val (.long q2), .second, .val (.long q3), .second, .val (.long q4), .second, .val (.int p5), .unset, .unset, .unset, .unset] [(.ref b1)]))
  have V1r : Arv Z h1 b1 k1 .byte (32 : Int32) (List.replicate 32 (.int (0 : Int32))) (.int (0 : Int32)) := V1
  refine go (fun _ k => XS.astore X1.here hx rfl (hb hby at_4) rfl rfl (l' := #[.val (.long q1), .second, .val (.long q2), .second, .val (.long q3), .second, .val (.long q4), .second, .val (.int p5), .val (.ref b1), .unset, .unset, .unset]) rfl k) ?_
  show G (T1.setTop (mkF m 6 #[.val (.long q1), .second, .val (.long q2), .second, .val (.long q3), .second, .val (.long q4), .second, .val (.int p5), .val (.ref b1), .unset, .unset, .unset] []))
  refine go (fun _ k => XS.aload X1.here hx rfl (hb hby at_6) rfl rfl k) ?_
  show G (T1.setTop (mkF m 8 #[.val (.long q1), .second, .val (.long q2), .second, .val (.long q3), .second, .val (.long q4), .second, .val (.int p5), .val (.ref b1), .unset, .unset, .unset] [(.ref b1)]))
  refine go (fun _ k => XS.iconst X1.here hx rfl (hb hby at_8) k) ?_
  show G (T1.setTop (mkF m 9 #[.val (.long q1), .second, .val (.long q2), .second, .val (.long q3), .second, .val (.long q4), .second, .val (.int p5), .val (.ref b1), .unset, .unset, .unset] [(.int (0 : Int32)), (.ref b1)]))
  refine go (fun _ k => XS.lloadN X1.here hx rfl (hb hby at_9) rfl k) ?_
  show G (T1.setTop (mkF m 10 #[.val (.long q1), .second, .val (.long q2), .second, .val (.long q3), .second, .val (.long q4), .second, .val (.int p5), .val (.ref b1), .unset, .unset, .unset] [(.long q1), (.int (0 : Int32)), (.ref b1)]))
  obtain ⟨_, _, ⟨T2, L2, k2, n2⟩, -, X2, ⟨Lc2, hQ2, l2, y2, z2⟩, st2⟩ := Jvm.LawKit.callS X1 hx (y := (⟨"com/example/answer_once/answeronce/model/FingerprintOfDigestPinLaw", "put", "([BIJ)V"⟩ : MethodName)) hown (mvT hZ (hw _ (List.mem_of_getElem? (i := 1) rfl))) (mvT hZ (hw _ (List.mem_of_getElem? (i := 2) rfl))) (mvT hZ (hw _ (List.mem_of_getElem? (i := 3) rfl))) (mvT hZ (hw _ (List.mem_of_getElem? (i := 4) rfl))) (by decide) (backOf (W := 0) (rm1 l Z a0 hw [] b1 (0 : Int32) q1 k1 (List.replicate 32 (.int (0 : Int32))) h1 n0 Zs1 V1r rfl (Or.inl rfl) g_b1) hZ (hw _ (List.mem_of_getElem? (i := 4) rfl)) (hw _ (List.mem_of_getElem? (i := 3) rfl)) (by decide) (by decide)) (g := (mkF m 10 #[.val (.long q1), .second, .val (.long q2), .second, .val (.long q3), .second, .val (.long q4), .second, .val (.int p5), .val (.ref b1), .unset, .unset, .unset] [(.long q1), (.int (0 : Int32)), (.ref b1)])) rfl (by rw [hml]; rfl) (argsL := [(.ref b1), (.int (0 : Int32)), (.long q1)]) (rest := []) (lenOf pd_0_0 rfl) rfl (by show 2 * 0 + _ ≤ _; exact Nat.le_of_eq rfl) (hb hby at_10) (fun _ _ => ⟨rfl, e1, (by decide : 1 + 0 ≤ _), (by decide : 32 + 0 ≤ _)⟩)
  dsimp only [Pt.U, Pt.locs, Pt.cells, Pt.slots] at X2 l2 y2 z2 st2 hQ2
  subst l2 y2 z2
  obtain ⟨rfl, N2q, Kc2, c2_0⟩ := hQ2
  have f3 := B1.keep Kc2
  have Zs2 : n0 ≤ T2.heap.size := Nat.le_trans Zs1 Kc2.1
  have N2 := Fr.app N0 N2q
  refine go st2 ?_
  show G (T2.setTop (mkF m 13 #[.val (.long q1), .second, .val (.long q2), .second, .val (.long q3), .second, .val (.long q4), .second, .val (.int p5), .val (.ref b1), .unset, .unset, .unset] []))
  refine go (fun _ k => XS.aload X2.here hx rfl (hb hby at_13) rfl rfl k) ?_
  show G (T2.setTop (mkF m 15 #[.val (.long q1), .second, .val (.long q2), .second, .val (.long q3), .second, .val (.long q4), .second, .val (.int p5), .val (.ref b1), .unset, .unset, .unset] [(.ref b1)]))
  refine go (fun _ k => XS.bipush X2.here hx rfl (hb hby at_15) k) ?_
  show G (T2.setTop (mkF m 17 #[.val (.long q1), .second, .val (.long q2), .second, .val (.long q3), .second, .val (.long q4), .second, .val (.int p5), .val (.ref b1), .unset, .unset, .unset] [(.int (8 : Int32)), (.ref b1)]))
  refine go (fun _ k => XS.lloadN X2.here hx rfl (hb hby at_17) rfl k) ?_
  show G (T2.setTop (mkF m 18 #[.val (.long q1), .second, .val (.long q2), .second, .val (.long q3), .second, .val (.long q4), .second, .val (.int p5), .val (.ref b1), .unset, .unset, .unset] [(.long q2), (.int (8 : Int32)), (.ref b1)]))
  obtain ⟨_, _, ⟨T4, L4, k4, n4⟩, -, X4, ⟨Lc4, hQ4, l4, y4, z4⟩, st4⟩ := Jvm.LawKit.callS X2 hx (y := (⟨"com/example/answer_once/answeronce/model/FingerprintOfDigestPinLaw", "put", "([BIJ)V"⟩ : MethodName)) hown (mvT hZ (hw _ (List.mem_of_getElem? (i := 1) rfl))) (mvT hZ (hw _ (List.mem_of_getElem? (i := 2) rfl))) (mvT hZ (hw _ (List.mem_of_getElem? (i := 3) rfl))) (mvT hZ (hw _ (List.mem_of_getElem? (i := 4) rfl))) (by decide) (backOf (W := 0) (rm1 l Z a0 hw [] b1 (8 : Int32) q2 k1 (put8 (List.replicate 32 (.int (0 : Int32))) 0 q1) T2.heap n0 Zs2 c2_0 (by simp only [own_put8_length]; rfl) (Or.inr (Or.inl rfl)) g_b1) hZ (hw _ (List.mem_of_getElem? (i := 4) rfl)) (hw _ (List.mem_of_getElem? (i := 3) rfl)) (by decide) (by decide)) (g := (mkF m 18 #[.val (.long q1), .second, .val (.long q2), .second, .val (.long q3), .second, .val (.long q4), .second, .val (.int p5), .val (.ref b1), .unset, .unset, .unset] [(.long q2), (.int (8 : Int32)), (.ref b1)])) rfl (by rw [hml]; rfl) (argsL := [(.ref b1), (.int (8 : Int32)), (.long q2)]) (rest := []) (lenOf pd_0_0 rfl) rfl (by show 2 * 0 + _ ≤ _; exact Nat.le_of_eq rfl) (hb hby at_18) (fun _ _ => ⟨rfl, rfl, (by decide : 1 + 0 ≤ _), (by decide : 32 + 0 ≤ _)⟩)
  dsimp only [Pt.U, Pt.locs, Pt.cells, Pt.slots] at X4 l4 y4 z4 st4 hQ4
  subst l4 y4 z4
  obtain ⟨rfl, N4q, Kc4, c4_0⟩ := hQ4
  have f5 := f3.keep Kc4
  have Zs4 : n0 ≤ T4.heap.size := Nat.le_trans Zs2 Kc4.1
  have N4 := Fr.app N2 N4q
  refine go st4 ?_
  show G (T4.setTop (mkF m 21 #[.val (.long q1), .second, .val (.long q2), .second, .val (.long q3), .second, .val (.long q4), .second, .val (.int p5), .val (.ref b1), .unset, .unset, .unset] []))
  refine go (fun _ k => XS.aload X4.here hx rfl (hb hby at_21) rfl rfl k) ?_
  show G (T4.setTop (mkF m 23 #[.val (.long q1), .second, .val (.long q2), .second, .val (.long q3), .second, .val (.long q4), .second, .val (.int p5), .val (.ref b1), .unset, .unset, .unset] [(.ref b1)]))
  refine go (fun _ k => XS.bipush X4.here hx rfl (hb hby at_23) k) ?_
  show G (T4.setTop (mkF m 25 #[.val (.long q1), .second, .val (.long q2), .second, .val (.long q3), .second, .val (.long q4), .second, .val (.int p5), .val (.ref b1), .unset, .unset, .unset] [(.int (16 : Int32)), (.ref b1)]))
  refine go (fun _ k => XS.lload X4.here hx rfl (hb hby at_25) rfl k) ?_
  show G (T4.setTop (mkF m 27 #[.val (.long q1), .second, .val (.long q2), .second, .val (.long q3), .second, .val (.long q4), .second, .val (.int p5), .val (.ref b1), .unset, .unset, .unset] [(.long q3), (.int (16 : Int32)), (.ref b1)]))
  obtain ⟨_, _, ⟨T6, L6, k6, n6⟩, -, X6, ⟨Lc6, hQ6, l6, y6, z6⟩, st6⟩ := Jvm.LawKit.callS X4 hx (y := (⟨"com/example/answer_once/answeronce/model/FingerprintOfDigestPinLaw", "put", "([BIJ)V"⟩ : MethodName)) hown (mvT hZ (hw _ (List.mem_of_getElem? (i := 1) rfl))) (mvT hZ (hw _ (List.mem_of_getElem? (i := 2) rfl))) (mvT hZ (hw _ (List.mem_of_getElem? (i := 3) rfl))) (mvT hZ (hw _ (List.mem_of_getElem? (i := 4) rfl))) (by decide) (backOf (W := 0) (rm1 l Z a0 hw [] b1 (16 : Int32) q3 k1 (put8 (put8 (List.replicate 32 (.int (0 : Int32))) 0 q1) 8 q2) T4.heap n0 Zs4 c4_0 (by simp only [own_put8_length]; rfl) (Or.inr (Or.inr (Or.inl rfl))) g_b1) hZ (hw _ (List.mem_of_getElem? (i := 4) rfl)) (hw _ (List.mem_of_getElem? (i := 3) rfl)) (by decide) (by decide)) (g := (mkF m 27 #[.val (.long q1), .second, .val (.long q2), .second, .val (.long q3), .second, .val (.long q4), .second, .val (.int p5), .val (.ref b1), .unset, .unset, .unset] [(.long q3), (.int (16 : Int32)), (.ref b1)])) rfl (by rw [hml]; rfl) (argsL := [(.ref b1), (.int (16 : Int32)), (.long q3)]) (rest := []) (lenOf pd_0_0 rfl) rfl (by show 2 * 0 + _ ≤ _; exact Nat.le_of_eq rfl) (hb hby at_27) (fun _ _ => ⟨rfl, rfl, (by decide : 1 + 0 ≤ _), (by decide : 32 + 0 ≤ _)⟩)
  dsimp only [Pt.U, Pt.locs, Pt.cells, Pt.slots] at X6 l6 y6 z6 st6 hQ6
  subst l6 y6 z6
  obtain ⟨rfl, N6q, Kc6, c6_0⟩ := hQ6
  have f7 := f5.keep Kc6
  have Zs6 : n0 ≤ T6.heap.size := Nat.le_trans Zs4 Kc6.1
  have N6 := Fr.app N4 N6q
  refine go st6 ?_
  show G (T6.setTop (mkF m 30 #[.val (.long q1), .second, .val (.long q2), .second, .val (.long q3), .second, .val (.long q4), .second, .val (.int p5), .val (.ref b1), .unset, .unset, .unset] []))
  refine go (fun _ k => XS.aload X6.here hx rfl (hb hby at_30) rfl rfl k) ?_
  show G (T6.setTop (mkF m 32 #[.val (.long q1), .second, .val (.long q2), .second, .val (.long q3), .second, .val (.long q4), .second, .val (.int p5), .val (.ref b1), .unset, .unset, .unset] [(.ref b1)]))
  refine go (fun _ k => XS.bipush X6.here hx rfl (hb hby at_32) k) ?_
  show G (T6.setTop (mkF m 34 #[.val (.long q1), .second, .val (.long q2), .second, .val (.long q3), .second, .val (.long q4), .second, .val (.int p5), .val (.ref b1), .unset, .unset, .unset] [(.int (24 : Int32)), (.ref b1)]))
  refine go (fun _ k => XS.lload X6.here hx rfl (hb hby at_34) rfl k) ?_
  show G (T6.setTop (mkF m 36 #[.val (.long q1), .second, .val (.long q2), .second, .val (.long q3), .second, .val (.long q4), .second, .val (.int p5), .val (.ref b1), .unset, .unset, .unset] [(.long q4), (.int (24 : Int32)), (.ref b1)]))
  obtain ⟨_, _, ⟨T8, L8, k8, n8⟩, -, X8, ⟨Lc8, hQ8, l8, y8, z8⟩, st8⟩ := Jvm.LawKit.callS X6 hx (y := (⟨"com/example/answer_once/answeronce/model/FingerprintOfDigestPinLaw", "put", "([BIJ)V"⟩ : MethodName)) hown (mvT hZ (hw _ (List.mem_of_getElem? (i := 1) rfl))) (mvT hZ (hw _ (List.mem_of_getElem? (i := 2) rfl))) (mvT hZ (hw _ (List.mem_of_getElem? (i := 3) rfl))) (mvT hZ (hw _ (List.mem_of_getElem? (i := 4) rfl))) (by decide) (backOf (W := 0) (rm1 l Z a0 hw [] b1 (24 : Int32) q4 k1 (put8 (put8 (put8 (List.replicate 32 (.int (0 : Int32))) 0 q1) 8 q2) 16 q3) T6.heap n0 Zs6 c6_0 (by simp only [own_put8_length]; rfl) (Or.inr (Or.inr (Or.inr rfl))) g_b1) hZ (hw _ (List.mem_of_getElem? (i := 4) rfl)) (hw _ (List.mem_of_getElem? (i := 3) rfl)) (by decide) (by decide)) (g := (mkF m 36 #[.val (.long q1), .second, .val (.long q2), .second, .val (.long q3), .second, .val (.long q4), .second, .val (.int p5), .val (.ref b1), .unset, .unset, .unset] [(.long q4), (.int (24 : Int32)), (.ref b1)])) rfl (by rw [hml]; rfl) (argsL := [(.ref b1), (.int (24 : Int32)), (.long q4)]) (rest := []) (lenOf pd_0_0 rfl) rfl (by show 2 * 0 + _ ≤ _; exact Nat.le_of_eq rfl) (hb hby at_36) (fun _ _ => ⟨rfl, rfl, (by decide : 1 + 0 ≤ _), (by decide : 32 + 0 ≤ _)⟩)
  dsimp only [Pt.U, Pt.locs, Pt.cells, Pt.slots] at X8 l8 y8 z8 st8 hQ8
  subst l8 y8 z8
  obtain ⟨rfl, N8q, Kc8, c8_0⟩ := hQ8
  have f9 := f7.keep Kc8
  have Zs8 : n0 ≤ T8.heap.size := Nat.le_trans Zs6 Kc8.1
  have N8 := Fr.app N6 N8q
  refine go st8 ?_
  show G (T8.setTop (mkF m 39 #[.val (.long q1), .second, .val (.long q2), .second, .val (.long q3), .second, .val (.long q4), .second, .val (.int p5), .val (.ref b1), .unset, .unset, .unset] []))
  refine go (fun _ k => XS.aload X8.here hx rfl (hb hby at_39) rfl rfl k) ?_
  show G (T8.setTop (mkF m 41 #[.val (.long q1), .second, .val (.long q2), .second, .val (.long q3), .second, .val (.long q4), .second, .val (.int p5), .val (.ref b1), .unset, .unset, .unset] [(.ref b1)]))
  obtain ⟨_, _, ⟨T10, L10, k10, n10⟩, -, X10, ⟨Lc10, hQ10, l10, y10, z10⟩, st10⟩ := Jvm.LawKit.callS X8 hx (y := (⟨"com/example/answer_once/answeronce/model/Fingerprint", "ofDigest", "([B)Lcom/example/answer_once/answeronce/model/Fingerprint;"⟩ : MethodName)) hown (mvT hZ (hw _ (List.mem_of_getElem? (i := 5) rfl))) (mvT hZ (hw _ (List.mem_of_getElem? (i := 6) rfl))) (mvT hZ (hw _ (List.mem_of_getElem? (i := 7) rfl))) (mvT hZ (hw _ (List.mem_of_getElem? (i := 8) rfl))) (by decide) (backOf (W := 0) (rm2 l Z a0 hw [] b1 k1 (put8 (put8 (put8 (put8 (List.replicate 32 (.int (0 : Int32))) 0 q1) 8 q2) 16 q3) 24 q4) T8.heap n0 Zs8 c8_0 f9) hZ (hw _ (List.mem_of_getElem? (i := 8) rfl)) (hw _ (List.mem_of_getElem? (i := 7) rfl)) (by decide) (by decide)) (g := (mkF m 41 #[.val (.long q1), .second, .val (.long q2), .second, .val (.long q3), .second, .val (.long q4), .second, .val (.int p5), .val (.ref b1), .unset, .unset, .unset] [(.ref b1)])) rfl (by rw [hml]; rfl) (argsL := [(.ref b1)]) (rest := []) (lenOf pd_0_1 rfl) rfl (by show 2 * 0 + _ ≤ _; exact Nat.le_of_eq rfl) (hb hby at_41) (fun _ _ => ⟨rfl, rfl, (by decide : 1 + 2 ≤ _), (by decide : 32 + 33 ≤ _)⟩)
  dsimp only [Pt.U, Pt.locs, Pt.cells, Pt.slots] at X10 l10 y10 z10 st10 hQ10
  subst l10 y10 z10
  obtain ⟨r10, bb10, rfl, N10q, Kc10, c10_0, c10_1, c10_2, c10_3, c10_4, c10_5, c10_6⟩ := hQ10
  have ne_b1_r10 : b1 ≠ r10 := Nat.ne_of_lt (Nat.lt_of_lt_of_le f9.lt c10_0)
  have g_r10 : n0 ≤ r10 := Nat.le_trans Zs8 c10_0
  have ne_b1_bb10 : b1 ≠ bb10 := Nat.ne_of_lt (Nat.lt_of_lt_of_le f9.lt c10_1)
  have g_bb10 : n0 ≤ bb10 := Nat.le_trans Zs8 c10_1
  have f11 := f9.keep Kc10
  have f12 := c8_0.keep Kc10 nin0
  have Zs10 : n0 ≤ T10.heap.size := Nat.le_trans Zs8 Kc10.1
  have N10 := Fr.app N8 N10q
  refine go st10 ?_
  show G (T10.setTop (mkF m 44 #[.val (.long q1), .second, .val (.long q2), .second, .val (.long q3), .second, .val (.long q4), .second, .val (.int p5), .val (.ref b1), .unset, .unset, .unset] [(.ref r10)]))
  refine go (fun _ k => XS.astore X10.here hx rfl (hb hby at_44) rfl rfl (l' := #[.val (.long q1), .second, .val (.long q2), .second, .val (.long q3), .second, .val (.long q4), .second, .val (.int p5), .val (.ref b1), .val (.ref r10), .unset, .unset]) rfl k) ?_
  show G (T10.setTop (mkF m 46 #[.val (.long q1), .second, .val (.long q2), .second, .val (.long q3), .second, .val (.long q4), .second, .val (.int p5), .val (.ref b1), .val (.ref r10), .unset, .unset] []))
  refine go (fun _ k => XS.iload X10.here hx rfl (hb hby at_46) rfl k) ?_
  show G (T10.setTop (mkF m 48 #[.val (.long q1), .second, .val (.long q2), .second, .val (.long q3), .second, .val (.long q4), .second, .val (.int p5), .val (.ref b1), .val (.ref r10), .unset, .unset] [(.int p5)]))
  refine go (fun _ k => XS.bipush X10.here hx rfl (hb hby at_48) k) ?_
  show G (T10.setTop (mkF m 50 #[.val (.long q1), .second, .val (.long q2), .second, .val (.long q3), .second, .val (.long q4), .second, .val (.int p5), .val (.ref b1), .val (.ref r10), .unset, .unset] [(.int (31 : Int32)), (.int p5)]))
  refine go (fun _ k => XS.iand X10.here hx rfl (hb hby at_50) rfl k) ?_
  show G (T10.setTop (mkF m 51 #[.val (.long q1), .second, .val (.long q2), .second, .val (.long q3), .second, .val (.long q4), .second, .val (.int p5), .val (.ref b1), .val (.ref r10), .unset, .unset] [(.int (p5 &&& (31 : Int32)))]))
  refine go (fun _ k => XS.istore X10.here hx rfl (hb hby at_51) rfl (l' := #[.val (.long q1), .second, .val (.long q2), .second, .val (.long q3), .second, .val (.long q4), .second, .val (.int p5), .val (.ref b1), .val (.ref r10), .val (.int (p5 &&& (31 : Int32))), .unset]) rfl k) ?_
  show G (T10.setTop (mkF m 53 #[.val (.long q1), .second, .val (.long q2), .second, .val (.long q3), .second, .val (.long q4), .second, .val (.int p5), .val (.ref b1), .val (.ref r10), .val (.int (p5 &&& (31 : Int32))), .unset] []))
  refine go (fun _ k => XS.aload X10.here hx rfl (hb hby at_53) rfl rfl k) ?_
  show G (T10.setTop (mkF m 55 #[.val (.long q1), .second, .val (.long q2), .second, .val (.long q3), .second, .val (.long q4), .second, .val (.int p5), .val (.ref b1), .val (.ref r10), .val (.int (p5 &&& (31 : Int32))), .unset] [(.ref b1)]))
  refine go (fun _ k => XS.iload X10.here hx rfl (hb hby at_55) rfl k) ?_
  show G (T10.setTop (mkF m 57 #[.val (.long q1), .second, .val (.long q2), .second, .val (.long q3), .second, .val (.long q4), .second, .val (.int p5), .val (.ref b1), .val (.ref r10), .val (.int (p5 &&& (31 : Int32))), .unset] [(.int (p5 &&& (31 : Int32))), (.ref b1)]))
  refine go (fun _ k => XS.aload X10.here hx rfl (hb hby at_57) rfl rfl k) ?_
  show G (T10.setTop (mkF m 59 #[.val (.long q1), .second, .val (.long q2), .second, .val (.long q3), .second, .val (.long q4), .second, .val (.int p5), .val (.ref b1), .val (.ref r10), .val (.int (p5 &&& (31 : Int32))), .unset] [(.ref b1), (.int (p5 &&& (31 : Int32))), (.ref b1)]))
  refine go (fun _ k => XS.iload X10.here hx rfl (hb hby at_59) rfl k) ?_
  show G (T10.setTop (mkF m 61 #[.val (.long q1), .second, .val (.long q2), .second, .val (.long q3), .second, .val (.long q4), .second, .val (.int p5), .val (.ref b1), .val (.ref r10), .val (.int (p5 &&& (31 : Int32))), .unset] [(.int (p5 &&& (31 : Int32))), (.ref b1), (.int (p5 &&& (31 : Int32))), (.ref b1)]))
  obtain ⟨cl13, Ar13, qk13, qs13, qn13, qh13, qg13⟩ := id f12
  obtain ⟨wv, ew⟩ := own_fitB (qg13 (p5 &&& (31 : Int32)).toNatClampNeg (by rw [qs13]; exact own_len32 (own_and31 p5)))
  refine go (X10.baloadBytes hx (j := (p5 &&& (31 : Int32))) (v := (.int wv)) Ar13.1 (State.isArrayOf_alike hZ.alike Ar13.2.1) Ar13.2.2 (inb_of qs13 (own_and31 p5)) (Has.at qh13 (inb_of qs13 (own_and31 p5)) ew) (g := (mkF m 61 #[.val (.long q1), .second, .val (.long q2), .second, .val (.long q3), .second, .val (.long q4), .second, .val (.int p5), .val (.ref b1), .val (.ref r10), .val (.int (p5 &&& (31 : Int32))), .unset] [(.int (p5 &&& (31 : Int32))), (.ref b1), (.int (p5 &&& (31 : Int32))), (.ref b1)])) rfl rfl (hb hby at_61)) ?_
  show G (T10.setTop (mkF m 62 #[.val (.long q1), .second, .val (.long q2), .second, .val (.long q3), .second, .val (.long q4), .second, .val (.int p5), .val (.ref b1), .val (.ref r10), .val (.int (p5 &&& (31 : Int32))), .unset] [(.int wv), (.int (p5 &&& (31 : Int32))), (.ref b1)]))
  refine go (fun _ k => XS.iconst X10.here hx rfl (hb hby at_62) k) ?_
  show G (T10.setTop (mkF m 63 #[.val (.long q1), .second, .val (.long q2), .second, .val (.long q3), .second, .val (.long q4), .second, .val (.int p5), .val (.ref b1), .val (.ref r10), .val (.int (p5 &&& (31 : Int32))), .unset] [(.int (-1 : Int32)), (.int wv), (.int (p5 &&& (31 : Int32))), (.ref b1)]))
  refine go (fun _ k => XS.ixor X10.here hx rfl (hb hby at_63) rfl k) ?_
  show G (T10.setTop (mkF m 64 #[.val (.long q1), .second, .val (.long q2), .second, .val (.long q3), .second, .val (.long q4), .second, .val (.int p5), .val (.ref b1), .val (.ref r10), .val (.int (p5 &&& (31 : Int32))), .unset] [(.int (wv ^^^ (-1 : Int32))), (.int (p5 &&& (31 : Int32))), (.ref b1)]))
  refine go (fun _ k => XS.i2b X10.here hx rfl (hb hby at_64) rfl k) ?_
  show G (T10.setTop (mkF m 65 #[.val (.long q1), .second, .val (.long q2), .second, .val (.long q3), .second, .val (.long q4), .second, .val (.int p5), .val (.ref b1), .val (.ref r10), .val (.int (p5 &&& (31 : Int32))), .unset] [(.int ((wv ^^^ (-1 : Int32)).toInt8.toInt32)), (.int (p5 &&& (31 : Int32))), (.ref b1)]))
  obtain ⟨cl14, Ar14, qk14, qs14, qn14, qh14, qg14⟩ := id f12
  obtain ⟨T14, h14, X14, e14, W14, st14⟩ := stB X10 hx hZ rfl Ar14 (j := (p5 &&& (31 : Int32))) (inb_of qs14 (own_and31 p5)) (g := (mkF m 65 #[.val (.long q1), .second, .val (.long q2), .second, .val (.long q3), .second, .val (.long q4), .second, .val (.int p5), .val (.ref b1), .val (.ref r10), .val (.int (p5 &&& (31 : Int32))), .unset] [(.int ((wv ^^^ (-1 : Int32)).toInt8.toInt32)), (.int (p5 &&& (31 : Int32))), (.ref b1)])) rfl rfl (hb hby at_65)
  have V14 : Arv Z h14 b1 k1 .byte (32 : Int32) ((put8 (put8 (put8 (put8 (List.replicate 32 (.int (0 : Int32))) 0 q1) 8 q2) 16 q3) 24 q4).set ((p5 &&& (31 : Int32)).toNatClampNeg) (.int (nar .byte ((wv ^^^ (-1 : Int32)).toInt8.toInt32)))) (.int (0 : Int32)) := Arv.set Ar14 qk14 qs14 qn14 qh14 qg14 (fits_nar_byte _) W14 ((p5 &&& (31 : Int32)).toNatClampNeg) rfl (by simp only [own_put8_length, List.length_replicate]; exact own_len32 (own_and31 p5))
  have f15 := f11.wr W14
  have f16 := c10_3.wr W14
  have f17 := c10_4.other W14 (Or.inl (Ne.symm ne_b1_r10))
  have f18 := c10_5.other W14 (Ne.symm ne_b1_bb10)
  have f19 := c10_6.wr W14
  have Zs14 : n0 ≤ h14.size := Nat.le_trans Zs10 (Keep.of_wr W14).1
  have N14 := Fr.snoc X14 N10 g_b1
  refine go st14 ?_
  show G (T14.setTop (mkF m 66 #[.val (.long q1), .second, .val (.long q2), .second, .val (.long q3), .second, .val (.long q4), .second, .val (.int p5), .val (.ref b1), .val (.ref r10), .val (.int (p5 &&& (31 : Int32))), .unset] []))
  refine go (fun _ k => XS.aload X14.here hx rfl (hb hby at_66) rfl rfl k) ?_
  show G (T14.setTop (mkF m 68 #[.val (.long q1), .second, .val (.long q2), .second, .val (.long q3), .second, .val (.long q4), .second, .val (.int p5), .val (.ref b1), .val (.ref r10), .val (.int (p5 &&& (31 : Int32))), .unset] [(.ref r10)]))
  obtain ⟨cq20, kq20, qa20, qb20, qc20⟩ := isOf hZ e14 f16
  obtain ⟨_, _, ⟨T20, L20, k20, n20⟩, -, X20, ⟨Lc20, hQ20, l20, y20, z20⟩, st20⟩ := X14.virtualBack hx (y := (⟨"com/example/answer_once/answeronce/model/Fingerprint", "getDigest", "()[B"⟩ : MethodName)) (z := (⟨"com/example/answer_once/answeronce/model/Fingerprint", "getDigest", "()[B"⟩ : MethodName)) hown (mvT hZ (hw _ (List.mem_of_getElem? (i := 28) rfl))) (mvT hZ (hw _ (List.mem_of_getElem? (i := 29) rfl))) (notFace_of_selects (args := #[]) (mvT hZ (hw _ (List.mem_of_getElem? (i := 31) rfl)))) (mvT hZ (hw _ (List.mem_of_getElem? (i := 31) rfl))) (mvT hZ (hw _ (List.mem_of_getElem? (i := 30) rfl))) (by decide) (backOf (W := 0) (rm5 l Z a0 hw [] r10 bb10 k1 (put8 (put8 (put8 (put8 (List.replicate 32 (.int (0 : Int32))) 0 q1) 8 q2) 16 q3) 24 q4) h14 n0 Zs14 f17 f18 f19) hZ (hw _ (List.mem_of_getElem? (i := 32) rfl)) (hw _ (List.mem_of_getElem? (i := 7) rfl)) (by decide) (by decide)) qa20 qc20 (g := (mkF m 68 #[.val (.long q1), .second, .val (.long q2), .second, .val (.long q3), .second, .val (.long q4), .second, .val (.int p5), .val (.ref b1), .val (.ref r10), .val (.int (p5 &&& (31 : Int32))), .unset] [(.ref r10)])) rfl (by rw [hml]; rfl) (Steps.refl _) (argsL := []) (rest := []) (lenOf pd_0_2 rfl) rfl (by show 2 * 0 + _ ≤ _; exact Nat.le_of_eq rfl) (hb hby at_68) (fun _ _ => ⟨rfl, e14, (by decide : 3 + 1 ≤ _), (by decide : 65 + 32 ≤ _)⟩)
  dsimp only [Pt.U, Pt.locs, Pt.cells, Pt.slots] at X20 l20 y20 z20 st20 hQ20
  subst l20 y20 z20
  obtain ⟨cc20, rfl, N20q, Kc20, c20_0, c20_1⟩ := hQ20
  have ne_b1_cc20 : b1 ≠ cc20 := Nat.ne_of_lt (Nat.lt_of_lt_of_le f15.lt c20_0)
  have ne_r10_cc20 : r10 ≠ cc20 := Nat.ne_of_lt (Nat.lt_of_lt_of_le f16.lt c20_0)
  have ne_bb10_cc20 : bb10 ≠ cc20 := Nat.ne_of_lt (Nat.lt_of_lt_of_le f18.lt c20_0)
  have g_cc20 : n0 ≤ cc20 := Nat.le_trans Zs14 c20_0
  have f21 := f15.keep Kc20
  have f22 := V14.keep Kc20 nin0
  have f23 := f16.keep Kc20
  have f24 := f17.keep Kc20 nin0
  have f25 := f18.keep Kc20 nin0
  have f26 := f19.keep Kc20
  have Zs20 : n0 ≤ T20.heap.size := Nat.le_trans Zs14 Kc20.1
  have N20 := Fr.app N14 N20q
  refine go (fun _ k => st20.trans k) ?_
  show G (T20.setTop (mkF m 71 #[.val (.long q1), .second, .val (.long q2), .second, .val (.long q3), .second, .val (.long q4), .second, .val (.int p5), .val (.ref b1), .val (.ref r10), .val (.int (p5 &&& (31 : Int32))), .unset] [(.ref cc20)]))
  refine go (fun _ k => XS.astore X20.here hx rfl (hb hby at_71) rfl rfl (l' := #[.val (.long q1), .second, .val (.long q2), .second, .val (.long q3), .second, .val (.long q4), .second, .val (.int p5), .val (.ref b1), .val (.ref r10), .val (.int (p5 &&& (31 : Int32))), .val (.ref cc20)]) rfl k) ?_
  show G (T20.setTop (mkF m 73 #[.val (.long q1), .second, .val (.long q2), .second, .val (.long q3), .second, .val (.long q4), .second, .val (.int p5), .val (.ref b1), .val (.ref r10), .val (.int (p5 &&& (31 : Int32))), .val (.ref cc20)] []))
  refine go (fun _ k => XS.aload X20.here hx rfl (hb hby at_73) rfl rfl k) ?_
  show G (T20.setTop (mkF m 75 #[.val (.long q1), .second, .val (.long q2), .second, .val (.long q3), .second, .val (.long q4), .second, .val (.int p5), .val (.ref b1), .val (.ref r10), .val (.int (p5 &&& (31 : Int32))), .val (.ref cc20)] [(.ref cc20)]))
  obtain ⟨cl27, Ar27, qk27, qs27, qn27, qh27, qg27⟩ := id c20_1
  refine go (X20.arraylength hx Ar27.1 (State.isArrayOf_alike hZ.alike Ar27.2.1) (g := (mkF m 75 #[.val (.long q1), .second, .val (.long q2), .second, .val (.long q3), .second, .val (.long q4), .second, .val (.int p5), .val (.ref b1), .val (.ref r10), .val (.int (p5 &&& (31 : Int32))), .val (.ref cc20)] [(.ref cc20)])) rfl rfl (hb hby at_75)) ?_
  rw [len_of qs27 qn27]
  show G (T20.setTop (mkF m 76 #[.val (.long q1), .second, .val (.long q2), .second, .val (.long q3), .second, .val (.long q4), .second, .val (.int p5), .val (.ref b1), .val (.ref r10), .val (.int (p5 &&& (31 : Int32))), .val (.ref cc20)] [(.int (32 : Int32))]))
  refine go (fun _ k => XS.bipush X20.here hx rfl (hb hby at_76) k) ?_
  show G (T20.setTop (mkF m 78 #[.val (.long q1), .second, .val (.long q2), .second, .val (.long q3), .second, .val (.long q4), .second, .val (.int p5), .val (.ref b1), .val (.ref r10), .val (.int (p5 &&& (31 : Int32))), .val (.ref cc20)] [(.int (32 : Int32)), (.int (32 : Int32))]))
  have hc28 : (32 : Int32) = (32 : Int32) := rfl
  refine go (fun _ k => XS.icmpYes X20.here hx rfl (pc0 := 78) (pc' := 83) rfl (hb hby at_78) rfl (teq hc28).1 (by decide) (by decide) k) ?_
  show G (T20.setTop (mkF m 83 #[.val (.long q1), .second, .val (.long q2), .second, .val (.long q3), .second, .val (.long q4), .second, .val (.int p5), .val (.ref b1), .val (.ref r10), .val (.int (p5 &&& (31 : Int32))), .val (.ref cc20)] []))
  refine go (fun _ k => XS.aload X20.here hx rfl (hb hby at_83) rfl rfl k) ?_
  show G (T20.setTop (mkF m 85 #[.val (.long q1), .second, .val (.long q2), .second, .val (.long q3), .second, .val (.long q4), .second, .val (.int p5), .val (.ref b1), .val (.ref r10), .val (.int (p5 &&& (31 : Int32))), .val (.ref cc20)] [(.ref cc20)]))
  refine go (fun _ k => XS.iconst X20.here hx rfl (hb hby at_85) k) ?_
  show G (T20.setTop (mkF m 86 #[.val (.long q1), .second, .val (.long q2), .second, .val (.long q3), .second, .val (.long q4), .second, .val (.int p5), .val (.ref b1), .val (.ref r10), .val (.int (p5 &&& (31 : Int32))), .val (.ref cc20)] [(.int (0 : Int32)), (.ref cc20)]))
  refine go (fun _ k => XS.lloadN X20.here hx rfl (hb hby at_86) rfl k) ?_
  show G (T20.setTop (mkF m 87 #[.val (.long q1), .second, .val (.long q2), .second, .val (.long q3), .second, .val (.long q4), .second, .val (.int p5), .val (.ref b1), .val (.ref r10), .val (.int (p5 &&& (31 : Int32))), .val (.ref cc20)] [(.long q1), (.int (0 : Int32)), (.ref cc20)]))
  obtain ⟨_, _, ⟨T29, L29, k29, n29⟩, -, X29, ⟨Lc29, hQ29, l29, y29, z29⟩, st29⟩ := Jvm.LawKit.callS X20 hx (y := (⟨"com/example/answer_once/answeronce/model/FingerprintOfDigestPinLaw", "same", "([BIJ)Z"⟩ : MethodName)) hown (mvT hZ (hw _ (List.mem_of_getElem? (i := 33) rfl))) (mvT hZ (hw _ (List.mem_of_getElem? (i := 34) rfl))) (mvT hZ (hw _ (List.mem_of_getElem? (i := 3) rfl))) (mvT hZ (hw _ (List.mem_of_getElem? (i := 35) rfl))) (by decide) (backOf (W := 0) (rm6 l Z a0 hw [] cc20 (0 : Int32) q1 k1 (put8 (put8 (put8 (put8 (List.replicate 32 (.int (0 : Int32))) 0 q1) 8 q2) 16 q3) 24 q4) T20.heap n0 Zs20 c20_1 (Or.inl rfl) (own_says_other _ 0 24 _ _ (own_says_other _ 0 16 _ _ (own_says_other _ 0 8 _ _ (own_says _ 0 _ (by decide)) (Or.inl (by decide))) (Or.inl (by decide))) (Or.inl (by decide)))) hZ (hw _ (List.mem_of_getElem? (i := 35) rfl)) (hw _ (List.mem_of_getElem? (i := 3) rfl)) (by decide) (by decide)) (g := (mkF m 87 #[.val (.long q1), .second, .val (.long q2), .second, .val (.long q3), .second, .val (.long q4), .second, .val (.int p5), .val (.ref b1), .val (.ref r10), .val (.int (p5 &&& (31 : Int32))), .val (.ref cc20)] [(.long q1), (.int (0 : Int32)), (.ref cc20)])) rfl (by rw [hml]; rfl) (argsL := [(.ref cc20), (.int (0 : Int32)), (.long q1)]) (rest := []) (lenOf pd_0_3 rfl) rfl (by show 2 * 0 + _ ≤ _; exact Nat.le_of_eq rfl) (hb hby at_87) (fun _ _ => ⟨rfl, rfl, (by decide : 4 + 0 ≤ _), (by decide : 97 + 0 ≤ _)⟩)
  dsimp only [Pt.U, Pt.locs, Pt.cells, Pt.slots] at X29 l29 y29 z29 st29 hQ29
  subst l29 y29 z29
  obtain ⟨rfl, N29q, e29⟩ := hQ29
  have N29 := Fr.app N20 N29q
  refine go st29 ?_
  show G (T29.setTop (mkF m 90 #[.val (.long q1), .second, .val (.long q2), .second, .val (.long q3), .second, .val (.long q4), .second, .val (.int p5), .val (.ref b1), .val (.ref r10), .val (.int (p5 &&& (31 : Int32))), .val (.ref cc20)] [(.int (1 : Int32))]))
  have hc30 : ¬ ((1 : Int32) = (0 : Int32)) := (by decide)
  refine go (fun _ k => XS.ifNo X29.here hx rfl (hb hby at_90) rfl ((if0 _ _).trans (feq hc30).1) k) ?_
  show G (T29.setTop (mkF m 93 #[.val (.long q1), .second, .val (.long q2), .second, .val (.long q3), .second, .val (.long q4), .second, .val (.int p5), .val (.ref b1), .val (.ref r10), .val (.int (p5 &&& (31 : Int32))), .val (.ref cc20)] []))
  refine go (fun _ k => XS.aload X29.here hx rfl (hb hby at_93) rfl rfl k) ?_
  show G (T29.setTop (mkF m 95 #[.val (.long q1), .second, .val (.long q2), .second, .val (.long q3), .second, .val (.long q4), .second, .val (.int p5), .val (.ref b1), .val (.ref r10), .val (.int (p5 &&& (31 : Int32))), .val (.ref cc20)] [(.ref cc20)]))
  refine go (fun _ k => XS.bipush X29.here hx rfl (hb hby at_95) k) ?_
  show G (T29.setTop (mkF m 97 #[.val (.long q1), .second, .val (.long q2), .second, .val (.long q3), .second, .val (.long q4), .second, .val (.int p5), .val (.ref b1), .val (.ref r10), .val (.int (p5 &&& (31 : Int32))), .val (.ref cc20)] [(.int (8 : Int32)), (.ref cc20)]))
  refine go (fun _ k => XS.lloadN X29.here hx rfl (hb hby at_97) rfl k) ?_
  show G (T29.setTop (mkF m 98 #[.val (.long q1), .second, .val (.long q2), .second, .val (.long q3), .second, .val (.long q4), .second, .val (.int p5), .val (.ref b1), .val (.ref r10), .val (.int (p5 &&& (31 : Int32))), .val (.ref cc20)] [(.long q2), (.int (8 : Int32)), (.ref cc20)]))
  obtain ⟨_, _, ⟨T31, L31, k31, n31⟩, -, X31, ⟨Lc31, hQ31, l31, y31, z31⟩, st31⟩ := Jvm.LawKit.callS X29 hx (y := (⟨"com/example/answer_once/answeronce/model/FingerprintOfDigestPinLaw", "same", "([BIJ)Z"⟩ : MethodName)) hown (mvT hZ (hw _ (List.mem_of_getElem? (i := 33) rfl))) (mvT hZ (hw _ (List.mem_of_getElem? (i := 34) rfl))) (mvT hZ (hw _ (List.mem_of_getElem? (i := 3) rfl))) (mvT hZ (hw _ (List.mem_of_getElem? (i := 35) rfl))) (by decide) (backOf (W := 0) (rm6 l Z a0 hw [] cc20 (8 : Int32) q2 k1 (put8 (put8 (put8 (put8 (List.replicate 32 (.int (0 : Int32))) 0 q1) 8 q2) 16 q3) 24 q4) T20.heap n0 Zs20 c20_1 (Or.inr (Or.inl rfl)) (own_says_other _ 8 24 _ _ (own_says_other _ 8 16 _ _ (own_says _ 8 _ (by simp only [own_put8_length]; decide)) (Or.inl (by decide))) (Or.inl (by decide)))) hZ (hw _ (List.mem_of_getElem? (i := 35) rfl)) (hw _ (List.mem_of_getElem? (i := 3) rfl)) (by decide) (by decide)) (g := (mkF m 98 #[.val (.long q1), .second, .val (.long q2), .second, .val (.long q3), .second, .val (.long q4), .second, .val (.int p5), .val (.ref b1), .val (.ref r10), .val (.int (p5 &&& (31 : Int32))), .val (.ref cc20)] [(.long q2), (.int (8 : Int32)), (.ref cc20)])) rfl (by rw [hml]; rfl) (argsL := [(.ref cc20), (.int (8 : Int32)), (.long q2)]) (rest := []) (lenOf pd_0_3 rfl) rfl (by show 2 * 0 + _ ≤ _; exact Nat.le_of_eq rfl) (hb hby at_98) (fun _ _ => ⟨rfl, e29, (by decide : 4 + 0 ≤ _), (by decide : 97 + 0 ≤ _)⟩)
  dsimp only [Pt.U, Pt.locs, Pt.cells, Pt.slots] at X31 l31 y31 z31 st31 hQ31
  subst l31 y31 z31
  obtain ⟨rfl, N31q, e31⟩ := hQ31
  have N31 := Fr.app N29 N31q
  refine go st31 ?_
  show G (T31.setTop (mkF m 101 #[.val (.long q1), .second, .val (.long q2), .second, .val (.long q3), .second, .val (.long q4), .second, .val (.int p5), .val (.ref b1), .val (.ref r10), .val (.int (p5 &&& (31 : Int32))), .val (.ref cc20)] [(.int (1 : Int32))]))
  have hc32 : ¬ ((1 : Int32) = (0 : Int32)) := (by decide)
  refine go (fun _ k => XS.ifNo X31.here hx rfl (hb hby at_101) rfl ((if0 _ _).trans (feq hc32).1) k) ?_
  show G (T31.setTop (mkF m 104 #[.val (.long q1), .second, .val (.long q2), .second, .val (.long q3), .second, .val (.long q4), .second, .val (.int p5), .val (.ref b1), .val (.ref r10), .val (.int (p5 &&& (31 : Int32))), .val (.ref cc20)] []))
  refine go (fun _ k => XS.aload X31.here hx rfl (hb hby at_104) rfl rfl k) ?_
  show G (T31.setTop (mkF m 106 #[.val (.long q1), .second, .val (.long q2), .second, .val (.long q3), .second, .val (.long q4), .second, .val (.int p5), .val (.ref b1), .val (.ref r10), .val (.int (p5 &&& (31 : Int32))), .val (.ref cc20)] [(.ref cc20)]))
  refine go (fun _ k => XS.bipush X31.here hx rfl (hb hby at_106) k) ?_
  show G (T31.setTop (mkF m 108 #[.val (.long q1), .second, .val (.long q2), .second, .val (.long q3), .second, .val (.long q4), .second, .val (.int p5), .val (.ref b1), .val (.ref r10), .val (.int (p5 &&& (31 : Int32))), .val (.ref cc20)] [(.int (16 : Int32)), (.ref cc20)]))
  refine go (fun _ k => XS.lload X31.here hx rfl (hb hby at_108) rfl k) ?_
  show G (T31.setTop (mkF m 110 #[.val (.long q1), .second, .val (.long q2), .second, .val (.long q3), .second, .val (.long q4), .second, .val (.int p5), .val (.ref b1), .val (.ref r10), .val (.int (p5 &&& (31 : Int32))), .val (.ref cc20)] [(.long q3), (.int (16 : Int32)), (.ref cc20)]))
  obtain ⟨_, _, ⟨T33, L33, k33, n33⟩, -, X33, ⟨Lc33, hQ33, l33, y33, z33⟩, st33⟩ := Jvm.LawKit.callS X31 hx (y := (⟨"com/example/answer_once/answeronce/model/FingerprintOfDigestPinLaw", "same", "([BIJ)Z"⟩ : MethodName)) hown (mvT hZ (hw _ (List.mem_of_getElem? (i := 33) rfl))) (mvT hZ (hw _ (List.mem_of_getElem? (i := 34) rfl))) (mvT hZ (hw _ (List.mem_of_getElem? (i := 3) rfl))) (mvT hZ (hw _ (List.mem_of_getElem? (i := 35) rfl))) (by decide) (backOf (W := 0) (rm6 l Z a0 hw [] cc20 (16 : Int32) q3 k1 (put8 (put8 (put8 (put8 (List.replicate 32 (.int (0 : Int32))) 0 q1) 8 q2) 16 q3) 24 q4) T20.heap n0 Zs20 c20_1 (Or.inr (Or.inr (Or.inl rfl))) (own_says_other _ 16 24 _ _ (own_says _ 16 _ (by simp only [own_put8_length]; decide)) (Or.inl (by decide)))) hZ (hw _ (List.mem_of_getElem? (i := 35) rfl)) (hw _ (List.mem_of_getElem? (i := 3) rfl)) (by decide) (by decide)) (g := (mkF m 110 #[.val (.long q1), .second, .val (.long q2), .second, .val (.long q3), .second, .val (.long q4), .second, .val (.int p5), .val (.ref b1), .val (.ref r10), .val (.int (p5 &&& (31 : Int32))), .val (.ref cc20)] [(.long q3), (.int (16 : Int32)), (.ref cc20)])) rfl (by rw [hml]; rfl) (argsL := [(.ref cc20), (.int (16 : Int32)), (.long q3)]) (rest := []) (lenOf pd_0_3 rfl) rfl (by show 2 * 0 + _ ≤ _; exact Nat.le_of_eq rfl) (hb hby at_110) (fun _ _ => ⟨rfl, e31, (by decide : 4 + 0 ≤ _), (by decide : 97 + 0 ≤ _)⟩)
  dsimp only [Pt.U, Pt.locs, Pt.cells, Pt.slots] at X33 l33 y33 z33 st33 hQ33
  subst l33 y33 z33
  obtain ⟨rfl, N33q, e33⟩ := hQ33
  have N33 := Fr.app N31 N33q
  refine go st33 ?_
  show G (T33.setTop (mkF m 113 #[.val (.long q1), .second, .val (.long q2), .second, .val (.long q3), .second, .val (.long q4), .second, .val (.int p5), .val (.ref b1), .val (.ref r10), .val (.int (p5 &&& (31 : Int32))), .val (.ref cc20)] [(.int (1 : Int32))]))
  have hc34 : ¬ ((1 : Int32) = (0 : Int32)) := (by decide)
  refine go (fun _ k => XS.ifNo X33.here hx rfl (hb hby at_113) rfl ((if0 _ _).trans (feq hc34).1) k) ?_
  show G (T33.setTop (mkF m 116 #[.val (.long q1), .second, .val (.long q2), .second, .val (.long q3), .second, .val (.long q4), .second, .val (.int p5), .val (.ref b1), .val (.ref r10), .val (.int (p5 &&& (31 : Int32))), .val (.ref cc20)] []))
  refine go (fun _ k => XS.aload X33.here hx rfl (hb hby at_116) rfl rfl k) ?_
  show G (T33.setTop (mkF m 118 #[.val (.long q1), .second, .val (.long q2), .second, .val (.long q3), .second, .val (.long q4), .second, .val (.int p5), .val (.ref b1), .val (.ref r10), .val (.int (p5 &&& (31 : Int32))), .val (.ref cc20)] [(.ref cc20)]))
  refine go (fun _ k => XS.bipush X33.here hx rfl (hb hby at_118) k) ?_
  show G (T33.setTop (mkF m 120 #[.val (.long q1), .second, .val (.long q2), .second, .val (.long q3), .second, .val (.long q4), .second, .val (.int p5), .val (.ref b1), .val (.ref r10), .val (.int (p5 &&& (31 : Int32))), .val (.ref cc20)] [(.int (24 : Int32)), (.ref cc20)]))
  refine go (fun _ k => XS.lload X33.here hx rfl (hb hby at_120) rfl k) ?_
  show G (T33.setTop (mkF m 122 #[.val (.long q1), .second, .val (.long q2), .second, .val (.long q3), .second, .val (.long q4), .second, .val (.int p5), .val (.ref b1), .val (.ref r10), .val (.int (p5 &&& (31 : Int32))), .val (.ref cc20)] [(.long q4), (.int (24 : Int32)), (.ref cc20)]))
  obtain ⟨_, _, ⟨T35, L35, k35, n35⟩, -, X35, ⟨Lc35, hQ35, l35, y35, z35⟩, st35⟩ := Jvm.LawKit.callS X33 hx (y := (⟨"com/example/answer_once/answeronce/model/FingerprintOfDigestPinLaw", "same", "([BIJ)Z"⟩ : MethodName)) hown (mvT hZ (hw _ (List.mem_of_getElem? (i := 33) rfl))) (mvT hZ (hw _ (List.mem_of_getElem? (i := 34) rfl))) (mvT hZ (hw _ (List.mem_of_getElem? (i := 3) rfl))) (mvT hZ (hw _ (List.mem_of_getElem? (i := 35) rfl))) (by decide) (backOf (W := 0) (rm6 l Z a0 hw [] cc20 (24 : Int32) q4 k1 (put8 (put8 (put8 (put8 (List.replicate 32 (.int (0 : Int32))) 0 q1) 8 q2) 16 q3) 24 q4) T20.heap n0 Zs20 c20_1 (Or.inr (Or.inr (Or.inr rfl))) (own_says _ 24 _ (by simp only [own_put8_length]; decide))) hZ (hw _ (List.mem_of_getElem? (i := 35) rfl)) (hw _ (List.mem_of_getElem? (i := 3) rfl)) (by decide) (by decide)) (g := (mkF m 122 #[.val (.long q1), .second, .val (.long q2), .second, .val (.long q3), .second, .val (.long q4), .second, .val (.int p5), .val (.ref b1), .val (.ref r10), .val (.int (p5 &&& (31 : Int32))), .val (.ref cc20)] [(.long q4), (.int (24 : Int32)), (.ref cc20)])) rfl (by rw [hml]; rfl) (argsL := [(.ref cc20), (.int (24 : Int32)), (.long q4)]) (rest := []) (lenOf pd_0_3 rfl) rfl (by show 2 * 0 + _ ≤ _; exact Nat.le_of_eq rfl) (hb hby at_122) (fun _ _ => ⟨rfl, e33, (by decide : 4 + 0 ≤ _), (by decide : 97 + 0 ≤ _)⟩)
  dsimp only [Pt.U, Pt.locs, Pt.cells, Pt.slots] at X35 l35 y35 z35 st35 hQ35
  subst l35 y35 z35
  obtain ⟨rfl, N35q, e35⟩ := hQ35
  have N35 := Fr.app N33 N35q
  refine go st35 ?_
  show G (T35.setTop (mkF m 125 #[.val (.long q1), .second, .val (.long q2), .second, .val (.long q3), .second, .val (.long q4), .second, .val (.int p5), .val (.ref b1), .val (.ref r10), .val (.int (p5 &&& (31 : Int32))), .val (.ref cc20)] [(.int (1 : Int32))]))
  have hc36 : ¬ ((1 : Int32) = (0 : Int32)) := (by decide)
  refine go (fun _ k => XS.ifNo X35.here hx rfl (hb hby at_125) rfl ((if0 _ _).trans (feq hc36).1) k) ?_
  show G (T35.setTop (mkF m 128 #[.val (.long q1), .second, .val (.long q2), .second, .val (.long q3), .second, .val (.long q4), .second, .val (.int p5), .val (.ref b1), .val (.ref r10), .val (.int (p5 &&& (31 : Int32))), .val (.ref cc20)] []))
  refine go (fun _ k => XS.iconst X35.here hx rfl (hb hby at_128) k) ?_
  show G (T35.setTop (mkF m 129 #[.val (.long q1), .second, .val (.long q2), .second, .val (.long q3), .second, .val (.long q4), .second, .val (.int p5), .val (.ref b1), .val (.ref r10), .val (.int (p5 &&& (31 : Int32))), .val (.ref cc20)] [(.int (1 : Int32))]))
  refine go (fun _ k => XS.goto X35.here hx rfl (pc0 := 129) (pc' := 133) rfl (hb hby at_129) (by decide) (by decide) k) ?_
  show G (T35.setTop (mkF m 133 #[.val (.long q1), .second, .val (.long q2), .second, .val (.long q3), .second, .val (.long q4), .second, .val (.int p5), .val (.ref b1), .val (.ref r10), .val (.int (p5 &&& (31 : Int32))), .val (.ref cc20)] [(.int (1 : Int32))]))
  rw [hG]
  refine own_fin X35 Bd.notSynchronized (v := some (.int (1 : Int32))) (fun h => by rw [Bd.returns] at h; cases h) (fun fs hr => retOut X35 hx Bd.returns rfl (by simp [FieldType.isReference, Value.isRef]) (hb hby at_133) hr) ?_ (by decide) (by decide)
  show Q0 Z q1 q2 q3 q4 p5 h0 n0 (some (.int (1 : Int32))) T35.heap _
  rw [e35]
  exact ⟨rfl, N35⟩

set_option maxRecDepth 65536 in
set_option maxHeartbeats 40000000 in
theorem comes_1 {Post : Tables → Env → Array Value → State → Outcome → State → Prop} (hpost : ∀ tb e args s v u, (limb_1_1.after args s (.returned v) u = true ∧ limb_1_2.after args s (.returned v) u = true ∧ True) → FrameEnd s (.returned v) u (Jvm.fieldLocs frame_1_writes args s ++ Jvm.arrayLocs frame_1_arrays args s ++ Jvm.staticLocs frame_1_statics s) 16 320 → Post tb e args s (.returned v) u) :
    ArmFor flags0 classFile x code maxLocals ret World_1 tables_1 room_1 Calls_1 rest_1 Pre_1 Post := by
  intro l hfl _ _ p e ha hc hk s m args below hf hA hF happ hP
  obtain ⟨hcalls, hrest, hpre⟩ := hP
  obtain ⟨-, -, -, hnamed, -, -, -, hat⟩ := (Spec.applies_iff hf).mp happ
  obtain ⟨hg, hn⟩ := and_e (Cond.before_iff.mp (show (Jvm.Cond.and given_1 narrow_1).before args s = true from hpre))
  obtain ⟨g2, g3⟩ := and_e hg
  obtain ⟨g4, g5⟩ := and_e g3
  obtain ⟨g6, g7⟩ := and_e g5
  obtain ⟨g8, g9⟩ := and_e g7
  obtain ⟨g10, g11⟩ := and_e g9
  obtain ⟨w0, w1, w2, w3, w4, rfl⟩ : ∃ w0 w1 w2 w3 w4 : Value, args = #[w0, w1, w2, w3, w4] := by
    have hs : args.size = 5 := by simpa [Cond.value, given_1] using g2
    obtain ⟨L⟩ := args
    match L, hs with
    | [w0, w1, w2, w3, w4], _ => exact ⟨w0, w1, w2, w3, w4, rfl⟩
  have hw := fun d (hd : d ∈ tables_1) => atoms_spec (ws := Jvm.Cond.code x code maxLocals ret :: tables_1) hat d (List.mem_cons_of_mem _ hd)
  have hfit : Fit s := fun {y c} hc i hi => by
    obtain ⟨ha, rfl⟩ := Array.getElem?_eq_some_iff.mp hc
    have q := List.all_eq_true.mp ((Array.all_eq_true_iff_forall_mem.mp hF) _ (Array.getElem_mem ha)) i (List.mem_range.mpr hi)
    simpa [Array.getElem?_eq_getElem hi] using q
  obtain ⟨i0, ei0⟩ := isL_v g4
  obtain rfl : w0 = (.long i0) := Option.some.inj ei0
  obtain ⟨i1, ei1⟩ := isL_v g6
  obtain rfl : w1 = (.long i1) := Option.some.inj ei1
  obtain ⟨i2, ei2⟩ := isL_v g8
  obtain rfl : w2 = (.long i2) := Option.some.inj ei2
  obtain ⟨i3, ei3⟩ := isL_v g10
  obtain rfl : w3 = (.long i3) := Option.some.inj ei3
  obtain ⟨i4, ei4⟩ := is_v g11
  obtain rfl : w4 = (.int i4) := Option.some.inj ei4
  obtain ⟨n, o, h1, h2, h3, _, L, rfl, ⟨rfl, N⟩, hq⟩ := rm0 l s _ hw tables_1 i0 i1 i2 i3 i4 s.heap s.heap.size (Nat.le_refl _)  p e ha hc hk s m _ below hf ((Spec.applies_iff_loose hf).mp happ).1 ⟨rfl, State.Warmed39.refl s, rfl⟩ trivial
  refine ⟨n, _, h1, h2, h3, hpost _ _ _ _ _ _ ⟨Cond.after_iff.mpr rfl, Cond.after_iff.mpr (eq_i res_at (Term.int_eval (1)) rfl), trivial⟩ ⟨hq.1, hq.2.1, (hq.2.2.sift fun y hy => Or.inr (N y hy)).mono (by decide) (by decide)⟩⟩
theorem main_1_1 : Claimed_1_1 := comes_1 fun _ _ _ _ _ _ h hF => ⟨h.1, hF⟩
theorem main_1_2 : Claimed_1_2 := comes_1 fun _ _ _ _ _ _ h hF => ⟨h.2.1, hF⟩
end Jvm.Pilot.@@N@@
namespace Jvm.Pilot.@@N@@
open Jvm Jvm.ClassFile Sem Op Lib Jvm.Free Jvm.Stand Jvm.Pilot.@@N@@.Jvm.D
/-! MADE BY PROGRAM (witnessworld.py) out of the Statement's table words and the real class files: 9 classes; the members and pool entries that the words name. The judged class is class 1, her method 3. -/
namespace start1
open Jvm.ClassFile
def u (s : String) : CpInfo := .utf8 (stringToUtf16 s)
/-- a pool by its gaps: so many unusable entries, then the entry; so many at the end -/
def gap : Nat → List CpInfo → List CpInfo
  | 0, r => r
  | n + 1, r => .unusable :: gap n r
def poolList (es : List (Nat × CpInfo)) (last : Nat) : List CpInfo := es.foldr (fun e r => gap e.1 (e.2 :: r)) (gap last [])
def pool (es : List (Nat × CpInfo)) (last : Nat) : Array CpInfo := ⟨poolList es last⟩
def fileOf (pool : Array CpInfo) (this : Nat) (attrs : Array Attribute := #[]) (ms : Array MethodInfo := #[]) (fl : Nat := 33) (sup : Nat := 0) (ifs : Array Nat := #[]) (fds : Array FieldInfo := #[]) : ClassFile where
  minorVersion := 0
  majorVersion := 65
  constantPool := pool
  accessFlags := fl
  thisClass := this
  superClass := sup
  interfaces := ifs
  fields := fds
  methods := ms
  attributes := attrs
def plain (name : String) (sup : Option ClassId) : Class where
  name := name
  kind := .ordinary
  loader := none
  accessFlags := 33
  super := sup
  interfaces := #[]
  cf := none
  fields := #[]
  methods := #[]
  instanceTypes := #[]
  staticTypes := #[]
  resolved := #[]
  callSites := []
  init := .initialized
  statics := none
  mirror := none

def pool0 : Array CpInfo := pool [(5, u "<init>"), (0, u "()V"), (1, .class_ 10), (1, u "java/lang/Object"), (85, u "clone"), (0, u "()Ljava/lang/Object;")] 26

def k0c0 : Code := { maxStack := 0, maxLocals := 1, code := object_method_1_code, exceptionTable := #[], attributes := #[] }
def k0m0 : Method := { name := "<init>", desc := "()V", sig := { parameters := [], returnType := none }, accessFlags := 1, code := some k0c0 }
def k0m1 : Method := { name := "clone", desc := "()Ljava/lang/Object;", sig := { parameters := [], returnType := some (.object "java/lang/Object") }, accessFlags := 260, code := none }
/-- java/lang/Object -/
def k0 : Class := { plain "java/lang/Object" none with
  accessFlags := 33
  interfaces := #[]
  cf := some (fileOf pool0 8 #[] #[{ accessFlags := 1, nameIndex := 5, descriptorIndex := 6, attributes := #[] }, { accessFlags := 260, nameIndex := 96, descriptorIndex := 97, attributes := #[] }] 33 0 #[] #[])
  fields := #[]
  methods := #[k0m0, k0m1]
  instanceTypes := #[]
  staticTypes := #[]
  resolved := Array.replicate 124 none
  statics := none }

def pool1 : Array CpInfo := pool [(2, .class_ 4), (1, u "java/lang/Object"), (0, u "<init>"), (0, u "()V"), (0, .methodref 8 9), (0, .class_ 10), (0, .nameAndType 11 12), (0, u "com/example/answer_once/answeronce/model/FingerprintOfDigestPinLaw"), (0, u "put"), (0, u "([BIJ)V"), (0, .methodref 14 15), (0, .class_ 16), (0, .nameAndType 17 18), (0, u "com/example/answer_once/answeronce/model/Fingerprint"), (0, u "ofDigest"), (0, u "([B)Lcom/example/answer_once/answeronce/model/Fingerprint;"), (0, .methodref 14 20), (0, .nameAndType 21 22), (0, u "getDigest"), (0, u "()[B"), (0, .methodref 8 24), (0, .nameAndType 25 26), (0, u "same"), (0, u "([BIJ)Z"), (3, u "law"), (0, u "(JJJJI)Z")] 4

def k1m0 : Method := { name := "<init>", desc := "()V", sig := { parameters := [], returnType := none }, accessFlags := 1, code := none }
def k1c1 : Code := { maxStack := 5, maxLocals := 4, code := method_2_code, exceptionTable := #[], attributes := #[] }
def k1m1 : Method := { name := "put", desc := "([BIJ)V", sig := { parameters := [(.array .byte), .int, .long], returnType := none }, accessFlags := 10, code := some k1c1 }
def k1c2 : Code := { maxStack := 4, maxLocals := 4, code := method_3_code, exceptionTable := #[], attributes := #[] }
def k1m2 : Method := { name := "same", desc := "([BIJ)Z", sig := { parameters := [(.array .byte), .int, .long], returnType := some .boolean }, accessFlags := 10, code := some k1c2 }
def k1c3 : Code := { maxStack := 4, maxLocals := 13, code := code, exceptionTable := #[], attributes := #[] }
def k1m3 : Method := { name := "law", desc := "(JJJJI)Z", sig := { parameters := [.long, .long, .long, .long, .int], returnType := some .boolean }, accessFlags := 9, code := some k1c3 }
/-- com/example/answer_once/answeronce/model/FingerprintOfDigestPinLaw -/
def k1 : Class := { plain "com/example/answer_once/answeronce/model/FingerprintOfDigestPinLaw" (some 0) with
  accessFlags := 49
  interfaces := #[]
  cf := some (fileOf pool1 8 #[] #[{ accessFlags := 1, nameIndex := 5, descriptorIndex := 6, attributes := #[] }, { accessFlags := 10, nameIndex := 11, descriptorIndex := 12, attributes := #[] }, { accessFlags := 10, nameIndex := 25, descriptorIndex := 26, attributes := #[] }, { accessFlags := 9, nameIndex := 30, descriptorIndex := 31, attributes := #[] }] 49 2 #[] #[])
  fields := #[]
  methods := #[k1m0, k1m1, k1m2, k1m3]
  instanceTypes := #[]
  staticTypes := #[]
  resolved := Array.replicate 36 none
  statics := none }

def pool2 : Array CpInfo := pool [(1, .methodref 2 3), (0, .class_ 4), (0, .nameAndType 5 6), (0, u "java/lang/Object"), (0, u "<init>"), (0, u "()V"), (0, .fieldref 8 9), (0, .class_ 10), (0, .nameAndType 11 12), (0, u "com/example/answer_once/answeronce/model/Fingerprint"), (0, u "digest"), (0, u "[B"), (10, u "SHA_256"), (0, u "Ljava/lang/ThreadLocal;"), (5, u "()Ljava/lang/Object;"), (5, .methodref 8 37), (0, .nameAndType 5 38), (0, u "([B)V"), (9, .methodref 49 50), (0, .class_ 12), (0, .nameAndType 51 30), (0, u "clone"), (42, u "DIGEST_LENGTH"), (0, u "I"), (6, u "([B)Lcom/example/answer_once/answeronce/model/Fingerprint;"), (0, u "ofDigest"), (1, u "getDigest"), (0, u "()[B")] 37

def k2c0 : Code := { maxStack := 2, maxLocals := 2, code := prog_12_method_1_code, exceptionTable := #[], attributes := #[] }
def k2m0 : Method := { name := "<init>", desc := "([B)V", sig := { parameters := [(.array .byte)], returnType := none }, accessFlags := 2, code := some k2c0 }
def k2c1 : Code := { maxStack := 3, maxLocals := 1, code := prog_12_method_3_code, exceptionTable := #[], attributes := #[] }
def k2m1 : Method := { name := "ofDigest", desc := "([B)Lcom/example/answer_once/answeronce/model/Fingerprint;", sig := { parameters := [(.array .byte)], returnType := some (.object "com/example/answer_once/answeronce/model/Fingerprint") }, accessFlags := 9, code := some k2c1 }
def k2c2 : Code := { maxStack := 1, maxLocals := 1, code := prog_12_method_4_code, exceptionTable := #[], attributes := #[] }
def k2m2 : Method := { name := "getDigest", desc := "()[B", sig := { parameters := [], returnType := some (.array .byte) }, accessFlags := 1, code := some k2c2 }
/-- com/example/answer_once/answeronce/model/Fingerprint -/
def k2 : Class := { plain "com/example/answer_once/answeronce/model/Fingerprint" (some 0) with
  accessFlags := 49
  interfaces := #[]
  cf := some (fileOf pool2 8 #[] #[{ accessFlags := 2, nameIndex := 5, descriptorIndex := 38, attributes := #[] }, { accessFlags := 9, nameIndex := 103, descriptorIndex := 102, attributes := #[] }, { accessFlags := 1, nameIndex := 105, descriptorIndex := 106, attributes := #[] }] 49 2 #[] #[{ accessFlags := 26, nameIndex := 94, descriptorIndex := 95, attributes := #[] }, { accessFlags := 26, nameIndex := 23, descriptorIndex := 24, attributes := #[] }, { accessFlags := 18, nameIndex := 11, descriptorIndex := 12, attributes := #[] }])
  fields := #[{ name := "DIGEST_LENGTH", type := .int, accessFlags := 26, slot := 0, constantValue := 0 }, { name := "SHA_256", type := (.object "java/lang/ThreadLocal"), accessFlags := 26, slot := 1, constantValue := 0 }, { name := "digest", type := (.array .byte), accessFlags := 18, slot := 0, constantValue := 0 }]
  methods := #[k2m0, k2m1, k2m2]
  instanceTypes := #[(.array .byte)]
  staticTypes := #[.int, (.object "java/lang/ThreadLocal")]
  resolved := Array.replicate 144 none
  statics := none }

def pool3 : Array CpInfo := pool [(1, .class_ 2), (0, u "java/lang/Cloneable"), (0, .class_ 4), (0, u "java/lang/Object")] 2

/-- java/lang/Cloneable -/
def k3 : Class := { plain "java/lang/Cloneable" (some 0) with
  accessFlags := 1537
  interfaces := #[]
  cf := some (fileOf pool3 1 #[] #[] 1537 3 #[] #[])
  fields := #[]
  methods := #[]
  instanceTypes := #[]
  staticTypes := #[]
  resolved := Array.replicate 7 none
  statics := none }

def pool4 : Array CpInfo := pool [(1, u "java/io/Serializable"), (0, .class_ 1), (0, u "java/lang/Object"), (0, .class_ 3)] 3

/-- java/io/Serializable -/
def k4 : Class := { plain "java/io/Serializable" (some 0) with
  accessFlags := 1537
  interfaces := #[]
  cf := some (fileOf pool4 2 #[] #[] 1537 4 #[] #[])
  fields := #[]
  methods := #[]
  instanceTypes := #[]
  staticTypes := #[]
  resolved := Array.replicate 8 none
  statics := none }

/-- the primitive byte -/
def k5 : Class := { plain "byte" none with kind := .primitive 'B', accessFlags := 0x411 }
/-- [B -/
def k6 : Class := { plain "[B" (some 0) with kind := .array 5 .byte, interfaces := #[3, 4], accessFlags := 1041 }

/-- the primitive int -/
def k7 : Class := { plain "int" none with kind := .primitive 'I', accessFlags := 0x411 }
/-- [I -/
def k8 : Class := { plain "[I" (some 0) with kind := .array 7 .int, interfaces := #[3, 4], accessFlags := 1041 }

def heap : Heap := #[]
def classes : Array Class := #[k0, k1, k2, k3, k4, k5, k6, k7, k8]
def interned : List (Array UInt16 × Addr) := []
def slotsUsed : Nat := 0
def theMethod : MethodId := ⟨1, 3⟩
def args0 : Array Value := #[.long 5, .long 7, .long 9, .long 11, .int 3]
def aboutOver (below : List Frame) : State where
  vm := { classes := classes, interned := interned.toArray }
  heap := heap
  slotsUsed := slotsUsed
  threads := #[{ frames := .invoking theMethod args0 :: below }]
def below0 : List Frame := [.native { method := ⟨0, 0⟩, args := #[] }]
def about1 : State := aboutOver below0
def p0 : Program := .bare "" "" ""
def e0 : Env := launch0.env 0 0 0
theorem w_frames : about1.frames = Frame.invoking theMethod args0 :: below0 := rfl
set_option maxRecDepth 65536 in
theorem w_args : argsFit about1.vm theMethod args0 = true := by decide +kernel
set_option maxRecDepth 65536 in
theorem w_heap : heapFits about1 = true := by decide +kernel
set_option maxRecDepth 65536 in
theorem w_runnable : about1.curStatus? = some .runnable := by decide +kernel
set_option maxRecDepth 65536 in
theorem w_alone : about1.alone = true := by decide +kernel
set_option maxRecDepth 65536 in
theorem w_named : about1.methodNamed? x = some theMethod := by decide +kernel
set_option maxRecDepth 65536 in
theorem w_hears : about1.hears theMethod below0 = true := by decide +kernel
set_option maxRecDepth 65536 in
theorem w_ripe : about1.ripe theMethod args0 below0 = true := by decide +kernel
theorem w_running : about1.status = .running := rfl
set_option maxRecDepth 65536 in
theorem w_room : about1.hasRoom e0.platform room_1 = true :=
  launch0.hasRoom_least _ room_1 (by decide +kernel) (by decide +kernel) (by decide +kernel) (by decide +kernel) (by decide +kernel) (by decide +kernel)
theorem allAtoms_all (ts : List Jvm.Cond) (a : Array Jvm.Value) (st : Jvm.State) : (allAtoms ts).before a st = ts.all (fun c => c.before a st) := by
  induction ts with
  | nil => rfl
  | cons c t ih =>
    show (Jvm.Cond.and c (allAtoms t)).before a st = _
    rw [Jvm.Cond.before_and, ih, List.all_cons]
def words1 : List Jvm.Cond := Jvm.Cond.code x code maxLocals ret :: tables_1
/-- a 'code' word, met by the world's own term for the bytes: nothing is compared byte by byte -/
theorem code_word {y : MethodName} {bytes : ByteArray} {mx : Nat} {rt : Option FieldType} {a : Array Value} {s : State} {m : MethodId} {meth : Method} {c : Code} (h1 : s.methodNamed? y = some m) (h2 : s.vm.method? m = some meth) (h3 : meth.code = some c) (h4 : c.code = bytes)
    (h5 : (c.maxLocals == mx && c.exceptionTable.isEmpty && decide (c.maxStack ≤ mostOperands) && decide (meth.sig.returnType = rt) && !meth.locks && decide (parseMethodDescriptor y.desc = some meth.sig)) = true) : (Jvm.Cond.code y bytes mx rt).before a s = true := by
  simp only [Bool.and_eq_true, beq_iff_eq, Bool.not_eq_true', decide_eq_true_eq] at h5
  obtain ⟨⟨⟨⟨⟨g1, g2⟩, g3⟩, g4⟩, g5⟩, g6⟩ := h5
  simp [Cond.before, Cond.holds, Cond.value, h1, h2, h3, h4, g1, g2, g3, g4, g5, g6]
def isCode : Jvm.Cond → Bool
  | .code _ _ _ _ => true
  | _ => false
theorem all_split {L : List Jvm.Cond} {P : Jvm.Cond → Bool} (h1 : L.all (fun c => isCode c || P c) = true) (h2 : ∀ c ∈ L.filter isCode, P c = true) : L.all P = true := by
  refine List.all_eq_true.mpr fun c hc => ?_
  have h := List.all_eq_true.mp h1 c hc
  rcases Bool.eq_false_or_eq_true (isCode c) with hi | hi
  · exact h2 c (List.mem_filter.mpr ⟨hc, hi⟩)
  · simpa [hi] using h
set_option maxRecDepth 65536 in
theorem w_c0 : (Jvm.Cond.code x code maxLocals ret).before args0 about1 = true := code_word (m := ⟨1, 3⟩) (meth := k1m3) (c := k1c3) (by decide +kernel) rfl rfl rfl (by decide +kernel)
set_option maxRecDepth 65536 in
theorem w_c1 : (Jvm.Cond.code ({ cls := "com/example/answer_once/answeronce/model/FingerprintOfDigestPinLaw", name := "put", desc := "([BIJ)V" } : Jvm.MethodName) method_2_code (4 : Nat) (Option.none : Option Jvm.ClassFile.FieldType)).before args0 about1 = true := code_word (m := ⟨1, 1⟩) (meth := k1m1) (c := k1c1) (by decide +kernel) rfl rfl rfl (by decide +kernel)
set_option maxRecDepth 65536 in
theorem w_c2 : (Jvm.Cond.code ({ cls := "com/example/answer_once/answeronce/model/Fingerprint", name := "ofDigest", desc := "([B)Lcom/example/answer_once/answeronce/model/Fingerprint;" } : Jvm.MethodName) prog_12_method_3_code (1 : Nat) (Option.some (Jvm.ClassFile.FieldType.object "com/example/answer_once/answeronce/model/Fingerprint"))).before args0 about1 = true := code_word (m := ⟨2, 1⟩) (meth := k2m1) (c := k2c1) (by decide +kernel) rfl rfl rfl (by decide +kernel)
set_option maxRecDepth 65536 in
theorem w_c3 : (Jvm.Cond.code ({ cls := "com/example/answer_once/answeronce/model/Fingerprint", name := "<init>", desc := "([B)V" } : Jvm.MethodName) prog_12_method_1_code (2 : Nat) (Option.none : Option Jvm.ClassFile.FieldType)).before args0 about1 = true := code_word (m := ⟨2, 0⟩) (meth := k2m0) (c := k2c0) (by decide +kernel) rfl rfl rfl (by decide +kernel)
set_option maxRecDepth 65536 in
theorem w_c4 : (Jvm.Cond.code ({ cls := "java/lang/Object", name := "<init>", desc := "()V" } : Jvm.MethodName) object_method_1_code (1 : Nat) (Option.none : Option Jvm.ClassFile.FieldType)).before args0 about1 = true := code_word (m := ⟨0, 0⟩) (meth := k0m0) (c := k0c0) (by decide +kernel) rfl rfl rfl (by decide +kernel)
set_option maxRecDepth 65536 in
theorem w_c5 : (Jvm.Cond.code ({ cls := "com/example/answer_once/answeronce/model/Fingerprint", name := "getDigest", desc := "()[B" } : Jvm.MethodName) prog_12_method_4_code (1 : Nat) (Option.some (Jvm.ClassFile.FieldType.array Jvm.ClassFile.FieldType.byte))).before args0 about1 = true := code_word (m := ⟨2, 2⟩) (meth := k2m2) (c := k2c2) (by decide +kernel) rfl rfl rfl (by decide +kernel)
set_option maxRecDepth 65536 in
theorem w_c6 : (Jvm.Cond.code ({ cls := "com/example/answer_once/answeronce/model/FingerprintOfDigestPinLaw", name := "same", desc := "([BIJ)Z" } : Jvm.MethodName) method_3_code (4 : Nat) (Option.some Jvm.ClassFile.FieldType.boolean)).before args0 about1 = true := code_word (m := ⟨1, 2⟩) (meth := k1m2) (c := k1c2) (by decide +kernel) rfl rfl rfl (by decide +kernel)
def codes1 : List Jvm.Cond := [Jvm.Cond.code x code maxLocals ret, Jvm.Cond.code ({ cls := "com/example/answer_once/answeronce/model/FingerprintOfDigestPinLaw", name := "put", desc := "([BIJ)V" } : Jvm.MethodName) method_2_code (4 : Nat) (Option.none : Option Jvm.ClassFile.FieldType), Jvm.Cond.code ({ cls := "com/example/answer_once/answeronce/model/Fingerprint", name := "ofDigest", desc := "([B)Lcom/example/answer_once/answeronce/model/Fingerprint;" } : Jvm.MethodName) prog_12_method_3_code (1 : Nat) (Option.some (Jvm.ClassFile.FieldType.object "com/example/answer_once/answeronce/model/Fingerprint")), Jvm.Cond.code ({ cls := "com/example/answer_once/answeronce/model/Fingerprint", name := "<init>", desc := "([B)V" } : Jvm.MethodName) prog_12_method_1_code (2 : Nat) (Option.none : Option Jvm.ClassFile.FieldType), Jvm.Cond.code ({ cls := "java/lang/Object", name := "<init>", desc := "()V" } : Jvm.MethodName) object_method_1_code (1 : Nat) (Option.none : Option Jvm.ClassFile.FieldType), Jvm.Cond.code ({ cls := "com/example/answer_once/answeronce/model/Fingerprint", name := "getDigest", desc := "()[B" } : Jvm.MethodName) prog_12_method_4_code (1 : Nat) (Option.some (Jvm.ClassFile.FieldType.array Jvm.ClassFile.FieldType.byte)), Jvm.Cond.code ({ cls := "com/example/answer_once/answeronce/model/FingerprintOfDigestPinLaw", name := "same", desc := "([BIJ)Z" } : Jvm.MethodName) method_3_code (4 : Nat) (Option.some Jvm.ClassFile.FieldType.boolean)]
set_option maxRecDepth 65536 in
theorem codes_eq : words1.filter isCode = codes1 := rfl
theorem w_codes : ∀ c ∈ words1.filter isCode, c.before args0 about1 = true := by
  rw [codes_eq]
  intro c hc
  simp only [codes1, List.mem_cons, List.not_mem_nil, or_false] at hc
  rcases hc with rfl | rfl | rfl | rfl | rfl | rfl | rfl
  · exact w_c0
  · exact w_c1
  · exact w_c2
  · exact w_c3
  · exact w_c4
  · exact w_c5
  · exact w_c6
set_option maxRecDepth 65536 in
theorem w_t1 : (words1.take 24).all (fun c => isCode c || c.before args0 about1) = true := by decide +kernel
set_option maxRecDepth 65536 in
theorem w_t2 : (words1.drop 24).all (fun c => isCode c || c.before args0 about1) = true := by decide +kernel
theorem w_tables : (allAtoms (Jvm.Cond.code x code maxLocals ret :: tables_1)).before args0 about1 = true := by
  rw [allAtoms_all]
  show words1.all (fun c => c.before args0 about1) = true
  refine all_split ?_ w_codes
  rw [← List.take_append_drop 24 words1, List.all_append, w_t1, w_t2]
  rfl
set_option maxRecDepth 65536 in
theorem w_case : (Jvm.Cond.and given_1 narrow_1).before args0 about1 = true := by decide +kernel
theorem w_applies : (headSpec (Jvm.Cond.code x code maxLocals ret :: tables_1) room_1).applies x e0.platform about1 = true :=
  (Spec.applies_iff w_frames).mpr ⟨w_running, w_runnable, w_alone, w_named, w_hears, w_ripe, w_room, w_tables⟩
theorem atStart : AtStart classFile x code maxLocals ret World_1 tables_1 room_1 Calls_1 rest_1 Pre_1 launch0 p0 e0 about1 theMethod args0 below0 :=
  ⟨lists_1, trivial, launch0.admits_env _ _ _, launch0.least_env, fairChoices_fair.cas, fairChoices_fair.clock, w_frames, w_args, w_heap, w_applies, trivial, trivial, w_case⟩
end start1
theorem witness_1 : WitnessClaimed_1 := ⟨start1.p0, start1.e0, start1.about1, start1.theMethod, start1.args0, start1.below0, start1.atStart⟩
end Jvm.Pilot.@@N@@
