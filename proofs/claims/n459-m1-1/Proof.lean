import JvmDerived
import JvmDerived.Pilot.@@N@@Statement
import JvmDerived.Pilot.@@N@@Code
set_option linter.unusedVariables false
set_option linter.unusedSimpArgs false
namespace Jvm.Pilot.@@N@@
open Jvm Jvm.ClassFile Sem Op Lib Jvm.Free Jvm.Stand Jvm.LawKit Jvm.RoadKit Bundle Jvm.Pilot.@@N@@.Jvm.D
/-- what a walk must still come to -/
def OwnG (p : Program) (e : Env) (below : List Frame) (s : State) (C S : Nat) (Q : Option Value → Heap → List Loc → Prop) (A : State) : Prop :=
  ∃ s₂ o, Steps p.tables e below A s₂ ∧ s₂.status = .running ∧ Ended s₂ below o ∧ ∃ v L, o = .returned v ∧ Q v s₂.heap L ∧ FrameEnd s o s₂ L C S
theorem OwnG.go {p : Program} {e : Env} {below : List Frame} {s : State} {C S : Nat} {Q : Option Value → Heap → List Loc → Prop} {A B : State} (h : ∀ t, Steps p.tables e below A t → Steps p.tables e below B t) (k : OwnG p e below s C S Q A) : OwnG p e below s C S Q B := by
  obtain ⟨s₂, o, k1, k2⟩ := k
  exact ⟨s₂, o, h _ k1, k2⟩
theorem own_fin {p : Program} {l : Launch} {e : Env} {R : Room} {s : State} {m : MethodId} {args : Array Value} {below : List Frame} {meth : Method} {c : Code} {T : State} {locs : List Loc} {cells slots : Nat}
    (X : Stand p l e R s m args below meth c T locs cells slots) {C S : Nat} {Q : Option Value → Heap → List Loc → Prop} (hlocks : meth.locks = false) {v : Option Value} (hv : meth.sig.returnType = none → v = none) {A : State}
    (hst : ∀ fs, (∀ (f : JFrame) (acts : List Action), f.method = m → f.locked = none → f.entered = [] → (doReturn e (T.setTop f) acts v).1 = T.setFrames fs) → Steps p.tables e below A (T.setFrames fs))
    (hQ : Q v T.heap locs) (hc : cells ≤ C) (hs : slots ≤ S) : OwnG p e below s C S Q A := by
  obtain ⟨fs, hr, hrun, hended, hW, hsame⟩ := X.leave (v := v) hv hlocks
  exact ⟨_, _, hst fs hr, hrun, hended, v, locs, rfl, hQ, ⟨_, rfl⟩, hW, hsame.mono hc hs⟩
theorem own_lrem {p : Program} {l : Launch} {e : Env} {R : Room} {s : State} {m : MethodId} {args : Array Value} {below : List Frame} {meth : Method} {c : Code} {T : State} {locs : List Loc} {cells slots : Nat} {g : JFrame} {target : State}
    (X : Stand p l e R s m args below meth c T locs cells slots) (hx : p.tables.exec = Jvm.exec) (hg : g.method = m) {x y : Int64} {rest : List Value} (hd : decode c.code g.pc = .ok (.lrem, 1)) (hs : g.stack = .long y :: .long x :: rest) (hy : y ≠ 0)
    (hr : Steps p.tables e below (T.setTop { g with pc := g.pc + 1, stack := .long (x % y) :: rest }) target) : Steps p.tables e below (T.setTop g) target := by
  have q : x - x / y * y = x % y := lrem_mod x y
  exact XS.lrem X.here hx hg hd hs hy (by rw [q]; exact hr)
theorem own_lclt {a b : Int64} : lcmpW a b < 0 ↔ a < b := by
  unfold lcmpW
  by_cases h1 : a > b
  · simp only [h1, if_true]
    refine ⟨fun h => absurd h (by decide), fun h => ?_⟩
    rw [Int64.lt_iff_toInt_lt] at h; rw [gt_iff_lt, Int64.lt_iff_toInt_lt] at h1; omega
  · by_cases h2 : a = b
    · subst h2; simp [h1]
    · simp only [h1, h2, if_false]
      refine ⟨fun _ => ?_, fun _ => by decide⟩
      rw [gt_iff_lt, Int64.lt_iff_toInt_lt] at h1; rw [Int64.lt_iff_toInt_lt]
      have : a.toInt ≠ b.toInt := fun q => h2 (Int64.toInt_inj.mp q)
      omega
theorem own_lceq {a b : Int64} : lcmpW a b = 0 ↔ a = b := by
  unfold lcmpW
  by_cases h1 : a > b
  · simp only [h1, if_true]
    refine ⟨fun h => absurd h (by decide), fun h => ?_⟩
    subst h; rw [gt_iff_lt, Int64.lt_iff_toInt_lt] at h1; omega
  · by_cases h2 : a = b
    · subst h2; simp [h1]
    · simp only [h1, h2, if_false]
      exact ⟨fun h => absurd h (by decide), fun h => h.elim⟩
theorem own_lcgt {a b : Int64} : 0 < lcmpW a b ↔ b < a := by
  unfold lcmpW
  by_cases h1 : a > b
  · rw [if_pos h1]
    exact ⟨fun _ => h1, fun _ => by decide⟩
  · rw [if_neg h1]
    refine ⟨fun h => ?_, fun h => absurd h h1⟩
    by_cases h2 : a = b
    · rw [if_pos h2] at h; exact absurd h (by decide)
    · rw [if_neg h2] at h; exact absurd h (by decide)

theorem own_mask32 (x m : Int32) (h : 0 ≤ m.toInt) : 0 ≤ (x &&& m).toInt ∧ (x &&& m).toInt ≤ m.toInt := by
  have e : (x &&& m).toInt = (x.toBitVec &&& m.toBitVec).toInt := rfl
  have em : m.toInt = m.toBitVec.toInt := rfl
  have h1 : (x.toBitVec &&& m.toBitVec).toNat ≤ m.toBitVec.toNat := by rw [BitVec.toNat_and]; exact Nat.and_le_right
  have h2 := m.toBitVec.isLt
  rw [BitVec.toInt_eq_toNat_cond] at e em
  rw [em] at h
  rw [e, em]
  generalize (x.toBitVec &&& m.toBitVec).toNat = u at *
  generalize m.toBitVec.toNat = w at *
  split at h <;> split <;> omega
theorem own_mask64 (x m : Int64) (h : 0 ≤ m.toInt) : 0 ≤ (x &&& m).toInt ∧ (x &&& m).toInt ≤ m.toInt := by
  have e : (x &&& m).toInt = (x.toBitVec &&& m.toBitVec).toInt := rfl
  have em : m.toInt = m.toBitVec.toInt := rfl
  have h1 : (x.toBitVec &&& m.toBitVec).toNat ≤ m.toBitVec.toNat := by rw [BitVec.toNat_and]; exact Nat.and_le_right
  have h2 := m.toBitVec.isLt
  rw [BitVec.toInt_eq_toNat_cond] at e em
  rw [em] at h
  rw [e, em]
  generalize (x.toBitVec &&& m.toBitVec).toNat = u at *
  generalize m.toBitVec.toNat = w at *
  split at h <;> split <;> omega
theorem own_add32 {a b : Int32} (h1 : -2147483648 ≤ a.toInt + b.toInt) (h2 : a.toInt + b.toInt < 2147483648) : (a + b).toInt = a.toInt + b.toInt := by
  rw [Int32.toInt_add, Int.bmod_def]; omega
theorem own_sub32 {a b : Int32} (h1 : -2147483648 ≤ a.toInt - b.toInt) (h2 : a.toInt - b.toInt < 2147483648) : (a - b).toInt = a.toInt - b.toInt := by
  rw [Int32.toInt_sub, Int.bmod_def]; omega
theorem own_add64 {a b : Int64} (h1 : -9223372036854775808 ≤ a.toInt + b.toInt) (h2 : a.toInt + b.toInt < 9223372036854775808) : (a + b).toInt = a.toInt + b.toInt := by
  rw [Int64.toInt_add, Int.bmod_def]; omega
theorem own_sub64 {a b : Int64} (h1 : -9223372036854775808 ≤ a.toInt - b.toInt) (h2 : a.toInt - b.toInt < 9223372036854775808) : (a - b).toInt = a.toInt - b.toInt := by
  rw [Int64.toInt_sub, Int.bmod_def]; omega
theorem own_mul64 {a b : Int64} (h1 : -9223372036854775808 ≤ a.toInt * b.toInt) (h2 : a.toInt * b.toInt < 9223372036854775808) : (a * b).toInt = a.toInt * b.toInt := by
  rw [Int64.toInt_mul, Int.bmod_def]
  generalize a.toInt * b.toInt = z at *
  omega
theorem own_rem32 {a b : Int32} (h1 : 0 ≤ a.toInt) (h2 : 0 < b.toInt) : (a % b).toInt = a.toInt % b.toInt := by
  rw [Int32.toInt_mod, Int.tmod_eq_emod_of_nonneg h1]
theorem own_rem64 {a b : Int64} (h1 : 0 ≤ a.toInt) (h2 : 0 < b.toInt) : (a % b).toInt = a.toInt % b.toInt := by
  rw [Int64.toInt_mod, Int.tmod_eq_emod_of_nonneg h1]


def d0 (n w : Int32) : Int64 := (w &&& (((255 : Int32).toUInt32 >>> (n &&& 31).toUInt32).toInt32)).toInt64
def dS (len : Int64) (w : Int32) : Int64 := (len <<< ((8 : Int32) &&& 0x3f).toInt64) ||| (w &&& (255 : Int32)).toInt64
/-- the low byte of a long, as it is stored -/
def bL (x : Int64) : Int32 := nar .byte ((x.toInt32).toInt8.toInt32)
def shr (x : Int64) (k : Int32) : Int64 := ((x.toUInt64 >>> (k &&& 0x3f).toInt64.toUInt64).toInt64)
theorem own_bL (x : Int64) : ∃ k : Int, (bL x).toInt = x.toInt + 256 * k := by
  have h1 := c_l2i x
  have h2 := c_i2b x.toInt32
  have h3 := c_i2b (x.toInt32).toInt8.toInt32
  have e : (bL x) = (x.toInt32).toInt8.toInt32.toInt8.toInt32 := rfl
  rw [e]
  refine ⟨((x.toInt32).toInt8.toInt32.toInt8.toInt32.toInt - x.toInt) / 256, ?_⟩
  omega
theorem own_b255 (x : Int64) : ((bL x) &&& (255 : Int32)).toInt = x.toInt % 256 := by
  obtain ⟨k, hk⟩ := own_bL x
  rw [c_mask _ _ 8 (by decide) (by decide), hk]
  omega
theorem own_d0 (n w m : Int32) (k : Nat) (hk : k ≤ 31) (hn : (((255 : Int32).toUInt32 >>> (n &&& 31).toUInt32).toInt32) = m) (hm : m.toBitVec.toNat = 2 ^ k - 1) : (d0 n w).toInt = w.toInt % (2 ^ k : Nat) := by
  unfold d0
  rw [hn, c_i2l, c_mask _ _ k hk hm]
theorem own_dS (len : Int64) (w : Int32) (h0 : 0 ≤ len.toInt) (h1 : len.toInt < 281474976710656) (hw : 0 ≤ (w &&& (255 : Int32)).toInt) (hw2 : (w &&& (255 : Int32)).toInt < 256) : (dS len w).toInt = len.toInt * 256 + (w &&& (255 : Int32)).toInt := by
  have e1 := c_lshl len 8 8 (by decide)
  have r1 := rng64 (len <<< ((8 : Int32) &&& 0x3f).toInt64)
  have e2 : (len <<< ((8 : Int32) &&& 0x3f).toInt64).toInt = len.toInt * 256 := by
    have : ((2 ^ 8 : Nat) : Int) = 256 := rfl
    rw [this] at e1; omega
  have e3 := c_orL (len <<< ((8 : Int32) &&& 0x3f).toInt64) (w &&& (255 : Int32)).toInt64 8 (by decide) 256 rfl
  rw [e2, c_i2l] at e3
  have e4 := e3 (by omega) hw hw2
  have r2 := rng64 (dS len w)
  unfold dS at r2 ⊢
  omega
theorem own_byteS (len x : Int64) (h0 : 0 ≤ len.toInt) (h1 : len.toInt < 281474976710656) : (dS len (bL x)).toInt = len.toInt * 256 + x.toInt % 256 := by
  have h := own_b255 x
  rw [own_dS len _ h0 h1 (by omega) (by omega), h]
theorem own_shr (x : Int64) (q : Int32) (k : Nat) (hk : q.toBitVec.toNat % 64 = k) (h0 : 0 < k) (hx : 0 ≤ x.toInt) : (shr x q).toInt = x.toInt / (2 ^ k : Nat) := by
  have h := c_lushr x q k hk h0
  have r := rng64 x
  unfold shr
  rw [h, Int.emod_eq_of_lt hx (by omega)]
theorem own_or (a b : Int64) (k : Nat) (hk : k ≤ 63) (P : Int) (hP : P = (2 ^ k : Nat)) (ha : a.toInt % P = 0) (ha2 : a.toInt = 128 ∨ a.toInt = 192 ∨ a.toInt = 224) (hb : 0 ≤ b.toInt) (hb2 : b.toInt < P) (hP2 : P ≤ 256) : (a ||| b).toInt = a.toInt + b.toInt := by
  have h := c_orL a b k hk P hP ha hb hb2
  have r := rng64 (a ||| b)
  omega
theorem own_L (a : Int32) (m : Int64) (hm : 0 ≤ m.toInt) : 0 ≤ (a.toInt64 &&& m).toInt ∧ (a.toInt64 &&& m).toInt ≤ m.toInt := own_mask64 _ _ hm
theorem own_dec1 (L : Int64) (h0 : 0 ≤ L.toInt) (h1 : L.toInt ≤ 127) : d0 1 (bL L) = L := by
  rw [← Int64.toInt_inj, own_d0 1 _ 127 7 (by decide) (by decide) (by decide)]
  obtain ⟨k, hk⟩ := own_bL L
  have : ((2 ^ 7 : Nat) : Int) = 128 := rfl
  rw [hk, this]; omega
theorem own_dec2 (L : Int64) (h0 : 0 ≤ L.toInt) (h1 : L.toInt ≤ 16383) : dS (d0 2 (bL ((128 : Int64) ||| shr L 8))) (bL L) = L := by
  have e8 := own_shr L 8 8 (by decide) (by decide) h0
  have c1 : ((2 ^ 8 : Nat) : Int) = 256 := rfl
  have c2 : ((2 ^ 6 : Nat) : Int) = 64 := rfl
  have c3 : (128 : Int64).toInt = 128 := rfl
  rw [c1] at e8
  have eo := own_or 128 (shr L 8) 7 (by decide) 128 rfl (by decide) (Or.inl rfl) (by omega) (by omega) (by decide)
  obtain ⟨k, hk⟩ := own_bL ((128 : Int64) ||| shr L 8)
  have ed := own_d0 2 (bL ((128 : Int64) ||| shr L 8)) 63 6 (by decide) (by decide) (by decide)
  rw [c2] at ed
  rw [← Int64.toInt_inj, own_byteS _ _ (by omega) (by omega)]
  omega
theorem own_dec3 (L : Int64) (h0 : 0 ≤ L.toInt) (h1 : L.toInt ≤ 2097151) : dS (dS (d0 3 (bL ((192 : Int64) ||| shr L 16))) (bL (shr L 8))) (bL L) = L := by
  have e8 := own_shr L 8 8 (by decide) (by decide) h0
  have e16 := own_shr L 16 16 (by decide) (by decide) h0
  have c1 : ((2 ^ 8 : Nat) : Int) = 256 := rfl
  have c1' : ((2 ^ 16 : Nat) : Int) = 65536 := rfl
  have c2 : ((2 ^ 5 : Nat) : Int) = 32 := rfl
  have c3 : (192 : Int64).toInt = 192 := rfl
  rw [c1] at e8
  rw [c1'] at e16
  have eo := own_or 192 (shr L 16) 6 (by decide) 64 rfl (by decide) (Or.inr (Or.inl rfl)) (by omega) (by omega) (by decide)
  obtain ⟨k, hk⟩ := own_bL ((192 : Int64) ||| shr L 16)
  have ed := own_d0 3 (bL ((192 : Int64) ||| shr L 16)) 31 5 (by decide) (by decide) (by decide)
  rw [c2] at ed
  have s1 := own_byteS (d0 3 (bL ((192 : Int64) ||| shr L 16))) (shr L 8) (by omega) (by omega)
  rw [← Int64.toInt_inj, own_byteS _ _ (by omega) (by omega)]
  omega
theorem own_dec4 (L : Int64) (h0 : 0 ≤ L.toInt) (h1 : L.toInt ≤ 268435455) : dS (dS (dS (d0 4 (bL ((224 : Int64) ||| shr L 24))) (bL (shr L 16))) (bL (shr L 8))) (bL L) = L := by
  have e8 := own_shr L 8 8 (by decide) (by decide) h0
  have e16 := own_shr L 16 16 (by decide) (by decide) h0
  have e24 := own_shr L 24 24 (by decide) (by decide) h0
  have c1 : ((2 ^ 8 : Nat) : Int) = 256 := rfl
  have c1' : ((2 ^ 16 : Nat) : Int) = 65536 := rfl
  have c1'' : ((2 ^ 24 : Nat) : Int) = 16777216 := rfl
  have c2 : ((2 ^ 4 : Nat) : Int) = 16 := rfl
  have c3 : (224 : Int64).toInt = 224 := rfl
  rw [c1] at e8
  rw [c1'] at e16
  rw [c1''] at e24
  have eo := own_or 224 (shr L 24) 5 (by decide) 32 rfl (by decide) (Or.inr (Or.inr rfl)) (by omega) (by omega) (by decide)
  obtain ⟨k, hk⟩ := own_bL ((224 : Int64) ||| shr L 24)
  have ed := own_d0 4 (bL ((224 : Int64) ||| shr L 24)) 15 4 (by decide) (by decide) (by decide)
  rw [c2] at ed
  have s1 := own_byteS (d0 4 (bL ((224 : Int64) ||| shr L 24))) (shr L 16) (by omega) (by omega)
  have s2 := own_byteS (dS (d0 4 (bL ((224 : Int64) ||| shr L 24))) (bL (shr L 16))) (shr L 8) (by omega) (by omega)
  rw [← Int64.toInt_inj, own_byteS _ _ (by omega) (by omega)]
  omega
theorem own_dec5 (L : Int64) (h0 : 0 ≤ L.toInt) (h1 : L.toInt ≤ 4294967295) : dS (dS (dS (dS (d0 5 (nar .byte (-16))) (bL (shr L 24))) (bL (shr L 16))) (bL (shr L 8))) (bL L) = L := by
  have e8 := own_shr L 8 8 (by decide) (by decide) h0
  have e16 := own_shr L 16 16 (by decide) (by decide) h0
  have e24 := own_shr L 24 24 (by decide) (by decide) h0
  have c1 : ((2 ^ 8 : Nat) : Int) = 256 := rfl
  have c1' : ((2 ^ 16 : Nat) : Int) = 65536 := rfl
  have c1'' : ((2 ^ 24 : Nat) : Int) = 16777216 := rfl
  rw [c1] at e8
  rw [c1'] at e16
  rw [c1''] at e24
  have ed : d0 5 (nar .byte (-16)) = 0 := by decide
  have c0 : (0 : Int64).toInt = 0 := rfl
  rw [ed]
  have s0 := own_byteS 0 (shr L 24) (by decide) (by decide)
  have s1 := own_byteS (dS 0 (bL (shr L 24))) (shr L 16) (by omega) (by omega)
  have s2 := own_byteS (dS (dS 0 (bL (shr L 24))) (bL (shr L 16))) (shr L 8) (by omega) (by omega)
  rw [← Int64.toInt_inj, own_byteS _ _ (by omega) (by omega)]
  omega
theorem own_size (x : Int32) : ((x &&& (2147483647 : Int32)) % (5 : Int32)) + (1 : Int32) = 1 ∨ ((x &&& (2147483647 : Int32)) % (5 : Int32)) + (1 : Int32) = 2 ∨ ((x &&& (2147483647 : Int32)) % (5 : Int32)) + (1 : Int32) = 3 ∨ ((x &&& (2147483647 : Int32)) % (5 : Int32)) + (1 : Int32) = 4 ∨ ((x &&& (2147483647 : Int32)) % (5 : Int32)) + (1 : Int32) = 5 := by
  have h := own_mask32 x 2147483647 (by decide)
  have h2 := own_rem32 (b := 5) h.1 (by decide)
  have e5 : (5 : Int32).toInt = 5 := rfl
  have e1 : (1 : Int32).toInt = 1 := rfl
  have e2 : (2 : Int32).toInt = 2 := rfl
  have e3 : (3 : Int32).toInt = 3 := rfl
  have e4 : (4 : Int32).toInt = 4 := rfl
  rw [e5] at h2
  have h3 : (((x &&& (2147483647 : Int32)) % (5 : Int32)) + (1 : Int32)).toInt = ((x &&& (2147483647 : Int32)) % (5 : Int32)).toInt + 1 := own_add32 (by omega) (by omega)
  rw [← Int32.toInt_inj, ← Int32.toInt_inj, ← Int32.toInt_inj, ← Int32.toInt_inj, ← Int32.toInt_inj, h3, e1, e2, e3, e4, e5]
  omega

theorem d1_0 : decode prog_61_method_4_code 0 = .ok (.aload_n 0, 1) := by decide +kernel
theorem d1_1 : decode prog_61_method_4_code 1 = .ok (.iconst 0, 1) := by decide +kernel
theorem d1_2 : decode prog_61_method_4_code 2 = .ok (.baload, 1) := by decide +kernel
theorem d1_3 : decode prog_61_method_4_code 3 = .ok (.sipush 255, 3) := by decide +kernel
theorem d1_6 : decode prog_61_method_4_code 6 = .ok (.iload_n 1, 1) := by decide +kernel
theorem d1_7 : decode prog_61_method_4_code 7 = .ok (.iushr, 1) := by decide +kernel
theorem d1_8 : decode prog_61_method_4_code 8 = .ok (.iand, 1) := by decide +kernel
theorem d1_9 : decode prog_61_method_4_code 9 = .ok (.i2l, 1) := by decide +kernel
theorem d1_10 : decode prog_61_method_4_code 10 = .ok (.lstore_n 2, 1) := by decide +kernel
theorem d1_11 : decode prog_61_method_4_code 11 = .ok (.iconst 1, 1) := by decide +kernel
theorem d1_12 : decode prog_61_method_4_code 12 = .ok (.istore 4, 2) := by decide +kernel
theorem d1_14 : decode prog_61_method_4_code 14 = .ok (.iload 4, 2) := by decide +kernel
theorem d1_16 : decode prog_61_method_4_code 16 = .ok (.iload_n 1, 1) := by decide +kernel
theorem d1_17 : decode prog_61_method_4_code 17 = .ok (.if_icmp .ge 24, 3) := by decide +kernel
theorem d1_41 : decode prog_61_method_4_code 41 = .ok (.lload_n 2, 1) := by decide +kernel
theorem d1_42 : decode prog_61_method_4_code 42 = .ok (.lreturn, 1) := by decide +kernel
theorem pn_1 : plainName "com/example/parley/parley/sentence/WordLength" = true := by first | (simp [plainName, overriddenIn]; done) | decide +kernel
theorem ef_rm1n1 (m : MethodId) (a1 : Addr) : entryFrame m #[(.ref a1), (.int (1 : Int32))] 5 = mkF m 0 #[.val (.ref a1), .val (.int (1 : Int32)), .unset, .unset, .unset] [] := by first | (simp [entryFrame, mkF, argsToLocals, Value.category]; done) | rfl
def Q1n1 (Z : State) (a1 : Addr) (k : ClassId) (w0 w1 w2 w3 w4 : Int32) (h0 : Heap) (n0 : Nat) (v : Option Value) (h : Heap) (L : List Loc) : Prop := v = some (.long (d0 (1 : Int32) w0)) ∧ Fr n0 L ∧ h = h0
set_option maxRecDepth 65536 in
set_option maxHeartbeats 40000000 in
theorem rm1n1 (l : Launch) (Z : State) (a0 : Array Value) (hw : ∀ d ∈ tables_1, d.before a0 Z = true) (ws : List Jvm.Cond) (a1 : Addr) (k : ClassId) (w0 w1 w2 w3 w4 : Int32) (h0 : Heap) (n0 : Nat) (Z0 : n0 ≤ h0.size) (VA : Arv Z h0 a1 k .byte (5 : Int32) [(.int w0), (.int w1), (.int w2), (.int w3), (.int w4)] (.int (0 : Int32))) :
    MetFree l (⟨"com/example/parley/parley/sentence/WordLength", "decode", "([BI)J"⟩ : MethodName) (head1 (Jvm.Cond.code (⟨"com/example/parley/parley/sentence/WordLength", "decode", "([BI)J"⟩ : MethodName) prog_61_method_4_code 5 (some .long) :: ws) ({ frames := 0, cells := 0, slots := 0, locals := 0 } : Room)) (fun a U => a = #[(.ref a1), (.int (1 : Int32))] ∧ Z.Warmed39 U.vm ∧ U.heap = h0) (fun _ _ _ _ _ => True) (fun _ U o U' => ∃ v L, o = .returned v ∧ Q1n1 Z a1 k w0 w1 w2 w3 w4 h0 n0 v U'.heap L ∧ FrameEnd U o U' L ({ frames := 0, cells := 0, slots := 0, locals := 0 } : Room).cells ({ frames := 0, cells := 0, slots := 0, locals := 0 } : Room).slots) := by
  refine MetFree.of_bodySF (plainFor_of_name pn_1) hisR ?_
  intro p e s m args below meth c s₁ Bd hml0 hP hK
  obtain ⟨rfl, hZ, hh⟩ := hP
  have hx := Bd.exec
  have hby := Bd.bytes
  have hml : c.maxLocals = 5 := hml0
  have hown : s.vm.findClass "com/example/parley/parley/sentence/WordLength" = some m.cls := findClass_of_methodNamed Bd.named
  have hnm := (name_of_methodNamed Bd.named Bd.method).1
  have X0 : Stand p l e ({ frames := 0, cells := 0, slots := 0, locals := 0 } : Room) s m #[(.ref a1), (.int (1 : Int32))] below meth c s₁ [] 0 0 := Stand.of_body Bd
  have e0 : s₁.heap = h0 := by rw [← hh, Bd.state]; rfl
  have N0 := Fr.nil n0
  obtain ⟨G, hG⟩ : ∃ G : State → Prop, G = OwnG p e below s ({ frames := 0, cells := 0, slots := 0, locals := 0 } : Room).cells ({ frames := 0, cells := 0, slots := 0, locals := 0 } : Room).slots (Q1n1 Z a1 k w0 w1 w2 w3 w4 h0 n0) := ⟨_, rfl⟩
  have go : ∀ {A B : State}, (∀ t, Steps p.tables e below A t → Steps p.tables e below B t) → G A → G B := fun h k => by rw [hG] at k ⊢; exact OwnG.go h k
  suffices k0 : G (s₁.setTop (mkF m 0 #[.val (.ref a1), .val (.int (1 : Int32)), .unset, .unset, .unset] [])) by
    rw [hG] at k0; exact OwnG.go (fun t k => castTop (ef_rm1n1 m a1) k) k0
  refine go (fun _ k => XS.aloadN X0.here hx rfl (hb hby d1_0) rfl rfl k) ?_
  show G (s₁.setTop (mkF m 1 #[.val (.ref a1), .val (.int (1 : Int32)), .unset, .unset, .unset] [(.ref a1)]))
  refine go (fun _ k => XS.iconst X0.here hx rfl (hb hby d1_1) k) ?_
  show G (s₁.setTop (mkF m 2 #[.val (.ref a1), .val (.int (1 : Int32)), .unset, .unset, .unset] [(.int (0 : Int32)), (.ref a1)]))
  obtain ⟨cl1, Ar1, qk1, qs1, qn1, qh1, qg1⟩ := id VA
  refine go (X0.baloadBytes hx (j := (0 : Int32)) (v := (.int w0)) (by rw [e0]; exact Ar1.1) (State.isArrayOf_alike hZ.alike Ar1.2.1) Ar1.2.2 (inb_of qs1 ⟨by decide, by decide⟩) (Has.at qh1 (inb_of qs1 ⟨by decide, by decide⟩) rfl) (g := (mkF m 2 #[.val (.ref a1), .val (.int (1 : Int32)), .unset, .unset, .unset] [(.int (0 : Int32)), (.ref a1)])) rfl rfl (hb hby d1_2)) ?_
  show G (s₁.setTop (mkF m 3 #[.val (.ref a1), .val (.int (1 : Int32)), .unset, .unset, .unset] [(.int w0)]))
  refine go (fun _ k => XS.sipush X0.here hx rfl (hb hby d1_3) k) ?_
  show G (s₁.setTop (mkF m 6 #[.val (.ref a1), .val (.int (1 : Int32)), .unset, .unset, .unset] [(.int (255 : Int32)), (.int w0)]))
  refine go (fun _ k => XS.iloadN X0.here hx rfl (hb hby d1_6) rfl k) ?_
  show G (s₁.setTop (mkF m 7 #[.val (.ref a1), .val (.int (1 : Int32)), .unset, .unset, .unset] [(.int (1 : Int32)), (.int (255 : Int32)), (.int w0)]))
  refine go (fun _ k => XS.iushr X0.here hx rfl (hb hby d1_7) rfl k) ?_
  show G (s₁.setTop (mkF m 8 #[.val (.ref a1), .val (.int (1 : Int32)), .unset, .unset, .unset] [(.int (((255 : Int32).toUInt32 >>> ((1 : Int32) &&& 31).toUInt32).toInt32)), (.int w0)]))
  refine go (fun _ k => XS.iand X0.here hx rfl (hb hby d1_8) rfl k) ?_
  show G (s₁.setTop (mkF m 9 #[.val (.ref a1), .val (.int (1 : Int32)), .unset, .unset, .unset] [(.int (w0 &&& (((255 : Int32).toUInt32 >>> ((1 : Int32) &&& 31).toUInt32).toInt32)))]))
  refine go (fun _ k => XS.i2l X0.here hx rfl (hb hby d1_9) rfl k) ?_
  show G (s₁.setTop (mkF m 10 #[.val (.ref a1), .val (.int (1 : Int32)), .unset, .unset, .unset] [(.long ((w0 &&& (((255 : Int32).toUInt32 >>> ((1 : Int32) &&& 31).toUInt32).toInt32)).toInt64))]))
  refine go (fun _ k => XS.lstoreN X0.here hx rfl (hb hby d1_10) rfl (l' := #[.val (.ref a1), .val (.int (1 : Int32)), .val (.long ((w0 &&& (((255 : Int32).toUInt32 >>> ((1 : Int32) &&& 31).toUInt32).toInt32)).toInt64)), .second, .unset]) rfl k) ?_
  show G (s₁.setTop (mkF m 11 #[.val (.ref a1), .val (.int (1 : Int32)), .val (.long ((w0 &&& (((255 : Int32).toUInt32 >>> ((1 : Int32) &&& 31).toUInt32).toInt32)).toInt64)), .second, .unset] []))
  refine go (fun _ k => XS.iconst X0.here hx rfl (hb hby d1_11) k) ?_
  show G (s₁.setTop (mkF m 12 #[.val (.ref a1), .val (.int (1 : Int32)), .val (.long ((w0 &&& (((255 : Int32).toUInt32 >>> ((1 : Int32) &&& 31).toUInt32).toInt32)).toInt64)), .second, .unset] [(.int (1 : Int32))]))
  refine go (fun _ k => XS.istore X0.here hx rfl (hb hby d1_12) rfl (l' := #[.val (.ref a1), .val (.int (1 : Int32)), .val (.long ((w0 &&& (((255 : Int32).toUInt32 >>> ((1 : Int32) &&& 31).toUInt32).toInt32)).toInt64)), .second, .val (.int (1 : Int32))]) rfl k) ?_
  show G (s₁.setTop (mkF m 14 #[.val (.ref a1), .val (.int (1 : Int32)), .val (.long ((w0 &&& (((255 : Int32).toUInt32 >>> ((1 : Int32) &&& 31).toUInt32).toInt32)).toInt64)), .second, .val (.int (1 : Int32))] []))
  refine go (fun _ k => XS.iload X0.here hx rfl (hb hby d1_14) rfl k) ?_
  show G (s₁.setTop (mkF m 16 #[.val (.ref a1), .val (.int (1 : Int32)), .val (.long ((w0 &&& (((255 : Int32).toUInt32 >>> ((1 : Int32) &&& 31).toUInt32).toInt32)).toInt64)), .second, .val (.int (1 : Int32))] [(.int (1 : Int32))]))
  refine go (fun _ k => XS.iloadN X0.here hx rfl (hb hby d1_16) rfl k) ?_
  show G (s₁.setTop (mkF m 17 #[.val (.ref a1), .val (.int (1 : Int32)), .val (.long ((w0 &&& (((255 : Int32).toUInt32 >>> ((1 : Int32) &&& 31).toUInt32).toInt32)).toInt64)), .second, .val (.int (1 : Int32))] [(.int (1 : Int32)), (.int (1 : Int32))]))
  have hc2 : ¬ ((1 : Int32) < (1 : Int32)) := (by decide)
  refine go (fun _ k => XS.icmpYes X0.here hx rfl (pc0 := 17) (pc' := 41) rfl (hb hby d1_17) rfl (flt hc2).2.1 (by decide) (by decide) k) ?_
  show G (s₁.setTop (mkF m 41 #[.val (.ref a1), .val (.int (1 : Int32)), .val (.long ((w0 &&& (((255 : Int32).toUInt32 >>> ((1 : Int32) &&& 31).toUInt32).toInt32)).toInt64)), .second, .val (.int (1 : Int32))] []))
  refine go (fun _ k => XS.lloadN X0.here hx rfl (hb hby d1_41) rfl k) ?_
  show G (s₁.setTop (mkF m 42 #[.val (.ref a1), .val (.int (1 : Int32)), .val (.long ((w0 &&& (((255 : Int32).toUInt32 >>> ((1 : Int32) &&& 31).toUInt32).toInt32)).toInt64)), .second, .val (.int (1 : Int32))] [(.long ((w0 &&& (((255 : Int32).toUInt32 >>> ((1 : Int32) &&& 31).toUInt32).toInt32)).toInt64))]))
  rw [hG]
  refine own_fin X0 Bd.notSynchronized (v := some (.long ((w0 &&& (((255 : Int32).toUInt32 >>> ((1 : Int32) &&& 31).toUInt32).toInt32)).toInt64))) (fun h => by rw [Bd.returns] at h; cases h) (fun fs hr => retOut X0 hx Bd.returns rfl (by simp [FieldType.isReference, Value.isRef]) (hb hby d1_42) hr) ?_ (by decide) (by decide)
  show Q1n1 Z a1 k w0 w1 w2 w3 w4 h0 n0 (some (.long ((w0 &&& (((255 : Int32).toUInt32 >>> ((1 : Int32) &&& 31).toUInt32).toInt32)).toInt64))) s₁.heap _
  rw [e0]
  exact ⟨rfl, N0, rfl⟩

theorem d1_20 : decode prog_61_method_4_code 20 = .ok (.lload_n 2, 1) := by decide +kernel
theorem d1_21 : decode prog_61_method_4_code 21 = .ok (.bipush 8, 2) := by decide +kernel
theorem d1_23 : decode prog_61_method_4_code 23 = .ok (.lshl, 1) := by decide +kernel
theorem d1_24 : decode prog_61_method_4_code 24 = .ok (.aload_n 0, 1) := by decide +kernel
theorem d1_25 : decode prog_61_method_4_code 25 = .ok (.iload 4, 2) := by decide +kernel
theorem d1_27 : decode prog_61_method_4_code 27 = .ok (.baload, 1) := by decide +kernel
theorem d1_28 : decode prog_61_method_4_code 28 = .ok (.sipush 255, 3) := by decide +kernel
theorem d1_31 : decode prog_61_method_4_code 31 = .ok (.iand, 1) := by decide +kernel
theorem d1_32 : decode prog_61_method_4_code 32 = .ok (.i2l, 1) := by decide +kernel
theorem d1_33 : decode prog_61_method_4_code 33 = .ok (.lor, 1) := by decide +kernel
theorem d1_34 : decode prog_61_method_4_code 34 = .ok (.lstore_n 2, 1) := by decide +kernel
theorem d1_35 : decode prog_61_method_4_code 35 = .ok (.iinc 4 1, 3) := by decide +kernel
theorem d1_38 : decode prog_61_method_4_code 38 = .ok (.goto (-24), 3) := by decide +kernel
theorem ef_rm1n2 (m : MethodId) (a1 : Addr) : entryFrame m #[(.ref a1), (.int (2 : Int32))] 5 = mkF m 0 #[.val (.ref a1), .val (.int (2 : Int32)), .unset, .unset, .unset] [] := by first | (simp [entryFrame, mkF, argsToLocals, Value.category]; done) | rfl
def Q1n2 (Z : State) (a1 : Addr) (k : ClassId) (w0 w1 w2 w3 w4 : Int32) (h0 : Heap) (n0 : Nat) (v : Option Value) (h : Heap) (L : List Loc) : Prop := v = some (.long (dS (d0 (2 : Int32) w0) w1)) ∧ Fr n0 L ∧ h = h0
set_option maxRecDepth 65536 in
set_option maxHeartbeats 40000000 in
theorem rm1n2 (l : Launch) (Z : State) (a0 : Array Value) (hw : ∀ d ∈ tables_1, d.before a0 Z = true) (ws : List Jvm.Cond) (a1 : Addr) (k : ClassId) (w0 w1 w2 w3 w4 : Int32) (h0 : Heap) (n0 : Nat) (Z0 : n0 ≤ h0.size) (VA : Arv Z h0 a1 k .byte (5 : Int32) [(.int w0), (.int w1), (.int w2), (.int w3), (.int w4)] (.int (0 : Int32))) :
    MetFree l (⟨"com/example/parley/parley/sentence/WordLength", "decode", "([BI)J"⟩ : MethodName) (head1 (Jvm.Cond.code (⟨"com/example/parley/parley/sentence/WordLength", "decode", "([BI)J"⟩ : MethodName) prog_61_method_4_code 5 (some .long) :: ws) ({ frames := 0, cells := 0, slots := 0, locals := 0 } : Room)) (fun a U => a = #[(.ref a1), (.int (2 : Int32))] ∧ Z.Warmed39 U.vm ∧ U.heap = h0) (fun _ _ _ _ _ => True) (fun _ U o U' => ∃ v L, o = .returned v ∧ Q1n2 Z a1 k w0 w1 w2 w3 w4 h0 n0 v U'.heap L ∧ FrameEnd U o U' L ({ frames := 0, cells := 0, slots := 0, locals := 0 } : Room).cells ({ frames := 0, cells := 0, slots := 0, locals := 0 } : Room).slots) := by
  refine MetFree.of_bodySF (plainFor_of_name pn_1) hisR ?_
  intro p e s m args below meth c s₁ Bd hml0 hP hK
  obtain ⟨rfl, hZ, hh⟩ := hP
  have hx := Bd.exec
  have hby := Bd.bytes
  have hml : c.maxLocals = 5 := hml0
  have hown : s.vm.findClass "com/example/parley/parley/sentence/WordLength" = some m.cls := findClass_of_methodNamed Bd.named
  have hnm := (name_of_methodNamed Bd.named Bd.method).1
  have X0 : Stand p l e ({ frames := 0, cells := 0, slots := 0, locals := 0 } : Room) s m #[(.ref a1), (.int (2 : Int32))] below meth c s₁ [] 0 0 := Stand.of_body Bd
  have e0 : s₁.heap = h0 := by rw [← hh, Bd.state]; rfl
  have N0 := Fr.nil n0
  obtain ⟨G, hG⟩ : ∃ G : State → Prop, G = OwnG p e below s ({ frames := 0, cells := 0, slots := 0, locals := 0 } : Room).cells ({ frames := 0, cells := 0, slots := 0, locals := 0 } : Room).slots (Q1n2 Z a1 k w0 w1 w2 w3 w4 h0 n0) := ⟨_, rfl⟩
  have go : ∀ {A B : State}, (∀ t, Steps p.tables e below A t → Steps p.tables e below B t) → G A → G B := fun h k => by rw [hG] at k ⊢; exact OwnG.go h k
  suffices k0 : G (s₁.setTop (mkF m 0 #[.val (.ref a1), .val (.int (2 : Int32)), .unset, .unset, .unset] [])) by
    rw [hG] at k0; exact OwnG.go (fun t k => castTop (ef_rm1n2 m a1) k) k0
  refine go (fun _ k => XS.aloadN X0.here hx rfl (hb hby d1_0) rfl rfl k) ?_
  show G (s₁.setTop (mkF m 1 #[.val (.ref a1), .val (.int (2 : Int32)), .unset, .unset, .unset] [(.ref a1)]))
  refine go (fun _ k => XS.iconst X0.here hx rfl (hb hby d1_1) k) ?_
  show G (s₁.setTop (mkF m 2 #[.val (.ref a1), .val (.int (2 : Int32)), .unset, .unset, .unset] [(.int (0 : Int32)), (.ref a1)]))
  obtain ⟨cl1, Ar1, qk1, qs1, qn1, qh1, qg1⟩ := id VA
  refine go (X0.baloadBytes hx (j := (0 : Int32)) (v := (.int w0)) (by rw [e0]; exact Ar1.1) (State.isArrayOf_alike hZ.alike Ar1.2.1) Ar1.2.2 (inb_of qs1 ⟨by decide, by decide⟩) (Has.at qh1 (inb_of qs1 ⟨by decide, by decide⟩) rfl) (g := (mkF m 2 #[.val (.ref a1), .val (.int (2 : Int32)), .unset, .unset, .unset] [(.int (0 : Int32)), (.ref a1)])) rfl rfl (hb hby d1_2)) ?_
  show G (s₁.setTop (mkF m 3 #[.val (.ref a1), .val (.int (2 : Int32)), .unset, .unset, .unset] [(.int w0)]))
  refine go (fun _ k => XS.sipush X0.here hx rfl (hb hby d1_3) k) ?_
  show G (s₁.setTop (mkF m 6 #[.val (.ref a1), .val (.int (2 : Int32)), .unset, .unset, .unset] [(.int (255 : Int32)), (.int w0)]))
  refine go (fun _ k => XS.iloadN X0.here hx rfl (hb hby d1_6) rfl k) ?_
  show G (s₁.setTop (mkF m 7 #[.val (.ref a1), .val (.int (2 : Int32)), .unset, .unset, .unset] [(.int (2 : Int32)), (.int (255 : Int32)), (.int w0)]))
  refine go (fun _ k => XS.iushr X0.here hx rfl (hb hby d1_7) rfl k) ?_
  show G (s₁.setTop (mkF m 8 #[.val (.ref a1), .val (.int (2 : Int32)), .unset, .unset, .unset] [(.int (((255 : Int32).toUInt32 >>> ((2 : Int32) &&& 31).toUInt32).toInt32)), (.int w0)]))
  refine go (fun _ k => XS.iand X0.here hx rfl (hb hby d1_8) rfl k) ?_
  show G (s₁.setTop (mkF m 9 #[.val (.ref a1), .val (.int (2 : Int32)), .unset, .unset, .unset] [(.int (w0 &&& (((255 : Int32).toUInt32 >>> ((2 : Int32) &&& 31).toUInt32).toInt32)))]))
  refine go (fun _ k => XS.i2l X0.here hx rfl (hb hby d1_9) rfl k) ?_
  show G (s₁.setTop (mkF m 10 #[.val (.ref a1), .val (.int (2 : Int32)), .unset, .unset, .unset] [(.long ((w0 &&& (((255 : Int32).toUInt32 >>> ((2 : Int32) &&& 31).toUInt32).toInt32)).toInt64))]))
  refine go (fun _ k => XS.lstoreN X0.here hx rfl (hb hby d1_10) rfl (l' := #[.val (.ref a1), .val (.int (2 : Int32)), .val (.long ((w0 &&& (((255 : Int32).toUInt32 >>> ((2 : Int32) &&& 31).toUInt32).toInt32)).toInt64)), .second, .unset]) rfl k) ?_
  show G (s₁.setTop (mkF m 11 #[.val (.ref a1), .val (.int (2 : Int32)), .val (.long ((w0 &&& (((255 : Int32).toUInt32 >>> ((2 : Int32) &&& 31).toUInt32).toInt32)).toInt64)), .second, .unset] []))
  refine go (fun _ k => XS.iconst X0.here hx rfl (hb hby d1_11) k) ?_
  show G (s₁.setTop (mkF m 12 #[.val (.ref a1), .val (.int (2 : Int32)), .val (.long ((w0 &&& (((255 : Int32).toUInt32 >>> ((2 : Int32) &&& 31).toUInt32).toInt32)).toInt64)), .second, .unset] [(.int (1 : Int32))]))
  refine go (fun _ k => XS.istore X0.here hx rfl (hb hby d1_12) rfl (l' := #[.val (.ref a1), .val (.int (2 : Int32)), .val (.long ((w0 &&& (((255 : Int32).toUInt32 >>> ((2 : Int32) &&& 31).toUInt32).toInt32)).toInt64)), .second, .val (.int (1 : Int32))]) rfl k) ?_
  show G (s₁.setTop (mkF m 14 #[.val (.ref a1), .val (.int (2 : Int32)), .val (.long ((w0 &&& (((255 : Int32).toUInt32 >>> ((2 : Int32) &&& 31).toUInt32).toInt32)).toInt64)), .second, .val (.int (1 : Int32))] []))
  refine go (fun _ k => XS.iload X0.here hx rfl (hb hby d1_14) rfl k) ?_
  show G (s₁.setTop (mkF m 16 #[.val (.ref a1), .val (.int (2 : Int32)), .val (.long ((w0 &&& (((255 : Int32).toUInt32 >>> ((2 : Int32) &&& 31).toUInt32).toInt32)).toInt64)), .second, .val (.int (1 : Int32))] [(.int (1 : Int32))]))
  refine go (fun _ k => XS.iloadN X0.here hx rfl (hb hby d1_16) rfl k) ?_
  show G (s₁.setTop (mkF m 17 #[.val (.ref a1), .val (.int (2 : Int32)), .val (.long ((w0 &&& (((255 : Int32).toUInt32 >>> ((2 : Int32) &&& 31).toUInt32).toInt32)).toInt64)), .second, .val (.int (1 : Int32))] [(.int (2 : Int32)), (.int (1 : Int32))]))
  have hc2 : (1 : Int32) < (2 : Int32) := (by decide)
  refine go (fun _ k => XS.icmpNo X0.here hx rfl (hb hby d1_17) rfl (tlt hc2).2.1 k) ?_
  show G (s₁.setTop (mkF m 20 #[.val (.ref a1), .val (.int (2 : Int32)), .val (.long ((w0 &&& (((255 : Int32).toUInt32 >>> ((2 : Int32) &&& 31).toUInt32).toInt32)).toInt64)), .second, .val (.int (1 : Int32))] []))
  refine go (fun _ k => XS.lloadN X0.here hx rfl (hb hby d1_20) rfl k) ?_
  show G (s₁.setTop (mkF m 21 #[.val (.ref a1), .val (.int (2 : Int32)), .val (.long ((w0 &&& (((255 : Int32).toUInt32 >>> ((2 : Int32) &&& 31).toUInt32).toInt32)).toInt64)), .second, .val (.int (1 : Int32))] [(.long ((w0 &&& (((255 : Int32).toUInt32 >>> ((2 : Int32) &&& 31).toUInt32).toInt32)).toInt64))]))
  refine go (fun _ k => XS.bipush X0.here hx rfl (hb hby d1_21) k) ?_
  show G (s₁.setTop (mkF m 23 #[.val (.ref a1), .val (.int (2 : Int32)), .val (.long ((w0 &&& (((255 : Int32).toUInt32 >>> ((2 : Int32) &&& 31).toUInt32).toInt32)).toInt64)), .second, .val (.int (1 : Int32))] [(.int (8 : Int32)), (.long ((w0 &&& (((255 : Int32).toUInt32 >>> ((2 : Int32) &&& 31).toUInt32).toInt32)).toInt64))]))
  refine go (fun _ k => XS.lshl X0.here hx rfl (hb hby d1_23) rfl k) ?_
  show G (s₁.setTop (mkF m 24 #[.val (.ref a1), .val (.int (2 : Int32)), .val (.long ((w0 &&& (((255 : Int32).toUInt32 >>> ((2 : Int32) &&& 31).toUInt32).toInt32)).toInt64)), .second, .val (.int (1 : Int32))] [(.long (((w0 &&& (((255 : Int32).toUInt32 >>> ((2 : Int32) &&& 31).toUInt32).toInt32)).toInt64) <<< ((8 : Int32) &&& 0x3f).toInt64))]))
  refine go (fun _ k => XS.aloadN X0.here hx rfl (hb hby d1_24) rfl rfl k) ?_
  show G (s₁.setTop (mkF m 25 #[.val (.ref a1), .val (.int (2 : Int32)), .val (.long ((w0 &&& (((255 : Int32).toUInt32 >>> ((2 : Int32) &&& 31).toUInt32).toInt32)).toInt64)), .second, .val (.int (1 : Int32))] [(.ref a1), (.long (((w0 &&& (((255 : Int32).toUInt32 >>> ((2 : Int32) &&& 31).toUInt32).toInt32)).toInt64) <<< ((8 : Int32) &&& 0x3f).toInt64))]))
  refine go (fun _ k => XS.iload X0.here hx rfl (hb hby d1_25) rfl k) ?_
  show G (s₁.setTop (mkF m 27 #[.val (.ref a1), .val (.int (2 : Int32)), .val (.long ((w0 &&& (((255 : Int32).toUInt32 >>> ((2 : Int32) &&& 31).toUInt32).toInt32)).toInt64)), .second, .val (.int (1 : Int32))] [(.int (1 : Int32)), (.ref a1), (.long (((w0 &&& (((255 : Int32).toUInt32 >>> ((2 : Int32) &&& 31).toUInt32).toInt32)).toInt64) <<< ((8 : Int32) &&& 0x3f).toInt64))]))
  obtain ⟨cl3, Ar3, qk3, qs3, qn3, qh3, qg3⟩ := id VA
  refine go (X0.baloadBytes hx (j := (1 : Int32)) (v := (.int w1)) (by rw [e0]; exact Ar3.1) (State.isArrayOf_alike hZ.alike Ar3.2.1) Ar3.2.2 (inb_of qs3 ⟨by decide, by decide⟩) (Has.at qh3 (inb_of qs3 ⟨by decide, by decide⟩) rfl) (g := (mkF m 27 #[.val (.ref a1), .val (.int (2 : Int32)), .val (.long ((w0 &&& (((255 : Int32).toUInt32 >>> ((2 : Int32) &&& 31).toUInt32).toInt32)).toInt64)), .second, .val (.int (1 : Int32))] [(.int (1 : Int32)), (.ref a1), (.long (((w0 &&& (((255 : Int32).toUInt32 >>> ((2 : Int32) &&& 31).toUInt32).toInt32)).toInt64) <<< ((8 : Int32) &&& 0x3f).toInt64))])) rfl rfl (hb hby d1_27)) ?_
  show G (s₁.setTop (mkF m 28 #[.val (.ref a1), .val (.int (2 : Int32)), .val (.long ((w0 &&& (((255 : Int32).toUInt32 >>> ((2 : Int32) &&& 31).toUInt32).toInt32)).toInt64)), .second, .val (.int (1 : Int32))] [(.int w1), (.long (((w0 &&& (((255 : Int32).toUInt32 >>> ((2 : Int32) &&& 31).toUInt32).toInt32)).toInt64) <<< ((8 : Int32) &&& 0x3f).toInt64))]))
  refine go (fun _ k => XS.sipush X0.here hx rfl (hb hby d1_28) k) ?_
  show G (s₁.setTop (mkF m 31 #[.val (.ref a1), .val (.int (2 : Int32)), .val (.long ((w0 &&& (((255 : Int32).toUInt32 >>> ((2 : Int32) &&& 31).toUInt32).toInt32)).toInt64)), .second, .val (.int (1 : Int32))] [(.int (255 : Int32)), (.int w1), (.long (((w0 &&& (((255 : Int32).toUInt32 >>> ((2 : Int32) &&& 31).toUInt32).toInt32)).toInt64) <<< ((8 : Int32) &&& 0x3f).toInt64))]))
  refine go (fun _ k => XS.iand X0.here hx rfl (hb hby d1_31) rfl k) ?_
  show G (s₁.setTop (mkF m 32 #[.val (.ref a1), .val (.int (2 : Int32)), .val (.long ((w0 &&& (((255 : Int32).toUInt32 >>> ((2 : Int32) &&& 31).toUInt32).toInt32)).toInt64)), .second, .val (.int (1 : Int32))] [(.int (w1 &&& (255 : Int32))), (.long (((w0 &&& (((255 : Int32).toUInt32 >>> ((2 : Int32) &&& 31).toUInt32).toInt32)).toInt64) <<< ((8 : Int32) &&& 0x3f).toInt64))]))
  refine go (fun _ k => XS.i2l X0.here hx rfl (hb hby d1_32) rfl k) ?_
  show G (s₁.setTop (mkF m 33 #[.val (.ref a1), .val (.int (2 : Int32)), .val (.long ((w0 &&& (((255 : Int32).toUInt32 >>> ((2 : Int32) &&& 31).toUInt32).toInt32)).toInt64)), .second, .val (.int (1 : Int32))] [(.long ((w1 &&& (255 : Int32)).toInt64)), (.long (((w0 &&& (((255 : Int32).toUInt32 >>> ((2 : Int32) &&& 31).toUInt32).toInt32)).toInt64) <<< ((8 : Int32) &&& 0x3f).toInt64))]))
  refine go (fun _ k => XS.lor X0.here hx rfl (hb hby d1_33) rfl k) ?_
  show G (s₁.setTop (mkF m 34 #[.val (.ref a1), .val (.int (2 : Int32)), .val (.long ((w0 &&& (((255 : Int32).toUInt32 >>> ((2 : Int32) &&& 31).toUInt32).toInt32)).toInt64)), .second, .val (.int (1 : Int32))] [(.long ((((w0 &&& (((255 : Int32).toUInt32 >>> ((2 : Int32) &&& 31).toUInt32).toInt32)).toInt64) <<< ((8 : Int32) &&& 0x3f).toInt64) ||| ((w1 &&& (255 : Int32)).toInt64)))]))
  refine go (fun _ k => XS.lstoreN X0.here hx rfl (hb hby d1_34) rfl (l' := #[.val (.ref a1), .val (.int (2 : Int32)), .val (.long ((((w0 &&& (((255 : Int32).toUInt32 >>> ((2 : Int32) &&& 31).toUInt32).toInt32)).toInt64) <<< ((8 : Int32) &&& 0x3f).toInt64) ||| ((w1 &&& (255 : Int32)).toInt64))), .second, .val (.int (1 : Int32))]) rfl k) ?_
  show G (s₁.setTop (mkF m 35 #[.val (.ref a1), .val (.int (2 : Int32)), .val (.long ((((w0 &&& (((255 : Int32).toUInt32 >>> ((2 : Int32) &&& 31).toUInt32).toInt32)).toInt64) <<< ((8 : Int32) &&& 0x3f).toInt64) ||| ((w1 &&& (255 : Int32)).toInt64))), .second, .val (.int (1 : Int32))] []))
  refine go (fun _ k => XS.iinc X0.here hx rfl (hb hby d1_35) rfl (l' := #[.val (.ref a1), .val (.int (2 : Int32)), .val (.long ((((w0 &&& (((255 : Int32).toUInt32 >>> ((2 : Int32) &&& 31).toUInt32).toInt32)).toInt64) <<< ((8 : Int32) &&& 0x3f).toInt64) ||| ((w1 &&& (255 : Int32)).toInt64))), .second, .val (.int ((1 : Int32) + (1 : Int32)))]) rfl k) ?_
  show G (s₁.setTop (mkF m 38 #[.val (.ref a1), .val (.int (2 : Int32)), .val (.long ((((w0 &&& (((255 : Int32).toUInt32 >>> ((2 : Int32) &&& 31).toUInt32).toInt32)).toInt64) <<< ((8 : Int32) &&& 0x3f).toInt64) ||| ((w1 &&& (255 : Int32)).toInt64))), .second, .val (.int ((1 : Int32) + (1 : Int32)))] []))
  rw [show ((1 : Int32) + (1 : Int32) : Int32) = (2 : Int32) from by decide]
  show G (s₁.setTop (mkF m 38 #[.val (.ref a1), .val (.int (2 : Int32)), .val (.long ((((w0 &&& (((255 : Int32).toUInt32 >>> ((2 : Int32) &&& 31).toUInt32).toInt32)).toInt64) <<< ((8 : Int32) &&& 0x3f).toInt64) ||| ((w1 &&& (255 : Int32)).toInt64))), .second, .val (.int (2 : Int32))] []))
  refine go (fun _ k => XS.goto X0.here hx rfl (pc0 := 38) (pc' := 14) rfl (hb hby d1_38) (by decide) (by decide) k) ?_
  show G (s₁.setTop (mkF m 14 #[.val (.ref a1), .val (.int (2 : Int32)), .val (.long ((((w0 &&& (((255 : Int32).toUInt32 >>> ((2 : Int32) &&& 31).toUInt32).toInt32)).toInt64) <<< ((8 : Int32) &&& 0x3f).toInt64) ||| ((w1 &&& (255 : Int32)).toInt64))), .second, .val (.int (2 : Int32))] []))
  refine go (fun _ k => XS.iload X0.here hx rfl (hb hby d1_14) rfl k) ?_
  show G (s₁.setTop (mkF m 16 #[.val (.ref a1), .val (.int (2 : Int32)), .val (.long ((((w0 &&& (((255 : Int32).toUInt32 >>> ((2 : Int32) &&& 31).toUInt32).toInt32)).toInt64) <<< ((8 : Int32) &&& 0x3f).toInt64) ||| ((w1 &&& (255 : Int32)).toInt64))), .second, .val (.int (2 : Int32))] [(.int (2 : Int32))]))
  refine go (fun _ k => XS.iloadN X0.here hx rfl (hb hby d1_16) rfl k) ?_
  show G (s₁.setTop (mkF m 17 #[.val (.ref a1), .val (.int (2 : Int32)), .val (.long ((((w0 &&& (((255 : Int32).toUInt32 >>> ((2 : Int32) &&& 31).toUInt32).toInt32)).toInt64) <<< ((8 : Int32) &&& 0x3f).toInt64) ||| ((w1 &&& (255 : Int32)).toInt64))), .second, .val (.int (2 : Int32))] [(.int (2 : Int32)), (.int (2 : Int32))]))
  have hc4 : ¬ ((2 : Int32) < (2 : Int32)) := (by decide)
  refine go (fun _ k => XS.icmpYes X0.here hx rfl (pc0 := 17) (pc' := 41) rfl (hb hby d1_17) rfl (flt hc4).2.1 (by decide) (by decide) k) ?_
  show G (s₁.setTop (mkF m 41 #[.val (.ref a1), .val (.int (2 : Int32)), .val (.long ((((w0 &&& (((255 : Int32).toUInt32 >>> ((2 : Int32) &&& 31).toUInt32).toInt32)).toInt64) <<< ((8 : Int32) &&& 0x3f).toInt64) ||| ((w1 &&& (255 : Int32)).toInt64))), .second, .val (.int (2 : Int32))] []))
  refine go (fun _ k => XS.lloadN X0.here hx rfl (hb hby d1_41) rfl k) ?_
  show G (s₁.setTop (mkF m 42 #[.val (.ref a1), .val (.int (2 : Int32)), .val (.long ((((w0 &&& (((255 : Int32).toUInt32 >>> ((2 : Int32) &&& 31).toUInt32).toInt32)).toInt64) <<< ((8 : Int32) &&& 0x3f).toInt64) ||| ((w1 &&& (255 : Int32)).toInt64))), .second, .val (.int (2 : Int32))] [(.long ((((w0 &&& (((255 : Int32).toUInt32 >>> ((2 : Int32) &&& 31).toUInt32).toInt32)).toInt64) <<< ((8 : Int32) &&& 0x3f).toInt64) ||| ((w1 &&& (255 : Int32)).toInt64)))]))
  rw [hG]
  refine own_fin X0 Bd.notSynchronized (v := some (.long ((((w0 &&& (((255 : Int32).toUInt32 >>> ((2 : Int32) &&& 31).toUInt32).toInt32)).toInt64) <<< ((8 : Int32) &&& 0x3f).toInt64) ||| ((w1 &&& (255 : Int32)).toInt64)))) (fun h => by rw [Bd.returns] at h; cases h) (fun fs hr => retOut X0 hx Bd.returns rfl (by simp [FieldType.isReference, Value.isRef]) (hb hby d1_42) hr) ?_ (by decide) (by decide)
  show Q1n2 Z a1 k w0 w1 w2 w3 w4 h0 n0 (some (.long ((((w0 &&& (((255 : Int32).toUInt32 >>> ((2 : Int32) &&& 31).toUInt32).toInt32)).toInt64) <<< ((8 : Int32) &&& 0x3f).toInt64) ||| ((w1 &&& (255 : Int32)).toInt64)))) s₁.heap _
  rw [e0]
  exact ⟨rfl, N0, rfl⟩

theorem ef_rm1n3 (m : MethodId) (a1 : Addr) : entryFrame m #[(.ref a1), (.int (3 : Int32))] 5 = mkF m 0 #[.val (.ref a1), .val (.int (3 : Int32)), .unset, .unset, .unset] [] := by first | (simp [entryFrame, mkF, argsToLocals, Value.category]; done) | rfl
def Q1n3 (Z : State) (a1 : Addr) (k : ClassId) (w0 w1 w2 w3 w4 : Int32) (h0 : Heap) (n0 : Nat) (v : Option Value) (h : Heap) (L : List Loc) : Prop := v = some (.long (dS (dS (d0 (3 : Int32) w0) w1) w2)) ∧ Fr n0 L ∧ h = h0
set_option maxRecDepth 65536 in
set_option maxHeartbeats 40000000 in
theorem rm1n3 (l : Launch) (Z : State) (a0 : Array Value) (hw : ∀ d ∈ tables_1, d.before a0 Z = true) (ws : List Jvm.Cond) (a1 : Addr) (k : ClassId) (w0 w1 w2 w3 w4 : Int32) (h0 : Heap) (n0 : Nat) (Z0 : n0 ≤ h0.size) (VA : Arv Z h0 a1 k .byte (5 : Int32) [(.int w0), (.int w1), (.int w2), (.int w3), (.int w4)] (.int (0 : Int32))) :
    MetFree l (⟨"com/example/parley/parley/sentence/WordLength", "decode", "([BI)J"⟩ : MethodName) (head1 (Jvm.Cond.code (⟨"com/example/parley/parley/sentence/WordLength", "decode", "([BI)J"⟩ : MethodName) prog_61_method_4_code 5 (some .long) :: ws) ({ frames := 0, cells := 0, slots := 0, locals := 0 } : Room)) (fun a U => a = #[(.ref a1), (.int (3 : Int32))] ∧ Z.Warmed39 U.vm ∧ U.heap = h0) (fun _ _ _ _ _ => True) (fun _ U o U' => ∃ v L, o = .returned v ∧ Q1n3 Z a1 k w0 w1 w2 w3 w4 h0 n0 v U'.heap L ∧ FrameEnd U o U' L ({ frames := 0, cells := 0, slots := 0, locals := 0 } : Room).cells ({ frames := 0, cells := 0, slots := 0, locals := 0 } : Room).slots) := by
  refine MetFree.of_bodySF (plainFor_of_name pn_1) hisR ?_
  intro p e s m args below meth c s₁ Bd hml0 hP hK
  obtain ⟨rfl, hZ, hh⟩ := hP
  have hx := Bd.exec
  have hby := Bd.bytes
  have hml : c.maxLocals = 5 := hml0
  have hown : s.vm.findClass "com/example/parley/parley/sentence/WordLength" = some m.cls := findClass_of_methodNamed Bd.named
  have hnm := (name_of_methodNamed Bd.named Bd.method).1
  have X0 : Stand p l e ({ frames := 0, cells := 0, slots := 0, locals := 0 } : Room) s m #[(.ref a1), (.int (3 : Int32))] below meth c s₁ [] 0 0 := Stand.of_body Bd
  have e0 : s₁.heap = h0 := by rw [← hh, Bd.state]; rfl
  have N0 := Fr.nil n0
  obtain ⟨G, hG⟩ : ∃ G : State → Prop, G = OwnG p e below s ({ frames := 0, cells := 0, slots := 0, locals := 0 } : Room).cells ({ frames := 0, cells := 0, slots := 0, locals := 0 } : Room).slots (Q1n3 Z a1 k w0 w1 w2 w3 w4 h0 n0) := ⟨_, rfl⟩
  have go : ∀ {A B : State}, (∀ t, Steps p.tables e below A t → Steps p.tables e below B t) → G A → G B := fun h k => by rw [hG] at k ⊢; exact OwnG.go h k
  suffices k0 : G (s₁.setTop (mkF m 0 #[.val (.ref a1), .val (.int (3 : Int32)), .unset, .unset, .unset] [])) by
    rw [hG] at k0; exact OwnG.go (fun t k => castTop (ef_rm1n3 m a1) k) k0
  refine go (fun _ k => XS.aloadN X0.here hx rfl (hb hby d1_0) rfl rfl k) ?_
  show G (s₁.setTop (mkF m 1 #[.val (.ref a1), .val (.int (3 : Int32)), .unset, .unset, .unset] [(.ref a1)]))
  refine go (fun _ k => XS.iconst X0.here hx rfl (hb hby d1_1) k) ?_
  show G (s₁.setTop (mkF m 2 #[.val (.ref a1), .val (.int (3 : Int32)), .unset, .unset, .unset] [(.int (0 : Int32)), (.ref a1)]))
  obtain ⟨cl1, Ar1, qk1, qs1, qn1, qh1, qg1⟩ := id VA
  refine go (X0.baloadBytes hx (j := (0 : Int32)) (v := (.int w0)) (by rw [e0]; exact Ar1.1) (State.isArrayOf_alike hZ.alike Ar1.2.1) Ar1.2.2 (inb_of qs1 ⟨by decide, by decide⟩) (Has.at qh1 (inb_of qs1 ⟨by decide, by decide⟩) rfl) (g := (mkF m 2 #[.val (.ref a1), .val (.int (3 : Int32)), .unset, .unset, .unset] [(.int (0 : Int32)), (.ref a1)])) rfl rfl (hb hby d1_2)) ?_
  show G (s₁.setTop (mkF m 3 #[.val (.ref a1), .val (.int (3 : Int32)), .unset, .unset, .unset] [(.int w0)]))
  refine go (fun _ k => XS.sipush X0.here hx rfl (hb hby d1_3) k) ?_
  show G (s₁.setTop (mkF m 6 #[.val (.ref a1), .val (.int (3 : Int32)), .unset, .unset, .unset] [(.int (255 : Int32)), (.int w0)]))
  refine go (fun _ k => XS.iloadN X0.here hx rfl (hb hby d1_6) rfl k) ?_
  show G (s₁.setTop (mkF m 7 #[.val (.ref a1), .val (.int (3 : Int32)), .unset, .unset, .unset] [(.int (3 : Int32)), (.int (255 : Int32)), (.int w0)]))
  refine go (fun _ k => XS.iushr X0.here hx rfl (hb hby d1_7) rfl k) ?_
  show G (s₁.setTop (mkF m 8 #[.val (.ref a1), .val (.int (3 : Int32)), .unset, .unset, .unset] [(.int (((255 : Int32).toUInt32 >>> ((3 : Int32) &&& 31).toUInt32).toInt32)), (.int w0)]))
  refine go (fun _ k => XS.iand X0.here hx rfl (hb hby d1_8) rfl k) ?_
  show G (s₁.setTop (mkF m 9 #[.val (.ref a1), .val (.int (3 : Int32)), .unset, .unset, .unset] [(.int (w0 &&& (((255 : Int32).toUInt32 >>> ((3 : Int32) &&& 31).toUInt32).toInt32)))]))
  refine go (fun _ k => XS.i2l X0.here hx rfl (hb hby d1_9) rfl k) ?_
  show G (s₁.setTop (mkF m 10 #[.val (.ref a1), .val (.int (3 : Int32)), .unset, .unset, .unset] [(.long ((w0 &&& (((255 : Int32).toUInt32 >>> ((3 : Int32) &&& 31).toUInt32).toInt32)).toInt64))]))
  refine go (fun _ k => XS.lstoreN X0.here hx rfl (hb hby d1_10) rfl (l' := #[.val (.ref a1), .val (.int (3 : Int32)), .val (.long ((w0 &&& (((255 : Int32).toUInt32 >>> ((3 : Int32) &&& 31).toUInt32).toInt32)).toInt64)), .second, .unset]) rfl k) ?_
  show G (s₁.setTop (mkF m 11 #[.val (.ref a1), .val (.int (3 : Int32)), .val (.long ((w0 &&& (((255 : Int32).toUInt32 >>> ((3 : Int32) &&& 31).toUInt32).toInt32)).toInt64)), .second, .unset] []))
  refine go (fun _ k => XS.iconst X0.here hx rfl (hb hby d1_11) k) ?_
  show G (s₁.setTop (mkF m 12 #[.val (.ref a1), .val (.int (3 : Int32)), .val (.long ((w0 &&& (((255 : Int32).toUInt32 >>> ((3 : Int32) &&& 31).toUInt32).toInt32)).toInt64)), .second, .unset] [(.int (1 : Int32))]))
  refine go (fun _ k => XS.istore X0.here hx rfl (hb hby d1_12) rfl (l' := #[.val (.ref a1), .val (.int (3 : Int32)), .val (.long ((w0 &&& (((255 : Int32).toUInt32 >>> ((3 : Int32) &&& 31).toUInt32).toInt32)).toInt64)), .second, .val (.int (1 : Int32))]) rfl k) ?_
  show G (s₁.setTop (mkF m 14 #[.val (.ref a1), .val (.int (3 : Int32)), .val (.long ((w0 &&& (((255 : Int32).toUInt32 >>> ((3 : Int32) &&& 31).toUInt32).toInt32)).toInt64)), .second, .val (.int (1 : Int32))] []))
  refine go (fun _ k => XS.iload X0.here hx rfl (hb hby d1_14) rfl k) ?_
  show G (s₁.setTop (mkF m 16 #[.val (.ref a1), .val (.int (3 : Int32)), .val (.long ((w0 &&& (((255 : Int32).toUInt32 >>> ((3 : Int32) &&& 31).toUInt32).toInt32)).toInt64)), .second, .val (.int (1 : Int32))] [(.int (1 : Int32))]))
  refine go (fun _ k => XS.iloadN X0.here hx rfl (hb hby d1_16) rfl k) ?_
  show G (s₁.setTop (mkF m 17 #[.val (.ref a1), .val (.int (3 : Int32)), .val (.long ((w0 &&& (((255 : Int32).toUInt32 >>> ((3 : Int32) &&& 31).toUInt32).toInt32)).toInt64)), .second, .val (.int (1 : Int32))] [(.int (3 : Int32)), (.int (1 : Int32))]))
  have hc2 : (1 : Int32) < (3 : Int32) := (by decide)
  refine go (fun _ k => XS.icmpNo X0.here hx rfl (hb hby d1_17) rfl (tlt hc2).2.1 k) ?_
  show G (s₁.setTop (mkF m 20 #[.val (.ref a1), .val (.int (3 : Int32)), .val (.long ((w0 &&& (((255 : Int32).toUInt32 >>> ((3 : Int32) &&& 31).toUInt32).toInt32)).toInt64)), .second, .val (.int (1 : Int32))] []))
  refine go (fun _ k => XS.lloadN X0.here hx rfl (hb hby d1_20) rfl k) ?_
  show G (s₁.setTop (mkF m 21 #[.val (.ref a1), .val (.int (3 : Int32)), .val (.long ((w0 &&& (((255 : Int32).toUInt32 >>> ((3 : Int32) &&& 31).toUInt32).toInt32)).toInt64)), .second, .val (.int (1 : Int32))] [(.long ((w0 &&& (((255 : Int32).toUInt32 >>> ((3 : Int32) &&& 31).toUInt32).toInt32)).toInt64))]))
  refine go (fun _ k => XS.bipush X0.here hx rfl (hb hby d1_21) k) ?_
  show G (s₁.setTop (mkF m 23 #[.val (.ref a1), .val (.int (3 : Int32)), .val (.long ((w0 &&& (((255 : Int32).toUInt32 >>> ((3 : Int32) &&& 31).toUInt32).toInt32)).toInt64)), .second, .val (.int (1 : Int32))] [(.int (8 : Int32)), (.long ((w0 &&& (((255 : Int32).toUInt32 >>> ((3 : Int32) &&& 31).toUInt32).toInt32)).toInt64))]))
  refine go (fun _ k => XS.lshl X0.here hx rfl (hb hby d1_23) rfl k) ?_
  show G (s₁.setTop (mkF m 24 #[.val (.ref a1), .val (.int (3 : Int32)), .val (.long ((w0 &&& (((255 : Int32).toUInt32 >>> ((3 : Int32) &&& 31).toUInt32).toInt32)).toInt64)), .second, .val (.int (1 : Int32))] [(.long (((w0 &&& (((255 : Int32).toUInt32 >>> ((3 : Int32) &&& 31).toUInt32).toInt32)).toInt64) <<< ((8 : Int32) &&& 0x3f).toInt64))]))
  refine go (fun _ k => XS.aloadN X0.here hx rfl (hb hby d1_24) rfl rfl k) ?_
  show G (s₁.setTop (mkF m 25 #[.val (.ref a1), .val (.int (3 : Int32)), .val (.long ((w0 &&& (((255 : Int32).toUInt32 >>> ((3 : Int32) &&& 31).toUInt32).toInt32)).toInt64)), .second, .val (.int (1 : Int32))] [(.ref a1), (.long (((w0 &&& (((255 : Int32).toUInt32 >>> ((3 : Int32) &&& 31).toUInt32).toInt32)).toInt64) <<< ((8 : Int32) &&& 0x3f).toInt64))]))
  refine go (fun _ k => XS.iload X0.here hx rfl (hb hby d1_25) rfl k) ?_
  show G (s₁.setTop (mkF m 27 #[.val (.ref a1), .val (.int (3 : Int32)), .val (.long ((w0 &&& (((255 : Int32).toUInt32 >>> ((3 : Int32) &&& 31).toUInt32).toInt32)).toInt64)), .second, .val (.int (1 : Int32))] [(.int (1 : Int32)), (.ref a1), (.long (((w0 &&& (((255 : Int32).toUInt32 >>> ((3 : Int32) &&& 31).toUInt32).toInt32)).toInt64) <<< ((8 : Int32) &&& 0x3f).toInt64))]))
  obtain ⟨cl3, Ar3, qk3, qs3, qn3, qh3, qg3⟩ := id VA
  refine go (X0.baloadBytes hx (j := (1 : Int32)) (v := (.int w1)) (by rw [e0]; exact Ar3.1) (State.isArrayOf_alike hZ.alike Ar3.2.1) Ar3.2.2 (inb_of qs3 ⟨by decide, by decide⟩) (Has.at qh3 (inb_of qs3 ⟨by decide, by decide⟩) rfl) (g := (mkF m 27 #[.val (.ref a1), .val (.int (3 : Int32)), .val (.long ((w0 &&& (((255 : Int32).toUInt32 >>> ((3 : Int32) &&& 31).toUInt32).toInt32)).toInt64)), .second, .val (.int (1 : Int32))] [(.int (1 : Int32)), (.ref a1), (.long (((w0 &&& (((255 : Int32).toUInt32 >>> ((3 : Int32) &&& 31).toUInt32).toInt32)).toInt64) <<< ((8 : Int32) &&& 0x3f).toInt64))])) rfl rfl (hb hby d1_27)) ?_
  show G (s₁.setTop (mkF m 28 #[.val (.ref a1), .val (.int (3 : Int32)), .val (.long ((w0 &&& (((255 : Int32).toUInt32 >>> ((3 : Int32) &&& 31).toUInt32).toInt32)).toInt64)), .second, .val (.int (1 : Int32))] [(.int w1), (.long (((w0 &&& (((255 : Int32).toUInt32 >>> ((3 : Int32) &&& 31).toUInt32).toInt32)).toInt64) <<< ((8 : Int32) &&& 0x3f).toInt64))]))
  refine go (fun _ k => XS.sipush X0.here hx rfl (hb hby d1_28) k) ?_
  show G (s₁.setTop (mkF m 31 #[.val (.ref a1), .val (.int (3 : Int32)), .val (.long ((w0 &&& (((255 : Int32).toUInt32 >>> ((3 : Int32) &&& 31).toUInt32).toInt32)).toInt64)), .second, .val (.int (1 : Int32))] [(.int (255 : Int32)), (.int w1), (.long (((w0 &&& (((255 : Int32).toUInt32 >>> ((3 : Int32) &&& 31).toUInt32).toInt32)).toInt64) <<< ((8 : Int32) &&& 0x3f).toInt64))]))
  refine go (fun _ k => XS.iand X0.here hx rfl (hb hby d1_31) rfl k) ?_
  show G (s₁.setTop (mkF m 32 #[.val (.ref a1), .val (.int (3 : Int32)), .val (.long ((w0 &&& (((255 : Int32).toUInt32 >>> ((3 : Int32) &&& 31).toUInt32).toInt32)).toInt64)), .second, .val (.int (1 : Int32))] [(.int (w1 &&& (255 : Int32))), (.long (((w0 &&& (((255 : Int32).toUInt32 >>> ((3 : Int32) &&& 31).toUInt32).toInt32)).toInt64) <<< ((8 : Int32) &&& 0x3f).toInt64))]))
  refine go (fun _ k => XS.i2l X0.here hx rfl (hb hby d1_32) rfl k) ?_
  show G (s₁.setTop (mkF m 33 #[.val (.ref a1), .val (.int (3 : Int32)), .val (.long ((w0 &&& (((255 : Int32).toUInt32 >>> ((3 : Int32) &&& 31).toUInt32).toInt32)).toInt64)), .second, .val (.int (1 : Int32))] [(.long ((w1 &&& (255 : Int32)).toInt64)), (.long (((w0 &&& (((255 : Int32).toUInt32 >>> ((3 : Int32) &&& 31).toUInt32).toInt32)).toInt64) <<< ((8 : Int32) &&& 0x3f).toInt64))]))
  refine go (fun _ k => XS.lor X0.here hx rfl (hb hby d1_33) rfl k) ?_
  show G (s₁.setTop (mkF m 34 #[.val (.ref a1), .val (.int (3 : Int32)), .val (.long ((w0 &&& (((255 : Int32).toUInt32 >>> ((3 : Int32) &&& 31).toUInt32).toInt32)).toInt64)), .second, .val (.int (1 : Int32))] [(.long ((((w0 &&& (((255 : Int32).toUInt32 >>> ((3 : Int32) &&& 31).toUInt32).toInt32)).toInt64) <<< ((8 : Int32) &&& 0x3f).toInt64) ||| ((w1 &&& (255 : Int32)).toInt64)))]))
  refine go (fun _ k => XS.lstoreN X0.here hx rfl (hb hby d1_34) rfl (l' := #[.val (.ref a1), .val (.int (3 : Int32)), .val (.long ((((w0 &&& (((255 : Int32).toUInt32 >>> ((3 : Int32) &&& 31).toUInt32).toInt32)).toInt64) <<< ((8 : Int32) &&& 0x3f).toInt64) ||| ((w1 &&& (255 : Int32)).toInt64))), .second, .val (.int (1 : Int32))]) rfl k) ?_
  show G (s₁.setTop (mkF m 35 #[.val (.ref a1), .val (.int (3 : Int32)), .val (.long ((((w0 &&& (((255 : Int32).toUInt32 >>> ((3 : Int32) &&& 31).toUInt32).toInt32)).toInt64) <<< ((8 : Int32) &&& 0x3f).toInt64) ||| ((w1 &&& (255 : Int32)).toInt64))), .second, .val (.int (1 : Int32))] []))
  refine go (fun _ k => XS.iinc X0.here hx rfl (hb hby d1_35) rfl (l' := #[.val (.ref a1), .val (.int (3 : Int32)), .val (.long ((((w0 &&& (((255 : Int32).toUInt32 >>> ((3 : Int32) &&& 31).toUInt32).toInt32)).toInt64) <<< ((8 : Int32) &&& 0x3f).toInt64) ||| ((w1 &&& (255 : Int32)).toInt64))), .second, .val (.int ((1 : Int32) + (1 : Int32)))]) rfl k) ?_
  show G (s₁.setTop (mkF m 38 #[.val (.ref a1), .val (.int (3 : Int32)), .val (.long ((((w0 &&& (((255 : Int32).toUInt32 >>> ((3 : Int32) &&& 31).toUInt32).toInt32)).toInt64) <<< ((8 : Int32) &&& 0x3f).toInt64) ||| ((w1 &&& (255 : Int32)).toInt64))), .second, .val (.int ((1 : Int32) + (1 : Int32)))] []))
  rw [show ((1 : Int32) + (1 : Int32) : Int32) = (2 : Int32) from by decide]
  show G (s₁.setTop (mkF m 38 #[.val (.ref a1), .val (.int (3 : Int32)), .val (.long ((((w0 &&& (((255 : Int32).toUInt32 >>> ((3 : Int32) &&& 31).toUInt32).toInt32)).toInt64) <<< ((8 : Int32) &&& 0x3f).toInt64) ||| ((w1 &&& (255 : Int32)).toInt64))), .second, .val (.int (2 : Int32))] []))
  refine go (fun _ k => XS.goto X0.here hx rfl (pc0 := 38) (pc' := 14) rfl (hb hby d1_38) (by decide) (by decide) k) ?_
  show G (s₁.setTop (mkF m 14 #[.val (.ref a1), .val (.int (3 : Int32)), .val (.long ((((w0 &&& (((255 : Int32).toUInt32 >>> ((3 : Int32) &&& 31).toUInt32).toInt32)).toInt64) <<< ((8 : Int32) &&& 0x3f).toInt64) ||| ((w1 &&& (255 : Int32)).toInt64))), .second, .val (.int (2 : Int32))] []))
  refine go (fun _ k => XS.iload X0.here hx rfl (hb hby d1_14) rfl k) ?_
  show G (s₁.setTop (mkF m 16 #[.val (.ref a1), .val (.int (3 : Int32)), .val (.long ((((w0 &&& (((255 : Int32).toUInt32 >>> ((3 : Int32) &&& 31).toUInt32).toInt32)).toInt64) <<< ((8 : Int32) &&& 0x3f).toInt64) ||| ((w1 &&& (255 : Int32)).toInt64))), .second, .val (.int (2 : Int32))] [(.int (2 : Int32))]))
  refine go (fun _ k => XS.iloadN X0.here hx rfl (hb hby d1_16) rfl k) ?_
  show G (s₁.setTop (mkF m 17 #[.val (.ref a1), .val (.int (3 : Int32)), .val (.long ((((w0 &&& (((255 : Int32).toUInt32 >>> ((3 : Int32) &&& 31).toUInt32).toInt32)).toInt64) <<< ((8 : Int32) &&& 0x3f).toInt64) ||| ((w1 &&& (255 : Int32)).toInt64))), .second, .val (.int (2 : Int32))] [(.int (3 : Int32)), (.int (2 : Int32))]))
  have hc4 : (2 : Int32) < (3 : Int32) := (by decide)
  refine go (fun _ k => XS.icmpNo X0.here hx rfl (hb hby d1_17) rfl (tlt hc4).2.1 k) ?_
  show G (s₁.setTop (mkF m 20 #[.val (.ref a1), .val (.int (3 : Int32)), .val (.long ((((w0 &&& (((255 : Int32).toUInt32 >>> ((3 : Int32) &&& 31).toUInt32).toInt32)).toInt64) <<< ((8 : Int32) &&& 0x3f).toInt64) ||| ((w1 &&& (255 : Int32)).toInt64))), .second, .val (.int (2 : Int32))] []))
  refine go (fun _ k => XS.lloadN X0.here hx rfl (hb hby d1_20) rfl k) ?_
  show G (s₁.setTop (mkF m 21 #[.val (.ref a1), .val (.int (3 : Int32)), .val (.long ((((w0 &&& (((255 : Int32).toUInt32 >>> ((3 : Int32) &&& 31).toUInt32).toInt32)).toInt64) <<< ((8 : Int32) &&& 0x3f).toInt64) ||| ((w1 &&& (255 : Int32)).toInt64))), .second, .val (.int (2 : Int32))] [(.long ((((w0 &&& (((255 : Int32).toUInt32 >>> ((3 : Int32) &&& 31).toUInt32).toInt32)).toInt64) <<< ((8 : Int32) &&& 0x3f).toInt64) ||| ((w1 &&& (255 : Int32)).toInt64)))]))
  refine go (fun _ k => XS.bipush X0.here hx rfl (hb hby d1_21) k) ?_
  show G (s₁.setTop (mkF m 23 #[.val (.ref a1), .val (.int (3 : Int32)), .val (.long ((((w0 &&& (((255 : Int32).toUInt32 >>> ((3 : Int32) &&& 31).toUInt32).toInt32)).toInt64) <<< ((8 : Int32) &&& 0x3f).toInt64) ||| ((w1 &&& (255 : Int32)).toInt64))), .second, .val (.int (2 : Int32))] [(.int (8 : Int32)), (.long ((((w0 &&& (((255 : Int32).toUInt32 >>> ((3 : Int32) &&& 31).toUInt32).toInt32)).toInt64) <<< ((8 : Int32) &&& 0x3f).toInt64) ||| ((w1 &&& (255 : Int32)).toInt64)))]))
  refine go (fun _ k => XS.lshl X0.here hx rfl (hb hby d1_23) rfl k) ?_
  show G (s₁.setTop (mkF m 24 #[.val (.ref a1), .val (.int (3 : Int32)), .val (.long ((((w0 &&& (((255 : Int32).toUInt32 >>> ((3 : Int32) &&& 31).toUInt32).toInt32)).toInt64) <<< ((8 : Int32) &&& 0x3f).toInt64) ||| ((w1 &&& (255 : Int32)).toInt64))), .second, .val (.int (2 : Int32))] [(.long (((((w0 &&& (((255 : Int32).toUInt32 >>> ((3 : Int32) &&& 31).toUInt32).toInt32)).toInt64) <<< ((8 : Int32) &&& 0x3f).toInt64) ||| ((w1 &&& (255 : Int32)).toInt64)) <<< ((8 : Int32) &&& 0x3f).toInt64))]))
  refine go (fun _ k => XS.aloadN X0.here hx rfl (hb hby d1_24) rfl rfl k) ?_
  show G (s₁.setTop (mkF m 25 #[.val (.ref a1), .val (.int (3 : Int32)), .val (.long ((((w0 &&& (((255 : Int32).toUInt32 >>> ((3 : Int32) &&& 31).toUInt32).toInt32)).toInt64) <<< ((8 : Int32) &&& 0x3f).toInt64) ||| ((w1 &&& (255 : Int32)).toInt64))), .second, .val (.int (2 : Int32))] [(.ref a1), (.long (((((w0 &&& (((255 : Int32).toUInt32 >>> ((3 : Int32) &&& 31).toUInt32).toInt32)).toInt64) <<< ((8 : Int32) &&& 0x3f).toInt64) ||| ((w1 &&& (255 : Int32)).toInt64)) <<< ((8 : Int32) &&& 0x3f).toInt64))]))
  refine go (fun _ k => XS.iload X0.here hx rfl (hb hby d1_25) rfl k) ?_
  show G (s₁.setTop (mkF m 27 #[.val (.ref a1), .val (.int (3 : Int32)), .val (.long ((((w0 &&& (((255 : Int32).toUInt32 >>> ((3 : Int32) &&& 31).toUInt32).toInt32)).toInt64) <<< ((8 : Int32) &&& 0x3f).toInt64) ||| ((w1 &&& (255 : Int32)).toInt64))), .second, .val (.int (2 : Int32))] [(.int (2 : Int32)), (.ref a1), (.long (((((w0 &&& (((255 : Int32).toUInt32 >>> ((3 : Int32) &&& 31).toUInt32).toInt32)).toInt64) <<< ((8 : Int32) &&& 0x3f).toInt64) ||| ((w1 &&& (255 : Int32)).toInt64)) <<< ((8 : Int32) &&& 0x3f).toInt64))]))
  obtain ⟨cl5, Ar5, qk5, qs5, qn5, qh5, qg5⟩ := id VA
  refine go (X0.baloadBytes hx (j := (2 : Int32)) (v := (.int w2)) (by rw [e0]; exact Ar5.1) (State.isArrayOf_alike hZ.alike Ar5.2.1) Ar5.2.2 (inb_of qs5 ⟨by decide, by decide⟩) (Has.at qh5 (inb_of qs5 ⟨by decide, by decide⟩) rfl) (g := (mkF m 27 #[.val (.ref a1), .val (.int (3 : Int32)), .val (.long ((((w0 &&& (((255 : Int32).toUInt32 >>> ((3 : Int32) &&& 31).toUInt32).toInt32)).toInt64) <<< ((8 : Int32) &&& 0x3f).toInt64) ||| ((w1 &&& (255 : Int32)).toInt64))), .second, .val (.int (2 : Int32))] [(.int (2 : Int32)), (.ref a1), (.long (((((w0 &&& (((255 : Int32).toUInt32 >>> ((3 : Int32) &&& 31).toUInt32).toInt32)).toInt64) <<< ((8 : Int32) &&& 0x3f).toInt64) ||| ((w1 &&& (255 : Int32)).toInt64)) <<< ((8 : Int32) &&& 0x3f).toInt64))])) rfl rfl (hb hby d1_27)) ?_
  show G (s₁.setTop (mkF m 28 #[.val (.ref a1), .val (.int (3 : Int32)), .val (.long ((((w0 &&& (((255 : Int32).toUInt32 >>> ((3 : Int32) &&& 31).toUInt32).toInt32)).toInt64) <<< ((8 : Int32) &&& 0x3f).toInt64) ||| ((w1 &&& (255 : Int32)).toInt64))), .second, .val (.int (2 : Int32))] [(.int w2), (.long (((((w0 &&& (((255 : Int32).toUInt32 >>> ((3 : Int32) &&& 31).toUInt32).toInt32)).toInt64) <<< ((8 : Int32) &&& 0x3f).toInt64) ||| ((w1 &&& (255 : Int32)).toInt64)) <<< ((8 : Int32) &&& 0x3f).toInt64))]))
  refine go (fun _ k => XS.sipush X0.here hx rfl (hb hby d1_28) k) ?_
  show G (s₁.setTop (mkF m 31 #[.val (.ref a1), .val (.int (3 : Int32)), .val (.long ((((w0 &&& (((255 : Int32).toUInt32 >>> ((3 : Int32) &&& 31).toUInt32).toInt32)).toInt64) <<< ((8 : Int32) &&& 0x3f).toInt64) ||| ((w1 &&& (255 : Int32)).toInt64))), .second, .val (.int (2 : Int32))] [(.int (255 : Int32)), (.int w2), (.long (((((w0 &&& (((255 : Int32).toUInt32 >>> ((3 : Int32) &&& 31).toUInt32).toInt32)).toInt64) <<< ((8 : Int32) &&& 0x3f).toInt64) ||| ((w1 &&& (255 : Int32)).toInt64)) <<< ((8 : Int32) &&& 0x3f).toInt64))]))
  refine go (fun _ k => XS.iand X0.here hx rfl (hb hby d1_31) rfl k) ?_
  show G (s₁.setTop (mkF m 32 #[.val (.ref a1), .val (.int (3 : Int32)), .val (.long ((((w0 &&& (((255 : Int32).toUInt32 >>> ((3 : Int32) &&& 31).toUInt32).toInt32)).toInt64) <<< ((8 : Int32) &&& 0x3f).toInt64) ||| ((w1 &&& (255 : Int32)).toInt64))), .second, .val (.int (2 : Int32))] [(.int (w2 &&& (255 : Int32))), (.long (((((w0 &&& (((255 : Int32).toUInt32 >>> ((3 : Int32) &&& 31).toUInt32).toInt32)).toInt64) <<< ((8 : Int32) &&& 0x3f).toInt64) ||| ((w1 &&& (255 : Int32)).toInt64)) <<< ((8 : Int32) &&& 0x3f).toInt64))]))
  refine go (fun _ k => XS.i2l X0.here hx rfl (hb hby d1_32) rfl k) ?_
  show G (s₁.setTop (mkF m 33 #[.val (.ref a1), .val (.int (3 : Int32)), .val (.long ((((w0 &&& (((255 : Int32).toUInt32 >>> ((3 : Int32) &&& 31).toUInt32).toInt32)).toInt64) <<< ((8 : Int32) &&& 0x3f).toInt64) ||| ((w1 &&& (255 : Int32)).toInt64))), .second, .val (.int (2 : Int32))] [(.long ((w2 &&& (255 : Int32)).toInt64)), (.long (((((w0 &&& (((255 : Int32).toUInt32 >>> ((3 : Int32) &&& 31).toUInt32).toInt32)).toInt64) <<< ((8 : Int32) &&& 0x3f).toInt64) ||| ((w1 &&& (255 : Int32)).toInt64)) <<< ((8 : Int32) &&& 0x3f).toInt64))]))
  refine go (fun _ k => XS.lor X0.here hx rfl (hb hby d1_33) rfl k) ?_
  show G (s₁.setTop (mkF m 34 #[.val (.ref a1), .val (.int (3 : Int32)), .val (.long ((((w0 &&& (((255 : Int32).toUInt32 >>> ((3 : Int32) &&& 31).toUInt32).toInt32)).toInt64) <<< ((8 : Int32) &&& 0x3f).toInt64) ||| ((w1 &&& (255 : Int32)).toInt64))), .second, .val (.int (2 : Int32))] [(.long ((((((w0 &&& (((255 : Int32).toUInt32 >>> ((3 : Int32) &&& 31).toUInt32).toInt32)).toInt64) <<< ((8 : Int32) &&& 0x3f).toInt64) ||| ((w1 &&& (255 : Int32)).toInt64)) <<< ((8 : Int32) &&& 0x3f).toInt64) ||| ((w2 &&& (255 : Int32)).toInt64)))]))
  refine go (fun _ k => XS.lstoreN X0.here hx rfl (hb hby d1_34) rfl (l' := #[.val (.ref a1), .val (.int (3 : Int32)), .val (.long ((((((w0 &&& (((255 : Int32).toUInt32 >>> ((3 : Int32) &&& 31).toUInt32).toInt32)).toInt64) <<< ((8 : Int32) &&& 0x3f).toInt64) ||| ((w1 &&& (255 : Int32)).toInt64)) <<< ((8 : Int32) &&& 0x3f).toInt64) ||| ((w2 &&& (255 : Int32)).toInt64))), .second, .val (.int (2 : Int32))]) rfl k) ?_
  show G (s₁.setTop (mkF m 35 #[.val (.ref a1), .val (.int (3 : Int32)), .val (.long ((((((w0 &&& (((255 : Int32).toUInt32 >>> ((3 : Int32) &&& 31).toUInt32).toInt32)).toInt64) <<< ((8 : Int32) &&& 0x3f).toInt64) ||| ((w1 &&& (255 : Int32)).toInt64)) <<< ((8 : Int32) &&& 0x3f).toInt64) ||| ((w2 &&& (255 : Int32)).toInt64))), .second, .val (.int (2 : Int32))] []))
  refine go (fun _ k => XS.iinc X0.here hx rfl (hb hby d1_35) rfl (l' := #[.val (.ref a1), .val (.int (3 : Int32)), .val (.long ((((((w0 &&& (((255 : Int32).toUInt32 >>> ((3 : Int32) &&& 31).toUInt32).toInt32)).toInt64) <<< ((8 : Int32) &&& 0x3f).toInt64) ||| ((w1 &&& (255 : Int32)).toInt64)) <<< ((8 : Int32) &&& 0x3f).toInt64) ||| ((w2 &&& (255 : Int32)).toInt64))), .second, .val (.int ((2 : Int32) + (1 : Int32)))]) rfl k) ?_
  show G (s₁.setTop (mkF m 38 #[.val (.ref a1), .val (.int (3 : Int32)), .val (.long ((((((w0 &&& (((255 : Int32).toUInt32 >>> ((3 : Int32) &&& 31).toUInt32).toInt32)).toInt64) <<< ((8 : Int32) &&& 0x3f).toInt64) ||| ((w1 &&& (255 : Int32)).toInt64)) <<< ((8 : Int32) &&& 0x3f).toInt64) ||| ((w2 &&& (255 : Int32)).toInt64))), .second, .val (.int ((2 : Int32) + (1 : Int32)))] []))
  rw [show ((2 : Int32) + (1 : Int32) : Int32) = (3 : Int32) from by decide]
  show G (s₁.setTop (mkF m 38 #[.val (.ref a1), .val (.int (3 : Int32)), .val (.long ((((((w0 &&& (((255 : Int32).toUInt32 >>> ((3 : Int32) &&& 31).toUInt32).toInt32)).toInt64) <<< ((8 : Int32) &&& 0x3f).toInt64) ||| ((w1 &&& (255 : Int32)).toInt64)) <<< ((8 : Int32) &&& 0x3f).toInt64) ||| ((w2 &&& (255 : Int32)).toInt64))), .second, .val (.int (3 : Int32))] []))
  refine go (fun _ k => XS.goto X0.here hx rfl (pc0 := 38) (pc' := 14) rfl (hb hby d1_38) (by decide) (by decide) k) ?_
  show G (s₁.setTop (mkF m 14 #[.val (.ref a1), .val (.int (3 : Int32)), .val (.long ((((((w0 &&& (((255 : Int32).toUInt32 >>> ((3 : Int32) &&& 31).toUInt32).toInt32)).toInt64) <<< ((8 : Int32) &&& 0x3f).toInt64) ||| ((w1 &&& (255 : Int32)).toInt64)) <<< ((8 : Int32) &&& 0x3f).toInt64) ||| ((w2 &&& (255 : Int32)).toInt64))), .second, .val (.int (3 : Int32))] []))
  refine go (fun _ k => XS.iload X0.here hx rfl (hb hby d1_14) rfl k) ?_
  show G (s₁.setTop (mkF m 16 #[.val (.ref a1), .val (.int (3 : Int32)), .val (.long ((((((w0 &&& (((255 : Int32).toUInt32 >>> ((3 : Int32) &&& 31).toUInt32).toInt32)).toInt64) <<< ((8 : Int32) &&& 0x3f).toInt64) ||| ((w1 &&& (255 : Int32)).toInt64)) <<< ((8 : Int32) &&& 0x3f).toInt64) ||| ((w2 &&& (255 : Int32)).toInt64))), .second, .val (.int (3 : Int32))] [(.int (3 : Int32))]))
  refine go (fun _ k => XS.iloadN X0.here hx rfl (hb hby d1_16) rfl k) ?_
  show G (s₁.setTop (mkF m 17 #[.val (.ref a1), .val (.int (3 : Int32)), .val (.long ((((((w0 &&& (((255 : Int32).toUInt32 >>> ((3 : Int32) &&& 31).toUInt32).toInt32)).toInt64) <<< ((8 : Int32) &&& 0x3f).toInt64) ||| ((w1 &&& (255 : Int32)).toInt64)) <<< ((8 : Int32) &&& 0x3f).toInt64) ||| ((w2 &&& (255 : Int32)).toInt64))), .second, .val (.int (3 : Int32))] [(.int (3 : Int32)), (.int (3 : Int32))]))
  have hc6 : ¬ ((3 : Int32) < (3 : Int32)) := (by decide)
  refine go (fun _ k => XS.icmpYes X0.here hx rfl (pc0 := 17) (pc' := 41) rfl (hb hby d1_17) rfl (flt hc6).2.1 (by decide) (by decide) k) ?_
  show G (s₁.setTop (mkF m 41 #[.val (.ref a1), .val (.int (3 : Int32)), .val (.long ((((((w0 &&& (((255 : Int32).toUInt32 >>> ((3 : Int32) &&& 31).toUInt32).toInt32)).toInt64) <<< ((8 : Int32) &&& 0x3f).toInt64) ||| ((w1 &&& (255 : Int32)).toInt64)) <<< ((8 : Int32) &&& 0x3f).toInt64) ||| ((w2 &&& (255 : Int32)).toInt64))), .second, .val (.int (3 : Int32))] []))
  refine go (fun _ k => XS.lloadN X0.here hx rfl (hb hby d1_41) rfl k) ?_
  show G (s₁.setTop (mkF m 42 #[.val (.ref a1), .val (.int (3 : Int32)), .val (.long ((((((w0 &&& (((255 : Int32).toUInt32 >>> ((3 : Int32) &&& 31).toUInt32).toInt32)).toInt64) <<< ((8 : Int32) &&& 0x3f).toInt64) ||| ((w1 &&& (255 : Int32)).toInt64)) <<< ((8 : Int32) &&& 0x3f).toInt64) ||| ((w2 &&& (255 : Int32)).toInt64))), .second, .val (.int (3 : Int32))] [(.long ((((((w0 &&& (((255 : Int32).toUInt32 >>> ((3 : Int32) &&& 31).toUInt32).toInt32)).toInt64) <<< ((8 : Int32) &&& 0x3f).toInt64) ||| ((w1 &&& (255 : Int32)).toInt64)) <<< ((8 : Int32) &&& 0x3f).toInt64) ||| ((w2 &&& (255 : Int32)).toInt64)))]))
  rw [hG]
  refine own_fin X0 Bd.notSynchronized (v := some (.long ((((((w0 &&& (((255 : Int32).toUInt32 >>> ((3 : Int32) &&& 31).toUInt32).toInt32)).toInt64) <<< ((8 : Int32) &&& 0x3f).toInt64) ||| ((w1 &&& (255 : Int32)).toInt64)) <<< ((8 : Int32) &&& 0x3f).toInt64) ||| ((w2 &&& (255 : Int32)).toInt64)))) (fun h => by rw [Bd.returns] at h; cases h) (fun fs hr => retOut X0 hx Bd.returns rfl (by simp [FieldType.isReference, Value.isRef]) (hb hby d1_42) hr) ?_ (by decide) (by decide)
  show Q1n3 Z a1 k w0 w1 w2 w3 w4 h0 n0 (some (.long ((((((w0 &&& (((255 : Int32).toUInt32 >>> ((3 : Int32) &&& 31).toUInt32).toInt32)).toInt64) <<< ((8 : Int32) &&& 0x3f).toInt64) ||| ((w1 &&& (255 : Int32)).toInt64)) <<< ((8 : Int32) &&& 0x3f).toInt64) ||| ((w2 &&& (255 : Int32)).toInt64)))) s₁.heap _
  rw [e0]
  exact ⟨rfl, N0, rfl⟩

theorem ef_rm1n4 (m : MethodId) (a1 : Addr) : entryFrame m #[(.ref a1), (.int (4 : Int32))] 5 = mkF m 0 #[.val (.ref a1), .val (.int (4 : Int32)), .unset, .unset, .unset] [] := by first | (simp [entryFrame, mkF, argsToLocals, Value.category]; done) | rfl
def Q1n4 (Z : State) (a1 : Addr) (k : ClassId) (w0 w1 w2 w3 w4 : Int32) (h0 : Heap) (n0 : Nat) (v : Option Value) (h : Heap) (L : List Loc) : Prop := v = some (.long (dS (dS (dS (d0 (4 : Int32) w0) w1) w2) w3)) ∧ Fr n0 L ∧ h = h0
set_option maxRecDepth 65536 in
set_option maxHeartbeats 40000000 in
theorem rm1n4 (l : Launch) (Z : State) (a0 : Array Value) (hw : ∀ d ∈ tables_1, d.before a0 Z = true) (ws : List Jvm.Cond) (a1 : Addr) (k : ClassId) (w0 w1 w2 w3 w4 : Int32) (h0 : Heap) (n0 : Nat) (Z0 : n0 ≤ h0.size) (VA : Arv Z h0 a1 k .byte (5 : Int32) [(.int w0), (.int w1), (.int w2), (.int w3), (.int w4)] (.int (0 : Int32))) :
    MetFree l (⟨"com/example/parley/parley/sentence/WordLength", "decode", "([BI)J"⟩ : MethodName) (head1 (Jvm.Cond.code (⟨"com/example/parley/parley/sentence/WordLength", "decode", "([BI)J"⟩ : MethodName) prog_61_method_4_code 5 (some .long) :: ws) ({ frames := 0, cells := 0, slots := 0, locals := 0 } : Room)) (fun a U => a = #[(.ref a1), (.int (4 : Int32))] ∧ Z.Warmed39 U.vm ∧ U.heap = h0) (fun _ _ _ _ _ => True) (fun _ U o U' => ∃ v L, o = .returned v ∧ Q1n4 Z a1 k w0 w1 w2 w3 w4 h0 n0 v U'.heap L ∧ FrameEnd U o U' L ({ frames := 0, cells := 0, slots := 0, locals := 0 } : Room).cells ({ frames := 0, cells := 0, slots := 0, locals := 0 } : Room).slots) := by
  refine MetFree.of_bodySF (plainFor_of_name pn_1) hisR ?_
  intro p e s m args below meth c s₁ Bd hml0 hP hK
  obtain ⟨rfl, hZ, hh⟩ := hP
  have hx := Bd.exec
  have hby := Bd.bytes
  have hml : c.maxLocals = 5 := hml0
  have hown : s.vm.findClass "com/example/parley/parley/sentence/WordLength" = some m.cls := findClass_of_methodNamed Bd.named
  have hnm := (name_of_methodNamed Bd.named Bd.method).1
  have X0 : Stand p l e ({ frames := 0, cells := 0, slots := 0, locals := 0 } : Room) s m #[(.ref a1), (.int (4 : Int32))] below meth c s₁ [] 0 0 := Stand.of_body Bd
  have e0 : s₁.heap = h0 := by rw [← hh, Bd.state]; rfl
  have N0 := Fr.nil n0
  obtain ⟨G, hG⟩ : ∃ G : State → Prop, G = OwnG p e below s ({ frames := 0, cells := 0, slots := 0, locals := 0 } : Room).cells ({ frames := 0, cells := 0, slots := 0, locals := 0 } : Room).slots (Q1n4 Z a1 k w0 w1 w2 w3 w4 h0 n0) := ⟨_, rfl⟩
  have go : ∀ {A B : State}, (∀ t, Steps p.tables e below A t → Steps p.tables e below B t) → G A → G B := fun h k => by rw [hG] at k ⊢; exact OwnG.go h k
  suffices k0 : G (s₁.setTop (mkF m 0 #[.val (.ref a1), .val (.int (4 : Int32)), .unset, .unset, .unset] [])) by
    rw [hG] at k0; exact OwnG.go (fun t k => castTop (ef_rm1n4 m a1) k) k0
  refine go (fun _ k => XS.aloadN X0.here hx rfl (hb hby d1_0) rfl rfl k) ?_
  show G (s₁.setTop (mkF m 1 #[.val (.ref a1), .val (.int (4 : Int32)), .unset, .unset, .unset] [(.ref a1)]))
  refine go (fun _ k => XS.iconst X0.here hx rfl (hb hby d1_1) k) ?_
  show G (s₁.setTop (mkF m 2 #[.val (.ref a1), .val (.int (4 : Int32)), .unset, .unset, .unset] [(.int (0 : Int32)), (.ref a1)]))
  obtain ⟨cl1, Ar1, qk1, qs1, qn1, qh1, qg1⟩ := id VA
  refine go (X0.baloadBytes hx (j := (0 : Int32)) (v := (.int w0)) (by rw [e0]; exact Ar1.1) (State.isArrayOf_alike hZ.alike Ar1.2.1) Ar1.2.2 (inb_of qs1 ⟨by decide, by decide⟩) (Has.at qh1 (inb_of qs1 ⟨by decide, by decide⟩) rfl) (g := (mkF m 2 #[.val (.ref a1), .val (.int (4 : Int32)), .unset, .unset, .unset] [(.int (0 : Int32)), (.ref a1)])) rfl rfl (hb hby d1_2)) ?_
  show G (s₁.setTop (mkF m 3 #[.val (.ref a1), .val (.int (4 : Int32)), .unset, .unset, .unset] [(.int w0)]))
  refine go (fun _ k => XS.sipush X0.here hx rfl (hb hby d1_3) k) ?_
  show G (s₁.setTop (mkF m 6 #[.val (.ref a1), .val (.int (4 : Int32)), .unset, .unset, .unset] [(.int (255 : Int32)), (.int w0)]))
  refine go (fun _ k => XS.iloadN X0.here hx rfl (hb hby d1_6) rfl k) ?_
  show G (s₁.setTop (mkF m 7 #[.val (.ref a1), .val (.int (4 : Int32)), .unset, .unset, .unset] [(.int (4 : Int32)), (.int (255 : Int32)), (.int w0)]))
  refine go (fun _ k => XS.iushr X0.here hx rfl (hb hby d1_7) rfl k) ?_
  show G (s₁.setTop (mkF m 8 #[.val (.ref a1), .val (.int (4 : Int32)), .unset, .unset, .unset] [(.int (((255 : Int32).toUInt32 >>> ((4 : Int32) &&& 31).toUInt32).toInt32)), (.int w0)]))
  refine go (fun _ k => XS.iand X0.here hx rfl (hb hby d1_8) rfl k) ?_
  show G (s₁.setTop (mkF m 9 #[.val (.ref a1), .val (.int (4 : Int32)), .unset, .unset, .unset] [(.int (w0 &&& (((255 : Int32).toUInt32 >>> ((4 : Int32) &&& 31).toUInt32).toInt32)))]))
  refine go (fun _ k => XS.i2l X0.here hx rfl (hb hby d1_9) rfl k) ?_
  show G (s₁.setTop (mkF m 10 #[.val (.ref a1), .val (.int (4 : Int32)), .unset, .unset, .unset] [(.long ((w0 &&& (((255 : Int32).toUInt32 >>> ((4 : Int32) &&& 31).toUInt32).toInt32)).toInt64))]))
  refine go (fun _ k => XS.lstoreN X0.here hx rfl (hb hby d1_10) rfl (l' := #[.val (.ref a1), .val (.int (4 : Int32)), .val (.long ((w0 &&& (((255 : Int32).toUInt32 >>> ((4 : Int32) &&& 31).toUInt32).toInt32)).toInt64)), .second, .unset]) rfl k) ?_
  show G (s₁.setTop (mkF m 11 #[.val (.ref a1), .val (.int (4 : Int32)), .val (.long ((w0 &&& (((255 : Int32).toUInt32 >>> ((4 : Int32) &&& 31).toUInt32).toInt32)).toInt64)), .second, .unset] []))
  refine go (fun _ k => XS.iconst X0.here hx rfl (hb hby d1_11) k) ?_
  show G (s₁.setTop (mkF m 12 #[.val (.ref a1), .val (.int (4 : Int32)), .val (.long ((w0 &&& (((255 : Int32).toUInt32 >>> ((4 : Int32) &&& 31).toUInt32).toInt32)).toInt64)), .second, .unset] [(.int (1 : Int32))]))
  refine go (fun _ k => XS.istore X0.here hx rfl (hb hby d1_12) rfl (l' := #[.val (.ref a1), .val (.int (4 : Int32)), .val (.long ((w0 &&& (((255 : Int32).toUInt32 >>> ((4 : Int32) &&& 31).toUInt32).toInt32)).toInt64)), .second, .val (.int (1 : Int32))]) rfl k) ?_
  show G (s₁.setTop (mkF m 14 #[.val (.ref a1), .val (.int (4 : Int32)), .val (.long ((w0 &&& (((255 : Int32).toUInt32 >>> ((4 : Int32) &&& 31).toUInt32).toInt32)).toInt64)), .second, .val (.int (1 : Int32))] []))
  refine go (fun _ k => XS.iload X0.here hx rfl (hb hby d1_14) rfl k) ?_
  show G (s₁.setTop (mkF m 16 #[.val (.ref a1), .val (.int (4 : Int32)), .val (.long ((w0 &&& (((255 : Int32).toUInt32 >>> ((4 : Int32) &&& 31).toUInt32).toInt32)).toInt64)), .second, .val (.int (1 : Int32))] [(.int (1 : Int32))]))
  refine go (fun _ k => XS.iloadN X0.here hx rfl (hb hby d1_16) rfl k) ?_
  show G (s₁.setTop (mkF m 17 #[.val (.ref a1), .val (.int (4 : Int32)), .val (.long ((w0 &&& (((255 : Int32).toUInt32 >>> ((4 : Int32) &&& 31).toUInt32).toInt32)).toInt64)), .second, .val (.int (1 : Int32))] [(.int (4 : Int32)), (.int (1 : Int32))]))
  have hc2 : (1 : Int32) < (4 : Int32) := (by decide)
  refine go (fun _ k => XS.icmpNo X0.here hx rfl (hb hby d1_17) rfl (tlt hc2).2.1 k) ?_
  show G (s₁.setTop (mkF m 20 #[.val (.ref a1), .val (.int (4 : Int32)), .val (.long ((w0 &&& (((255 : Int32).toUInt32 >>> ((4 : Int32) &&& 31).toUInt32).toInt32)).toInt64)), .second, .val (.int (1 : Int32))] []))
  refine go (fun _ k => XS.lloadN X0.here hx rfl (hb hby d1_20) rfl k) ?_
  show G (s₁.setTop (mkF m 21 #[.val (.ref a1), .val (.int (4 : Int32)), .val (.long ((w0 &&& (((255 : Int32).toUInt32 >>> ((4 : Int32) &&& 31).toUInt32).toInt32)).toInt64)), .second, .val (.int (1 : Int32))] [(.long ((w0 &&& (((255 : Int32).toUInt32 >>> ((4 : Int32) &&& 31).toUInt32).toInt32)).toInt64))]))
  refine go (fun _ k => XS.bipush X0.here hx rfl (hb hby d1_21) k) ?_
  show G (s₁.setTop (mkF m 23 #[.val (.ref a1), .val (.int (4 : Int32)), .val (.long ((w0 &&& (((255 : Int32).toUInt32 >>> ((4 : Int32) &&& 31).toUInt32).toInt32)).toInt64)), .second, .val (.int (1 : Int32))] [(.int (8 : Int32)), (.long ((w0 &&& (((255 : Int32).toUInt32 >>> ((4 : Int32) &&& 31).toUInt32).toInt32)).toInt64))]))
  refine go (fun _ k => XS.lshl X0.here hx rfl (hb hby d1_23) rfl k) ?_
  show G (s₁.setTop (mkF m 24 #[.val (.ref a1), .val (.int (4 : Int32)), .val (.long ((w0 &&& (((255 : Int32).toUInt32 >>> ((4 : Int32) &&& 31).toUInt32).toInt32)).toInt64)), .second, .val (.int (1 : Int32))] [(.long (((w0 &&& (((255 : Int32).toUInt32 >>> ((4 : Int32) &&& 31).toUInt32).toInt32)).toInt64) <<< ((8 : Int32) &&& 0x3f).toInt64))]))
  refine go (fun _ k => XS.aloadN X0.here hx rfl (hb hby d1_24) rfl rfl k) ?_
  show G (s₁.setTop (mkF m 25 #[.val (.ref a1), .val (.int (4 : Int32)), .val (.long ((w0 &&& (((255 : Int32).toUInt32 >>> ((4 : Int32) &&& 31).toUInt32).toInt32)).toInt64)), .second, .val (.int (1 : Int32))] [(.ref a1), (.long (((w0 &&& (((255 : Int32).toUInt32 >>> ((4 : Int32) &&& 31).toUInt32).toInt32)).toInt64) <<< ((8 : Int32) &&& 0x3f).toInt64))]))
  refine go (fun _ k => XS.iload X0.here hx rfl (hb hby d1_25) rfl k) ?_
  show G (s₁.setTop (mkF m 27 #[.val (.ref a1), .val (.int (4 : Int32)), .val (.long ((w0 &&& (((255 : Int32).toUInt32 >>> ((4 : Int32) &&& 31).toUInt32).toInt32)).toInt64)), .second, .val (.int (1 : Int32))] [(.int (1 : Int32)), (.ref a1), (.long (((w0 &&& (((255 : Int32).toUInt32 >>> ((4 : Int32) &&& 31).toUInt32).toInt32)).toInt64) <<< ((8 : Int32) &&& 0x3f).toInt64))]))
  obtain ⟨cl3, Ar3, qk3, qs3, qn3, qh3, qg3⟩ := id VA
  refine go (X0.baloadBytes hx (j := (1 : Int32)) (v := (.int w1)) (by rw [e0]; exact Ar3.1) (State.isArrayOf_alike hZ.alike Ar3.2.1) Ar3.2.2 (inb_of qs3 ⟨by decide, by decide⟩) (Has.at qh3 (inb_of qs3 ⟨by decide, by decide⟩) rfl) (g := (mkF m 27 #[.val (.ref a1), .val (.int (4 : Int32)), .val (.long ((w0 &&& (((255 : Int32).toUInt32 >>> ((4 : Int32) &&& 31).toUInt32).toInt32)).toInt64)), .second, .val (.int (1 : Int32))] [(.int (1 : Int32)), (.ref a1), (.long (((w0 &&& (((255 : Int32).toUInt32 >>> ((4 : Int32) &&& 31).toUInt32).toInt32)).toInt64) <<< ((8 : Int32) &&& 0x3f).toInt64))])) rfl rfl (hb hby d1_27)) ?_
  show G (s₁.setTop (mkF m 28 #[.val (.ref a1), .val (.int (4 : Int32)), .val (.long ((w0 &&& (((255 : Int32).toUInt32 >>> ((4 : Int32) &&& 31).toUInt32).toInt32)).toInt64)), .second, .val (.int (1 : Int32))] [(.int w1), (.long (((w0 &&& (((255 : Int32).toUInt32 >>> ((4 : Int32) &&& 31).toUInt32).toInt32)).toInt64) <<< ((8 : Int32) &&& 0x3f).toInt64))]))
  refine go (fun _ k => XS.sipush X0.here hx rfl (hb hby d1_28) k) ?_
  show G (s₁.setTop (mkF m 31 #[.val (.ref a1), .val (.int (4 : Int32)), .val (.long ((w0 &&& (((255 : Int32).toUInt32 >>> ((4 : Int32) &&& 31).toUInt32).toInt32)).toInt64)), .second, .val (.int (1 : Int32))] [(.int (255 : Int32)), (.int w1), (.long (((w0 &&& (((255 : Int32).toUInt32 >>> ((4 : Int32) &&& 31).toUInt32).toInt32)).toInt64) <<< ((8 : Int32) &&& 0x3f).toInt64))]))
  refine go (fun _ k => XS.iand X0.here hx rfl (hb hby d1_31) rfl k) ?_
  show G (s₁.setTop (mkF m 32 #[.val (.ref a1), .val (.int (4 : Int32)), .val (.long ((w0 &&& (((255 : Int32).toUInt32 >>> ((4 : Int32) &&& 31).toUInt32).toInt32)).toInt64)), .second, .val (.int (1 : Int32))] [(.int (w1 &&& (255 : Int32))), (.long (((w0 &&& (((255 : Int32).toUInt32 >>> ((4 : Int32) &&& 31).toUInt32).toInt32)).toInt64) <<< ((8 : Int32) &&& 0x3f).toInt64))]))
  refine go (fun _ k => XS.i2l X0.here hx rfl (hb hby d1_32) rfl k) ?_
  show G (s₁.setTop (mkF m 33 #[.val (.ref a1), .val (.int (4 : Int32)), .val (.long ((w0 &&& (((255 : Int32).toUInt32 >>> ((4 : Int32) &&& 31).toUInt32).toInt32)).toInt64)), .second, .val (.int (1 : Int32))] [(.long ((w1 &&& (255 : Int32)).toInt64)), (.long (((w0 &&& (((255 : Int32).toUInt32 >>> ((4 : Int32) &&& 31).toUInt32).toInt32)).toInt64) <<< ((8 : Int32) &&& 0x3f).toInt64))]))
  refine go (fun _ k => XS.lor X0.here hx rfl (hb hby d1_33) rfl k) ?_
  show G (s₁.setTop (mkF m 34 #[.val (.ref a1), .val (.int (4 : Int32)), .val (.long ((w0 &&& (((255 : Int32).toUInt32 >>> ((4 : Int32) &&& 31).toUInt32).toInt32)).toInt64)), .second, .val (.int (1 : Int32))] [(.long ((((w0 &&& (((255 : Int32).toUInt32 >>> ((4 : Int32) &&& 31).toUInt32).toInt32)).toInt64) <<< ((8 : Int32) &&& 0x3f).toInt64) ||| ((w1 &&& (255 : Int32)).toInt64)))]))
  refine go (fun _ k => XS.lstoreN X0.here hx rfl (hb hby d1_34) rfl (l' := #[.val (.ref a1), .val (.int (4 : Int32)), .val (.long ((((w0 &&& (((255 : Int32).toUInt32 >>> ((4 : Int32) &&& 31).toUInt32).toInt32)).toInt64) <<< ((8 : Int32) &&& 0x3f).toInt64) ||| ((w1 &&& (255 : Int32)).toInt64))), .second, .val (.int (1 : Int32))]) rfl k) ?_
  show G (s₁.setTop (mkF m 35 #[.val (.ref a1), .val (.int (4 : Int32)), .val (.long ((((w0 &&& (((255 : Int32).toUInt32 >>> ((4 : Int32) &&& 31).toUInt32).toInt32)).toInt64) <<< ((8 : Int32) &&& 0x3f).toInt64) ||| ((w1 &&& (255 : Int32)).toInt64))), .second, .val (.int (1 : Int32))] []))
  refine go (fun _ k => XS.iinc X0.here hx rfl (hb hby d1_35) rfl (l' := #[.val (.ref a1), .val (.int (4 : Int32)), .val (.long ((((w0 &&& (((255 : Int32).toUInt32 >>> ((4 : Int32) &&& 31).toUInt32).toInt32)).toInt64) <<< ((8 : Int32) &&& 0x3f).toInt64) ||| ((w1 &&& (255 : Int32)).toInt64))), .second, .val (.int ((1 : Int32) + (1 : Int32)))]) rfl k) ?_
  show G (s₁.setTop (mkF m 38 #[.val (.ref a1), .val (.int (4 : Int32)), .val (.long ((((w0 &&& (((255 : Int32).toUInt32 >>> ((4 : Int32) &&& 31).toUInt32).toInt32)).toInt64) <<< ((8 : Int32) &&& 0x3f).toInt64) ||| ((w1 &&& (255 : Int32)).toInt64))), .second, .val (.int ((1 : Int32) + (1 : Int32)))] []))
  rw [show ((1 : Int32) + (1 : Int32) : Int32) = (2 : Int32) from by decide]
  show G (s₁.setTop (mkF m 38 #[.val (.ref a1), .val (.int (4 : Int32)), .val (.long ((((w0 &&& (((255 : Int32).toUInt32 >>> ((4 : Int32) &&& 31).toUInt32).toInt32)).toInt64) <<< ((8 : Int32) &&& 0x3f).toInt64) ||| ((w1 &&& (255 : Int32)).toInt64))), .second, .val (.int (2 : Int32))] []))
  refine go (fun _ k => XS.goto X0.here hx rfl (pc0 := 38) (pc' := 14) rfl (hb hby d1_38) (by decide) (by decide) k) ?_
  show G (s₁.setTop (mkF m 14 #[.val (.ref a1), .val (.int (4 : Int32)), .val (.long ((((w0 &&& (((255 : Int32).toUInt32 >>> ((4 : Int32) &&& 31).toUInt32).toInt32)).toInt64) <<< ((8 : Int32) &&& 0x3f).toInt64) ||| ((w1 &&& (255 : Int32)).toInt64))), .second, .val (.int (2 : Int32))] []))
  refine go (fun _ k => XS.iload X0.here hx rfl (hb hby d1_14) rfl k) ?_
  show G (s₁.setTop (mkF m 16 #[.val (.ref a1), .val (.int (4 : Int32)), .val (.long ((((w0 &&& (((255 : Int32).toUInt32 >>> ((4 : Int32) &&& 31).toUInt32).toInt32)).toInt64) <<< ((8 : Int32) &&& 0x3f).toInt64) ||| ((w1 &&& (255 : Int32)).toInt64))), .second, .val (.int (2 : Int32))] [(.int (2 : Int32))]))
  refine go (fun _ k => XS.iloadN X0.here hx rfl (hb hby d1_16) rfl k) ?_
  show G (s₁.setTop (mkF m 17 #[.val (.ref a1), .val (.int (4 : Int32)), .val (.long ((((w0 &&& (((255 : Int32).toUInt32 >>> ((4 : Int32) &&& 31).toUInt32).toInt32)).toInt64) <<< ((8 : Int32) &&& 0x3f).toInt64) ||| ((w1 &&& (255 : Int32)).toInt64))), .second, .val (.int (2 : Int32))] [(.int (4 : Int32)), (.int (2 : Int32))]))
  have hc4 : (2 : Int32) < (4 : Int32) := (by decide)
  refine go (fun _ k => XS.icmpNo X0.here hx rfl (hb hby d1_17) rfl (tlt hc4).2.1 k) ?_
  show G (s₁.setTop (mkF m 20 #[.val (.ref a1), .val (.int (4 : Int32)), .val (.long ((((w0 &&& (((255 : Int32).toUInt32 >>> ((4 : Int32) &&& 31).toUInt32).toInt32)).toInt64) <<< ((8 : Int32) &&& 0x3f).toInt64) ||| ((w1 &&& (255 : Int32)).toInt64))), .second, .val (.int (2 : Int32))] []))
  refine go (fun _ k => XS.lloadN X0.here hx rfl (hb hby d1_20) rfl k) ?_
  show G (s₁.setTop (mkF m 21 #[.val (.ref a1), .val (.int (4 : Int32)), .val (.long ((((w0 &&& (((255 : Int32).toUInt32 >>> ((4 : Int32) &&& 31).toUInt32).toInt32)).toInt64) <<< ((8 : Int32) &&& 0x3f).toInt64) ||| ((w1 &&& (255 : Int32)).toInt64))), .second, .val (.int (2 : Int32))] [(.long ((((w0 &&& (((255 : Int32).toUInt32 >>> ((4 : Int32) &&& 31).toUInt32).toInt32)).toInt64) <<< ((8 : Int32) &&& 0x3f).toInt64) ||| ((w1 &&& (255 : Int32)).toInt64)))]))
  refine go (fun _ k => XS.bipush X0.here hx rfl (hb hby d1_21) k) ?_
  show G (s₁.setTop (mkF m 23 #[.val (.ref a1), .val (.int (4 : Int32)), .val (.long ((((w0 &&& (((255 : Int32).toUInt32 >>> ((4 : Int32) &&& 31).toUInt32).toInt32)).toInt64) <<< ((8 : Int32) &&& 0x3f).toInt64) ||| ((w1 &&& (255 : Int32)).toInt64))), .second, .val (.int (2 : Int32))] [(.int (8 : Int32)), (.long ((((w0 &&& (((255 : Int32).toUInt32 >>> ((4 : Int32) &&& 31).toUInt32).toInt32)).toInt64) <<< ((8 : Int32) &&& 0x3f).toInt64) ||| ((w1 &&& (255 : Int32)).toInt64)))]))
  refine go (fun _ k => XS.lshl X0.here hx rfl (hb hby d1_23) rfl k) ?_
  show G (s₁.setTop (mkF m 24 #[.val (.ref a1), .val (.int (4 : Int32)), .val (.long ((((w0 &&& (((255 : Int32).toUInt32 >>> ((4 : Int32) &&& 31).toUInt32).toInt32)).toInt64) <<< ((8 : Int32) &&& 0x3f).toInt64) ||| ((w1 &&& (255 : Int32)).toInt64))), .second, .val (.int (2 : Int32))] [(.long (((((w0 &&& (((255 : Int32).toUInt32 >>> ((4 : Int32) &&& 31).toUInt32).toInt32)).toInt64) <<< ((8 : Int32) &&& 0x3f).toInt64) ||| ((w1 &&& (255 : Int32)).toInt64)) <<< ((8 : Int32) &&& 0x3f).toInt64))]))
  refine go (fun _ k => XS.aloadN X0.here hx rfl (hb hby d1_24) rfl rfl k) ?_
  show G (s₁.setTop (mkF m 25 #[.val (.ref a1), .val (.int (4 : Int32)), .val (.long ((((w0 &&& (((255 : Int32).toUInt32 >>> ((4 : Int32) &&& 31).toUInt32).toInt32)).toInt64) <<< ((8 : Int32) &&& 0x3f).toInt64) ||| ((w1 &&& (255 : Int32)).toInt64))), .second, .val (.int (2 : Int32))] [(.ref a1), (.long (((((w0 &&& (((255 : Int32).toUInt32 >>> ((4 : Int32) &&& 31).toUInt32).toInt32)).toInt64) <<< ((8 : Int32) &&& 0x3f).toInt64) ||| ((w1 &&& (255 : Int32)).toInt64)) <<< ((8 : Int32) &&& 0x3f).toInt64))]))
  refine go (fun _ k => XS.iload X0.here hx rfl (hb hby d1_25) rfl k) ?_
  show G (s₁.setTop (mkF m 27 #[.val (.ref a1), .val (.int (4 : Int32)), .val (.long ((((w0 &&& (((255 : Int32).toUInt32 >>> ((4 : Int32) &&& 31).toUInt32).toInt32)).toInt64) <<< ((8 : Int32) &&& 0x3f).toInt64) ||| ((w1 &&& (255 : Int32)).toInt64))), .second, .val (.int (2 : Int32))] [(.int (2 : Int32)), (.ref a1), (.long (((((w0 &&& (((255 : Int32).toUInt32 >>> ((4 : Int32) &&& 31).toUInt32).toInt32)).toInt64) <<< ((8 : Int32) &&& 0x3f).toInt64) ||| ((w1 &&& (255 : Int32)).toInt64)) <<< ((8 : Int32) &&& 0x3f).toInt64))]))
  obtain ⟨cl5, Ar5, qk5, qs5, qn5, qh5, qg5⟩ := id VA
  refine go (X0.baloadBytes hx (j := (2 : Int32)) (v := (.int w2)) (by rw [e0]; exact Ar5.1) (State.isArrayOf_alike hZ.alike Ar5.2.1) Ar5.2.2 (inb_of qs5 ⟨by decide, by decide⟩) (Has.at qh5 (inb_of qs5 ⟨by decide, by decide⟩) rfl) (g := (mkF m 27 #[.val (.ref a1), .val (.int (4 : Int32)), .val (.long ((((w0 &&& (((255 : Int32).toUInt32 >>> ((4 : Int32) &&& 31).toUInt32).toInt32)).toInt64) <<< ((8 : Int32) &&& 0x3f).toInt64) ||| ((w1 &&& (255 : Int32)).toInt64))), .second, .val (.int (2 : Int32))] [(.int (2 : Int32)), (.ref a1), (.long (((((w0 &&& (((255 : Int32).toUInt32 >>> ((4 : Int32) &&& 31).toUInt32).toInt32)).toInt64) <<< ((8 : Int32) &&& 0x3f).toInt64) ||| ((w1 &&& (255 : Int32)).toInt64)) <<< ((8 : Int32) &&& 0x3f).toInt64))])) rfl rfl (hb hby d1_27)) ?_
  show G (s₁.setTop (mkF m 28 #[.val (.ref a1), .val (.int (4 : Int32)), .val (.long ((((w0 &&& (((255 : Int32).toUInt32 >>> ((4 : Int32) &&& 31).toUInt32).toInt32)).toInt64) <<< ((8 : Int32) &&& 0x3f).toInt64) ||| ((w1 &&& (255 : Int32)).toInt64))), .second, .val (.int (2 : Int32))] [(.int w2), (.long (((((w0 &&& (((255 : Int32).toUInt32 >>> ((4 : Int32) &&& 31).toUInt32).toInt32)).toInt64) <<< ((8 : Int32) &&& 0x3f).toInt64) ||| ((w1 &&& (255 : Int32)).toInt64)) <<< ((8 : Int32) &&& 0x3f).toInt64))]))
  refine go (fun _ k => XS.sipush X0.here hx rfl (hb hby d1_28) k) ?_
  show G (s₁.setTop (mkF m 31 #[.val (.ref a1), .val (.int (4 : Int32)), .val (.long ((((w0 &&& (((255 : Int32).toUInt32 >>> ((4 : Int32) &&& 31).toUInt32).toInt32)).toInt64) <<< ((8 : Int32) &&& 0x3f).toInt64) ||| ((w1 &&& (255 : Int32)).toInt64))), .second, .val (.int (2 : Int32))] [(.int (255 : Int32)), (.int w2), (.long (((((w0 &&& (((255 : Int32).toUInt32 >>> ((4 : Int32) &&& 31).toUInt32).toInt32)).toInt64) <<< ((8 : Int32) &&& 0x3f).toInt64) ||| ((w1 &&& (255 : Int32)).toInt64)) <<< ((8 : Int32) &&& 0x3f).toInt64))]))
  refine go (fun _ k => XS.iand X0.here hx rfl (hb hby d1_31) rfl k) ?_
  show G (s₁.setTop (mkF m 32 #[.val (.ref a1), .val (.int (4 : Int32)), .val (.long ((((w0 &&& (((255 : Int32).toUInt32 >>> ((4 : Int32) &&& 31).toUInt32).toInt32)).toInt64) <<< ((8 : Int32) &&& 0x3f).toInt64) ||| ((w1 &&& (255 : Int32)).toInt64))), .second, .val (.int (2 : Int32))] [(.int (w2 &&& (255 : Int32))), (.long (((((w0 &&& (((255 : Int32).toUInt32 >>> ((4 : Int32) &&& 31).toUInt32).toInt32)).toInt64) <<< ((8 : Int32) &&& 0x3f).toInt64) ||| ((w1 &&& (255 : Int32)).toInt64)) <<< ((8 : Int32) &&& 0x3f).toInt64))]))
  refine go (fun _ k => XS.i2l X0.here hx rfl (hb hby d1_32) rfl k) ?_
  show G (s₁.setTop (mkF m 33 #[.val (.ref a1), .val (.int (4 : Int32)), .val (.long ((((w0 &&& (((255 : Int32).toUInt32 >>> ((4 : Int32) &&& 31).toUInt32).toInt32)).toInt64) <<< ((8 : Int32) &&& 0x3f).toInt64) ||| ((w1 &&& (255 : Int32)).toInt64))), .second, .val (.int (2 : Int32))] [(.long ((w2 &&& (255 : Int32)).toInt64)), (.long (((((w0 &&& (((255 : Int32).toUInt32 >>> ((4 : Int32) &&& 31).toUInt32).toInt32)).toInt64) <<< ((8 : Int32) &&& 0x3f).toInt64) ||| ((w1 &&& (255 : Int32)).toInt64)) <<< ((8 : Int32) &&& 0x3f).toInt64))]))
  refine go (fun _ k => XS.lor X0.here hx rfl (hb hby d1_33) rfl k) ?_
  show G (s₁.setTop (mkF m 34 #[.val (.ref a1), .val (.int (4 : Int32)), .val (.long ((((w0 &&& (((255 : Int32).toUInt32 >>> ((4 : Int32) &&& 31).toUInt32).toInt32)).toInt64) <<< ((8 : Int32) &&& 0x3f).toInt64) ||| ((w1 &&& (255 : Int32)).toInt64))), .second, .val (.int (2 : Int32))] [(.long ((((((w0 &&& (((255 : Int32).toUInt32 >>> ((4 : Int32) &&& 31).toUInt32).toInt32)).toInt64) <<< ((8 : Int32) &&& 0x3f).toInt64) ||| ((w1 &&& (255 : Int32)).toInt64)) <<< ((8 : Int32) &&& 0x3f).toInt64) ||| ((w2 &&& (255 : Int32)).toInt64)))]))
  refine go (fun _ k => XS.lstoreN X0.here hx rfl (hb hby d1_34) rfl (l' := #[.val (.ref a1), .val (.int (4 : Int32)), .val (.long ((((((w0 &&& (((255 : Int32).toUInt32 >>> ((4 : Int32) &&& 31).toUInt32).toInt32)).toInt64) <<< ((8 : Int32) &&& 0x3f).toInt64) ||| ((w1 &&& (255 : Int32)).toInt64)) <<< ((8 : Int32) &&& 0x3f).toInt64) ||| ((w2 &&& (255 : Int32)).toInt64))), .second, .val (.int (2 : Int32))]) rfl k) ?_
  show G (s₁.setTop (mkF m 35 #[.val (.ref a1), .val (.int (4 : Int32)), .val (.long ((((((w0 &&& (((255 : Int32).toUInt32 >>> ((4 : Int32) &&& 31).toUInt32).toInt32)).toInt64) <<< ((8 : Int32) &&& 0x3f).toInt64) ||| ((w1 &&& (255 : Int32)).toInt64)) <<< ((8 : Int32) &&& 0x3f).toInt64) ||| ((w2 &&& (255 : Int32)).toInt64))), .second, .val (.int (2 : Int32))] []))
  refine go (fun _ k => XS.iinc X0.here hx rfl (hb hby d1_35) rfl (l' := #[.val (.ref a1), .val (.int (4 : Int32)), .val (.long ((((((w0 &&& (((255 : Int32).toUInt32 >>> ((4 : Int32) &&& 31).toUInt32).toInt32)).toInt64) <<< ((8 : Int32) &&& 0x3f).toInt64) ||| ((w1 &&& (255 : Int32)).toInt64)) <<< ((8 : Int32) &&& 0x3f).toInt64) ||| ((w2 &&& (255 : Int32)).toInt64))), .second, .val (.int ((2 : Int32) + (1 : Int32)))]) rfl k) ?_
  show G (s₁.setTop (mkF m 38 #[.val (.ref a1), .val (.int (4 : Int32)), .val (.long ((((((w0 &&& (((255 : Int32).toUInt32 >>> ((4 : Int32) &&& 31).toUInt32).toInt32)).toInt64) <<< ((8 : Int32) &&& 0x3f).toInt64) ||| ((w1 &&& (255 : Int32)).toInt64)) <<< ((8 : Int32) &&& 0x3f).toInt64) ||| ((w2 &&& (255 : Int32)).toInt64))), .second, .val (.int ((2 : Int32) + (1 : Int32)))] []))
  rw [show ((2 : Int32) + (1 : Int32) : Int32) = (3 : Int32) from by decide]
  show G (s₁.setTop (mkF m 38 #[.val (.ref a1), .val (.int (4 : Int32)), .val (.long ((((((w0 &&& (((255 : Int32).toUInt32 >>> ((4 : Int32) &&& 31).toUInt32).toInt32)).toInt64) <<< ((8 : Int32) &&& 0x3f).toInt64) ||| ((w1 &&& (255 : Int32)).toInt64)) <<< ((8 : Int32) &&& 0x3f).toInt64) ||| ((w2 &&& (255 : Int32)).toInt64))), .second, .val (.int (3 : Int32))] []))
  refine go (fun _ k => XS.goto X0.here hx rfl (pc0 := 38) (pc' := 14) rfl (hb hby d1_38) (by decide) (by decide) k) ?_
  show G (s₁.setTop (mkF m 14 #[.val (.ref a1), .val (.int (4 : Int32)), .val (.long ((((((w0 &&& (((255 : Int32).toUInt32 >>> ((4 : Int32) &&& 31).toUInt32).toInt32)).toInt64) <<< ((8 : Int32) &&& 0x3f).toInt64) ||| ((w1 &&& (255 : Int32)).toInt64)) <<< ((8 : Int32) &&& 0x3f).toInt64) ||| ((w2 &&& (255 : Int32)).toInt64))), .second, .val (.int (3 : Int32))] []))
  refine go (fun _ k => XS.iload X0.here hx rfl (hb hby d1_14) rfl k) ?_
  show G (s₁.setTop (mkF m 16 #[.val (.ref a1), .val (.int (4 : Int32)), .val (.long ((((((w0 &&& (((255 : Int32).toUInt32 >>> ((4 : Int32) &&& 31).toUInt32).toInt32)).toInt64) <<< ((8 : Int32) &&& 0x3f).toInt64) ||| ((w1 &&& (255 : Int32)).toInt64)) <<< ((8 : Int32) &&& 0x3f).toInt64) ||| ((w2 &&& (255 : Int32)).toInt64))), .second, .val (.int (3 : Int32))] [(.int (3 : Int32))]))
  refine go (fun _ k => XS.iloadN X0.here hx rfl (hb hby d1_16) rfl k) ?_
  show G (s₁.setTop (mkF m 17 #[.val (.ref a1), .val (.int (4 : Int32)), .val (.long ((((((w0 &&& (((255 : Int32).toUInt32 >>> ((4 : Int32) &&& 31).toUInt32).toInt32)).toInt64) <<< ((8 : Int32) &&& 0x3f).toInt64) ||| ((w1 &&& (255 : Int32)).toInt64)) <<< ((8 : Int32) &&& 0x3f).toInt64) ||| ((w2 &&& (255 : Int32)).toInt64))), .second, .val (.int (3 : Int32))] [(.int (4 : Int32)), (.int (3 : Int32))]))
  have hc6 : (3 : Int32) < (4 : Int32) := (by decide)
  refine go (fun _ k => XS.icmpNo X0.here hx rfl (hb hby d1_17) rfl (tlt hc6).2.1 k) ?_
  show G (s₁.setTop (mkF m 20 #[.val (.ref a1), .val (.int (4 : Int32)), .val (.long ((((((w0 &&& (((255 : Int32).toUInt32 >>> ((4 : Int32) &&& 31).toUInt32).toInt32)).toInt64) <<< ((8 : Int32) &&& 0x3f).toInt64) ||| ((w1 &&& (255 : Int32)).toInt64)) <<< ((8 : Int32) &&& 0x3f).toInt64) ||| ((w2 &&& (255 : Int32)).toInt64))), .second, .val (.int (3 : Int32))] []))
  refine go (fun _ k => XS.lloadN X0.here hx rfl (hb hby d1_20) rfl k) ?_
  show G (s₁.setTop (mkF m 21 #[.val (.ref a1), .val (.int (4 : Int32)), .val (.long ((((((w0 &&& (((255 : Int32).toUInt32 >>> ((4 : Int32) &&& 31).toUInt32).toInt32)).toInt64) <<< ((8 : Int32) &&& 0x3f).toInt64) ||| ((w1 &&& (255 : Int32)).toInt64)) <<< ((8 : Int32) &&& 0x3f).toInt64) ||| ((w2 &&& (255 : Int32)).toInt64))), .second, .val (.int (3 : Int32))] [(.long ((((((w0 &&& (((255 : Int32).toUInt32 >>> ((4 : Int32) &&& 31).toUInt32).toInt32)).toInt64) <<< ((8 : Int32) &&& 0x3f).toInt64) ||| ((w1 &&& (255 : Int32)).toInt64)) <<< ((8 : Int32) &&& 0x3f).toInt64) ||| ((w2 &&& (255 : Int32)).toInt64)))]))
  refine go (fun _ k => XS.bipush X0.here hx rfl (hb hby d1_21) k) ?_
  show G (s₁.setTop (mkF m 23 #[.val (.ref a1), .val (.int (4 : Int32)), .val (.long ((((((w0 &&& (((255 : Int32).toUInt32 >>> ((4 : Int32) &&& 31).toUInt32).toInt32)).toInt64) <<< ((8 : Int32) &&& 0x3f).toInt64) ||| ((w1 &&& (255 : Int32)).toInt64)) <<< ((8 : Int32) &&& 0x3f).toInt64) ||| ((w2 &&& (255 : Int32)).toInt64))), .second, .val (.int (3 : Int32))] [(.int (8 : Int32)), (.long ((((((w0 &&& (((255 : Int32).toUInt32 >>> ((4 : Int32) &&& 31).toUInt32).toInt32)).toInt64) <<< ((8 : Int32) &&& 0x3f).toInt64) ||| ((w1 &&& (255 : Int32)).toInt64)) <<< ((8 : Int32) &&& 0x3f).toInt64) ||| ((w2 &&& (255 : Int32)).toInt64)))]))
  refine go (fun _ k => XS.lshl X0.here hx rfl (hb hby d1_23) rfl k) ?_
  show G (s₁.setTop (mkF m 24 #[.val (.ref a1), .val (.int (4 : Int32)), .val (.long ((((((w0 &&& (((255 : Int32).toUInt32 >>> ((4 : Int32) &&& 31).toUInt32).toInt32)).toInt64) <<< ((8 : Int32) &&& 0x3f).toInt64) ||| ((w1 &&& (255 : Int32)).toInt64)) <<< ((8 : Int32) &&& 0x3f).toInt64) ||| ((w2 &&& (255 : Int32)).toInt64))), .second, .val (.int (3 : Int32))] [(.long (((((((w0 &&& (((255 : Int32).toUInt32 >>> ((4 : Int32) &&& 31).toUInt32).toInt32)).toInt64) <<< ((8 : Int32) &&& 0x3f).toInt64) ||| ((w1 &&& (255 : Int32)).toInt64)) <<< ((8 : Int32) &&& 0x3f).toInt64) ||| ((w2 &&& (255 : Int32)).toInt64)) <<< ((8 : Int32) &&& 0x3f).toInt64))]))
  refine go (fun _ k => XS.aloadN X0.here hx rfl (hb hby d1_24) rfl rfl k) ?_
  show G (s₁.setTop (mkF m 25 #[.val (.ref a1), .val (.int (4 : Int32)), .val (.long ((((((w0 &&& (((255 : Int32).toUInt32 >>> ((4 : Int32) &&& 31).toUInt32).toInt32)).toInt64) <<< ((8 : Int32) &&& 0x3f).toInt64) ||| ((w1 &&& (255 : Int32)).toInt64)) <<< ((8 : Int32) &&& 0x3f).toInt64) ||| ((w2 &&& (255 : Int32)).toInt64))), .second, .val (.int (3 : Int32))] [(.ref a1), (.long (((((((w0 &&& (((255 : Int32).toUInt32 >>> ((4 : Int32) &&& 31).toUInt32).toInt32)).toInt64) <<< ((8 : Int32) &&& 0x3f).toInt64) ||| ((w1 &&& (255 : Int32)).toInt64)) <<< ((8 : Int32) &&& 0x3f).toInt64) ||| ((w2 &&& (255 : Int32)).toInt64)) <<< ((8 : Int32) &&& 0x3f).toInt64))]))
  refine go (fun _ k => XS.iload X0.here hx rfl (hb hby d1_25) rfl k) ?_
  show G (s₁.setTop (mkF m 27 #[.val (.ref a1), .val (.int (4 : Int32)), .val (.long ((((((w0 &&& (((255 : Int32).toUInt32 >>> ((4 : Int32) &&& 31).toUInt32).toInt32)).toInt64) <<< ((8 : Int32) &&& 0x3f).toInt64) ||| ((w1 &&& (255 : Int32)).toInt64)) <<< ((8 : Int32) &&& 0x3f).toInt64) ||| ((w2 &&& (255 : Int32)).toInt64))), .second, .val (.int (3 : Int32))] [(.int (3 : Int32)), (.ref a1), (.long (((((((w0 &&& (((255 : Int32).toUInt32 >>> ((4 : Int32) &&& 31).toUInt32).toInt32)).toInt64) <<< ((8 : Int32) &&& 0x3f).toInt64) ||| ((w1 &&& (255 : Int32)).toInt64)) <<< ((8 : Int32) &&& 0x3f).toInt64) ||| ((w2 &&& (255 : Int32)).toInt64)) <<< ((8 : Int32) &&& 0x3f).toInt64))]))
  obtain ⟨cl7, Ar7, qk7, qs7, qn7, qh7, qg7⟩ := id VA
  refine go (X0.baloadBytes hx (j := (3 : Int32)) (v := (.int w3)) (by rw [e0]; exact Ar7.1) (State.isArrayOf_alike hZ.alike Ar7.2.1) Ar7.2.2 (inb_of qs7 ⟨by decide, by decide⟩) (Has.at qh7 (inb_of qs7 ⟨by decide, by decide⟩) rfl) (g := (mkF m 27 #[.val (.ref a1), .val (.int (4 : Int32)), .val (.long ((((((w0 &&& (((255 : Int32).toUInt32 >>> ((4 : Int32) &&& 31).toUInt32).toInt32)).toInt64) <<< ((8 : Int32) &&& 0x3f).toInt64) ||| ((w1 &&& (255 : Int32)).toInt64)) <<< ((8 : Int32) &&& 0x3f).toInt64) ||| ((w2 &&& (255 : Int32)).toInt64))), .second, .val (.int (3 : Int32))] [(.int (3 : Int32)), (.ref a1), (.long (((((((w0 &&& (((255 : Int32).toUInt32 >>> ((4 : Int32) &&& 31).toUInt32).toInt32)).toInt64) <<< ((8 : Int32) &&& 0x3f).toInt64) ||| ((w1 &&& (255 : Int32)).toInt64)) <<< ((8 : Int32) &&& 0x3f).toInt64) ||| ((w2 &&& (255 : Int32)).toInt64)) <<< ((8 : Int32) &&& 0x3f).toInt64))])) rfl rfl (hb hby d1_27)) ?_
  show G (s₁.setTop (mkF m 28 #[.val (.ref a1), .val (.int (4 : Int32)), .val (.long ((((((w0 &&& (((255 : Int32).toUInt32 >>> ((4 : Int32) &&& 31).toUInt32).toInt32)).toInt64) <<< ((8 : Int32) &&& 0x3f).toInt64) ||| ((w1 &&& (255 : Int32)).toInt64)) <<< ((8 : Int32) &&& 0x3f).toInt64) ||| ((w2 &&& (255 : Int32)).toInt64))), .second, .val (.int (3 : Int32))] [(.int w3), (.long (((((((w0 &&& (((255 : Int32).toUInt32 >>> ((4 : Int32) &&& 31).toUInt32).toInt32)).toInt64) <<< ((8 : Int32) &&& 0x3f).toInt64) ||| ((w1 &&& (255 : Int32)).toInt64)) <<< ((8 : Int32) &&& 0x3f).toInt64) ||| ((w2 &&& (255 : Int32)).toInt64)) <<< ((8 : Int32) &&& 0x3f).toInt64))]))
  refine go (fun _ k => XS.sipush X0.here hx rfl (hb hby d1_28) k) ?_
  show G (s₁.setTop (mkF m 31 #[.val (.ref a1), .val (.int (4 : Int32)), .val (.long ((((((w0 &&& (((255 : Int32).toUInt32 >>> ((4 : Int32) &&& 31).toUInt32).toInt32)).toInt64) <<< ((8 : Int32) &&& 0x3f).toInt64) ||| ((w1 &&& (255 : Int32)).toInt64)) <<< ((8 : Int32) &&& 0x3f).toInt64) ||| ((w2 &&& (255 : Int32)).toInt64))), .second, .val (.int (3 : Int32))] [(.int (255 : Int32)), (.int w3), (.long (((((((w0 &&& (((255 : Int32).toUInt32 >>> ((4 : Int32) &&& 31).toUInt32).toInt32)).toInt64) <<< ((8 : Int32) &&& 0x3f).toInt64) ||| ((w1 &&& (255 : Int32)).toInt64)) <<< ((8 : Int32) &&& 0x3f).toInt64) ||| ((w2 &&& (255 : Int32)).toInt64)) <<< ((8 : Int32) &&& 0x3f).toInt64))]))
  refine go (fun _ k => XS.iand X0.here hx rfl (hb hby d1_31) rfl k) ?_
  show G (s₁.setTop (mkF m 32 #[.val (.ref a1), .val (.int (4 : Int32)), .val (.long ((((((w0 &&& (((255 : Int32).toUInt32 >>> ((4 : Int32) &&& 31).toUInt32).toInt32)).toInt64) <<< ((8 : Int32) &&& 0x3f).toInt64) ||| ((w1 &&& (255 : Int32)).toInt64)) <<< ((8 : Int32) &&& 0x3f).toInt64) ||| ((w2 &&& (255 : Int32)).toInt64))), .second, .val (.int (3 : Int32))] [(.int (w3 &&& (255 : Int32))), (.long (((((((w0 &&& (((255 : Int32).toUInt32 >>> ((4 : Int32) &&& 31).toUInt32).toInt32)).toInt64) <<< ((8 : Int32) &&& 0x3f).toInt64) ||| ((w1 &&& (255 : Int32)).toInt64)) <<< ((8 : Int32) &&& 0x3f).toInt64) ||| ((w2 &&& (255 : Int32)).toInt64)) <<< ((8 : Int32) &&& 0x3f).toInt64))]))
  refine go (fun _ k => XS.i2l X0.here hx rfl (hb hby d1_32) rfl k) ?_
  show G (s₁.setTop (mkF m 33 #[.val (.ref a1), .val (.int (4 : Int32)), .val (.long ((((((w0 &&& (((255 : Int32).toUInt32 >>> ((4 : Int32) &&& 31).toUInt32).toInt32)).toInt64) <<< ((8 : Int32) &&& 0x3f).toInt64) ||| ((w1 &&& (255 : Int32)).toInt64)) <<< ((8 : Int32) &&& 0x3f).toInt64) ||| ((w2 &&& (255 : Int32)).toInt64))), .second, .val (.int (3 : Int32))] [(.long ((w3 &&& (255 : Int32)).toInt64)), (.long (((((((w0 &&& (((255 : Int32).toUInt32 >>> ((4 : Int32) &&& 31).toUInt32).toInt32)).toInt64) <<< ((8 : Int32) &&& 0x3f).toInt64) ||| ((w1 &&& (255 : Int32)).toInt64)) <<< ((8 : Int32) &&& 0x3f).toInt64) ||| ((w2 &&& (255 : Int32)).toInt64)) <<< ((8 : Int32) &&& 0x3f).toInt64))]))
  refine go (fun _ k => XS.lor X0.here hx rfl (hb hby d1_33) rfl k) ?_
  show G (s₁.setTop (mkF m 34 #[.val (.ref a1), .val (.int (4 : Int32)), .val (.long ((((((w0 &&& (((255 : Int32).toUInt32 >>> ((4 : Int32) &&& 31).toUInt32).toInt32)).toInt64) <<< ((8 : Int32) &&& 0x3f).toInt64) ||| ((w1 &&& (255 : Int32)).toInt64)) <<< ((8 : Int32) &&& 0x3f).toInt64) ||| ((w2 &&& (255 : Int32)).toInt64))), .second, .val (.int (3 : Int32))] [(.long ((((((((w0 &&& (((255 : Int32).toUInt32 >>> ((4 : Int32) &&& 31).toUInt32).toInt32)).toInt64) <<< ((8 : Int32) &&& 0x3f).toInt64) ||| ((w1 &&& (255 : Int32)).toInt64)) <<< ((8 : Int32) &&& 0x3f).toInt64) ||| ((w2 &&& (255 : Int32)).toInt64)) <<< ((8 : Int32) &&& 0x3f).toInt64) ||| ((w3 &&& (255 : Int32)).toInt64)))]))
  refine go (fun _ k => XS.lstoreN X0.here hx rfl (hb hby d1_34) rfl (l' := #[.val (.ref a1), .val (.int (4 : Int32)), .val (.long ((((((((w0 &&& (((255 : Int32).toUInt32 >>> ((4 : Int32) &&& 31).toUInt32).toInt32)).toInt64) <<< ((8 : Int32) &&& 0x3f).toInt64) ||| ((w1 &&& (255 : Int32)).toInt64)) <<< ((8 : Int32) &&& 0x3f).toInt64) ||| ((w2 &&& (255 : Int32)).toInt64)) <<< ((8 : Int32) &&& 0x3f).toInt64) ||| ((w3 &&& (255 : Int32)).toInt64))), .second, .val (.int (3 : Int32))]) rfl k) ?_
  show G (s₁.setTop (mkF m 35 #[.val (.ref a1), .val (.int (4 : Int32)), .val (.long ((((((((w0 &&& (((255 : Int32).toUInt32 >>> ((4 : Int32) &&& 31).toUInt32).toInt32)).toInt64) <<< ((8 : Int32) &&& 0x3f).toInt64) ||| ((w1 &&& (255 : Int32)).toInt64)) <<< ((8 : Int32) &&& 0x3f).toInt64) ||| ((w2 &&& (255 : Int32)).toInt64)) <<< ((8 : Int32) &&& 0x3f).toInt64) ||| ((w3 &&& (255 : Int32)).toInt64))), .second, .val (.int (3 : Int32))] []))
  refine go (fun _ k => XS.iinc X0.here hx rfl (hb hby d1_35) rfl (l' := #[.val (.ref a1), .val (.int (4 : Int32)), .val (.long ((((((((w0 &&& (((255 : Int32).toUInt32 >>> ((4 : Int32) &&& 31).toUInt32).toInt32)).toInt64) <<< ((8 : Int32) &&& 0x3f).toInt64) ||| ((w1 &&& (255 : Int32)).toInt64)) <<< ((8 : Int32) &&& 0x3f).toInt64) ||| ((w2 &&& (255 : Int32)).toInt64)) <<< ((8 : Int32) &&& 0x3f).toInt64) ||| ((w3 &&& (255 : Int32)).toInt64))), .second, .val (.int ((3 : Int32) + (1 : Int32)))]) rfl k) ?_
  show G (s₁.setTop (mkF m 38 #[.val (.ref a1), .val (.int (4 : Int32)), .val (.long ((((((((w0 &&& (((255 : Int32).toUInt32 >>> ((4 : Int32) &&& 31).toUInt32).toInt32)).toInt64) <<< ((8 : Int32) &&& 0x3f).toInt64) ||| ((w1 &&& (255 : Int32)).toInt64)) <<< ((8 : Int32) &&& 0x3f).toInt64) ||| ((w2 &&& (255 : Int32)).toInt64)) <<< ((8 : Int32) &&& 0x3f).toInt64) ||| ((w3 &&& (255 : Int32)).toInt64))), .second, .val (.int ((3 : Int32) + (1 : Int32)))] []))
  rw [show ((3 : Int32) + (1 : Int32) : Int32) = (4 : Int32) from by decide]
  show G (s₁.setTop (mkF m 38 #[.val (.ref a1), .val (.int (4 : Int32)), .val (.long ((((((((w0 &&& (((255 : Int32).toUInt32 >>> ((4 : Int32) &&& 31).toUInt32).toInt32)).toInt64) <<< ((8 : Int32) &&& 0x3f).toInt64) ||| ((w1 &&& (255 : Int32)).toInt64)) <<< ((8 : Int32) &&& 0x3f).toInt64) ||| ((w2 &&& (255 : Int32)).toInt64)) <<< ((8 : Int32) &&& 0x3f).toInt64) ||| ((w3 &&& (255 : Int32)).toInt64))), .second, .val (.int (4 : Int32))] []))
  refine go (fun _ k => XS.goto X0.here hx rfl (pc0 := 38) (pc' := 14) rfl (hb hby d1_38) (by decide) (by decide) k) ?_
  show G (s₁.setTop (mkF m 14 #[.val (.ref a1), .val (.int (4 : Int32)), .val (.long ((((((((w0 &&& (((255 : Int32).toUInt32 >>> ((4 : Int32) &&& 31).toUInt32).toInt32)).toInt64) <<< ((8 : Int32) &&& 0x3f).toInt64) ||| ((w1 &&& (255 : Int32)).toInt64)) <<< ((8 : Int32) &&& 0x3f).toInt64) ||| ((w2 &&& (255 : Int32)).toInt64)) <<< ((8 : Int32) &&& 0x3f).toInt64) ||| ((w3 &&& (255 : Int32)).toInt64))), .second, .val (.int (4 : Int32))] []))
  refine go (fun _ k => XS.iload X0.here hx rfl (hb hby d1_14) rfl k) ?_
  show G (s₁.setTop (mkF m 16 #[.val (.ref a1), .val (.int (4 : Int32)), .val (.long ((((((((w0 &&& (((255 : Int32).toUInt32 >>> ((4 : Int32) &&& 31).toUInt32).toInt32)).toInt64) <<< ((8 : Int32) &&& 0x3f).toInt64) ||| ((w1 &&& (255 : Int32)).toInt64)) <<< ((8 : Int32) &&& 0x3f).toInt64) ||| ((w2 &&& (255 : Int32)).toInt64)) <<< ((8 : Int32) &&& 0x3f).toInt64) ||| ((w3 &&& (255 : Int32)).toInt64))), .second, .val (.int (4 : Int32))] [(.int (4 : Int32))]))
  refine go (fun _ k => XS.iloadN X0.here hx rfl (hb hby d1_16) rfl k) ?_
  show G (s₁.setTop (mkF m 17 #[.val (.ref a1), .val (.int (4 : Int32)), .val (.long ((((((((w0 &&& (((255 : Int32).toUInt32 >>> ((4 : Int32) &&& 31).toUInt32).toInt32)).toInt64) <<< ((8 : Int32) &&& 0x3f).toInt64) ||| ((w1 &&& (255 : Int32)).toInt64)) <<< ((8 : Int32) &&& 0x3f).toInt64) ||| ((w2 &&& (255 : Int32)).toInt64)) <<< ((8 : Int32) &&& 0x3f).toInt64) ||| ((w3 &&& (255 : Int32)).toInt64))), .second, .val (.int (4 : Int32))] [(.int (4 : Int32)), (.int (4 : Int32))]))
  have hc8 : ¬ ((4 : Int32) < (4 : Int32)) := (by decide)
  refine go (fun _ k => XS.icmpYes X0.here hx rfl (pc0 := 17) (pc' := 41) rfl (hb hby d1_17) rfl (flt hc8).2.1 (by decide) (by decide) k) ?_
  show G (s₁.setTop (mkF m 41 #[.val (.ref a1), .val (.int (4 : Int32)), .val (.long ((((((((w0 &&& (((255 : Int32).toUInt32 >>> ((4 : Int32) &&& 31).toUInt32).toInt32)).toInt64) <<< ((8 : Int32) &&& 0x3f).toInt64) ||| ((w1 &&& (255 : Int32)).toInt64)) <<< ((8 : Int32) &&& 0x3f).toInt64) ||| ((w2 &&& (255 : Int32)).toInt64)) <<< ((8 : Int32) &&& 0x3f).toInt64) ||| ((w3 &&& (255 : Int32)).toInt64))), .second, .val (.int (4 : Int32))] []))
  refine go (fun _ k => XS.lloadN X0.here hx rfl (hb hby d1_41) rfl k) ?_
  show G (s₁.setTop (mkF m 42 #[.val (.ref a1), .val (.int (4 : Int32)), .val (.long ((((((((w0 &&& (((255 : Int32).toUInt32 >>> ((4 : Int32) &&& 31).toUInt32).toInt32)).toInt64) <<< ((8 : Int32) &&& 0x3f).toInt64) ||| ((w1 &&& (255 : Int32)).toInt64)) <<< ((8 : Int32) &&& 0x3f).toInt64) ||| ((w2 &&& (255 : Int32)).toInt64)) <<< ((8 : Int32) &&& 0x3f).toInt64) ||| ((w3 &&& (255 : Int32)).toInt64))), .second, .val (.int (4 : Int32))] [(.long ((((((((w0 &&& (((255 : Int32).toUInt32 >>> ((4 : Int32) &&& 31).toUInt32).toInt32)).toInt64) <<< ((8 : Int32) &&& 0x3f).toInt64) ||| ((w1 &&& (255 : Int32)).toInt64)) <<< ((8 : Int32) &&& 0x3f).toInt64) ||| ((w2 &&& (255 : Int32)).toInt64)) <<< ((8 : Int32) &&& 0x3f).toInt64) ||| ((w3 &&& (255 : Int32)).toInt64)))]))
  rw [hG]
  refine own_fin X0 Bd.notSynchronized (v := some (.long ((((((((w0 &&& (((255 : Int32).toUInt32 >>> ((4 : Int32) &&& 31).toUInt32).toInt32)).toInt64) <<< ((8 : Int32) &&& 0x3f).toInt64) ||| ((w1 &&& (255 : Int32)).toInt64)) <<< ((8 : Int32) &&& 0x3f).toInt64) ||| ((w2 &&& (255 : Int32)).toInt64)) <<< ((8 : Int32) &&& 0x3f).toInt64) ||| ((w3 &&& (255 : Int32)).toInt64)))) (fun h => by rw [Bd.returns] at h; cases h) (fun fs hr => retOut X0 hx Bd.returns rfl (by simp [FieldType.isReference, Value.isRef]) (hb hby d1_42) hr) ?_ (by decide) (by decide)
  show Q1n4 Z a1 k w0 w1 w2 w3 w4 h0 n0 (some (.long ((((((((w0 &&& (((255 : Int32).toUInt32 >>> ((4 : Int32) &&& 31).toUInt32).toInt32)).toInt64) <<< ((8 : Int32) &&& 0x3f).toInt64) ||| ((w1 &&& (255 : Int32)).toInt64)) <<< ((8 : Int32) &&& 0x3f).toInt64) ||| ((w2 &&& (255 : Int32)).toInt64)) <<< ((8 : Int32) &&& 0x3f).toInt64) ||| ((w3 &&& (255 : Int32)).toInt64)))) s₁.heap _
  rw [e0]
  exact ⟨rfl, N0, rfl⟩

theorem ef_rm1n5 (m : MethodId) (a1 : Addr) : entryFrame m #[(.ref a1), (.int (5 : Int32))] 5 = mkF m 0 #[.val (.ref a1), .val (.int (5 : Int32)), .unset, .unset, .unset] [] := by first | (simp [entryFrame, mkF, argsToLocals, Value.category]; done) | rfl
def Q1n5 (Z : State) (a1 : Addr) (k : ClassId) (w0 w1 w2 w3 w4 : Int32) (h0 : Heap) (n0 : Nat) (v : Option Value) (h : Heap) (L : List Loc) : Prop := v = some (.long (dS (dS (dS (dS (d0 (5 : Int32) w0) w1) w2) w3) w4)) ∧ Fr n0 L ∧ h = h0
set_option maxRecDepth 65536 in
set_option maxHeartbeats 40000000 in
theorem rm1n5 (l : Launch) (Z : State) (a0 : Array Value) (hw : ∀ d ∈ tables_1, d.before a0 Z = true) (ws : List Jvm.Cond) (a1 : Addr) (k : ClassId) (w0 w1 w2 w3 w4 : Int32) (h0 : Heap) (n0 : Nat) (Z0 : n0 ≤ h0.size) (VA : Arv Z h0 a1 k .byte (5 : Int32) [(.int w0), (.int w1), (.int w2), (.int w3), (.int w4)] (.int (0 : Int32))) :
    MetFree l (⟨"com/example/parley/parley/sentence/WordLength", "decode", "([BI)J"⟩ : MethodName) (head1 (Jvm.Cond.code (⟨"com/example/parley/parley/sentence/WordLength", "decode", "([BI)J"⟩ : MethodName) prog_61_method_4_code 5 (some .long) :: ws) ({ frames := 0, cells := 0, slots := 0, locals := 0 } : Room)) (fun a U => a = #[(.ref a1), (.int (5 : Int32))] ∧ Z.Warmed39 U.vm ∧ U.heap = h0) (fun _ _ _ _ _ => True) (fun _ U o U' => ∃ v L, o = .returned v ∧ Q1n5 Z a1 k w0 w1 w2 w3 w4 h0 n0 v U'.heap L ∧ FrameEnd U o U' L ({ frames := 0, cells := 0, slots := 0, locals := 0 } : Room).cells ({ frames := 0, cells := 0, slots := 0, locals := 0 } : Room).slots) := by
  refine MetFree.of_bodySF (plainFor_of_name pn_1) hisR ?_
  intro p e s m args below meth c s₁ Bd hml0 hP hK
  obtain ⟨rfl, hZ, hh⟩ := hP
  have hx := Bd.exec
  have hby := Bd.bytes
  have hml : c.maxLocals = 5 := hml0
  have hown : s.vm.findClass "com/example/parley/parley/sentence/WordLength" = some m.cls := findClass_of_methodNamed Bd.named
  have hnm := (name_of_methodNamed Bd.named Bd.method).1
  have X0 : Stand p l e ({ frames := 0, cells := 0, slots := 0, locals := 0 } : Room) s m #[(.ref a1), (.int (5 : Int32))] below meth c s₁ [] 0 0 := Stand.of_body Bd
  have e0 : s₁.heap = h0 := by rw [← hh, Bd.state]; rfl
  have N0 := Fr.nil n0
  obtain ⟨G, hG⟩ : ∃ G : State → Prop, G = OwnG p e below s ({ frames := 0, cells := 0, slots := 0, locals := 0 } : Room).cells ({ frames := 0, cells := 0, slots := 0, locals := 0 } : Room).slots (Q1n5 Z a1 k w0 w1 w2 w3 w4 h0 n0) := ⟨_, rfl⟩
  have go : ∀ {A B : State}, (∀ t, Steps p.tables e below A t → Steps p.tables e below B t) → G A → G B := fun h k => by rw [hG] at k ⊢; exact OwnG.go h k
  suffices k0 : G (s₁.setTop (mkF m 0 #[.val (.ref a1), .val (.int (5 : Int32)), .unset, .unset, .unset] [])) by
    rw [hG] at k0; exact OwnG.go (fun t k => castTop (ef_rm1n5 m a1) k) k0
  refine go (fun _ k => XS.aloadN X0.here hx rfl (hb hby d1_0) rfl rfl k) ?_
  show G (s₁.setTop (mkF m 1 #[.val (.ref a1), .val (.int (5 : Int32)), .unset, .unset, .unset] [(.ref a1)]))
  refine go (fun _ k => XS.iconst X0.here hx rfl (hb hby d1_1) k) ?_
  show G (s₁.setTop (mkF m 2 #[.val (.ref a1), .val (.int (5 : Int32)), .unset, .unset, .unset] [(.int (0 : Int32)), (.ref a1)]))
  obtain ⟨cl1, Ar1, qk1, qs1, qn1, qh1, qg1⟩ := id VA
  refine go (X0.baloadBytes hx (j := (0 : Int32)) (v := (.int w0)) (by rw [e0]; exact Ar1.1) (State.isArrayOf_alike hZ.alike Ar1.2.1) Ar1.2.2 (inb_of qs1 ⟨by decide, by decide⟩) (Has.at qh1 (inb_of qs1 ⟨by decide, by decide⟩) rfl) (g := (mkF m 2 #[.val (.ref a1), .val (.int (5 : Int32)), .unset, .unset, .unset] [(.int (0 : Int32)), (.ref a1)])) rfl rfl (hb hby d1_2)) ?_
  show G (s₁.setTop (mkF m 3 #[.val (.ref a1), .val (.int (5 : Int32)), .unset, .unset, .unset] [(.int w0)]))
  refine go (fun _ k => XS.sipush X0.here hx rfl (hb hby d1_3) k) ?_
  show G (s₁.setTop (mkF m 6 #[.val (.ref a1), .val (.int (5 : Int32)), .unset, .unset, .unset] [(.int (255 : Int32)), (.int w0)]))
  refine go (fun _ k => XS.iloadN X0.here hx rfl (hb hby d1_6) rfl k) ?_
  show G (s₁.setTop (mkF m 7 #[.val (.ref a1), .val (.int (5 : Int32)), .unset, .unset, .unset] [(.int (5 : Int32)), (.int (255 : Int32)), (.int w0)]))
  refine go (fun _ k => XS.iushr X0.here hx rfl (hb hby d1_7) rfl k) ?_
  show G (s₁.setTop (mkF m 8 #[.val (.ref a1), .val (.int (5 : Int32)), .unset, .unset, .unset] [(.int (((255 : Int32).toUInt32 >>> ((5 : Int32) &&& 31).toUInt32).toInt32)), (.int w0)]))
  refine go (fun _ k => XS.iand X0.here hx rfl (hb hby d1_8) rfl k) ?_
  show G (s₁.setTop (mkF m 9 #[.val (.ref a1), .val (.int (5 : Int32)), .unset, .unset, .unset] [(.int (w0 &&& (((255 : Int32).toUInt32 >>> ((5 : Int32) &&& 31).toUInt32).toInt32)))]))
  refine go (fun _ k => XS.i2l X0.here hx rfl (hb hby d1_9) rfl k) ?_
  show G (s₁.setTop (mkF m 10 #[.val (.ref a1), .val (.int (5 : Int32)), .unset, .unset, .unset] [(.long ((w0 &&& (((255 : Int32).toUInt32 >>> ((5 : Int32) &&& 31).toUInt32).toInt32)).toInt64))]))
  refine go (fun _ k => XS.lstoreN X0.here hx rfl (hb hby d1_10) rfl (l' := #[.val (.ref a1), .val (.int (5 : Int32)), .val (.long ((w0 &&& (((255 : Int32).toUInt32 >>> ((5 : Int32) &&& 31).toUInt32).toInt32)).toInt64)), .second, .unset]) rfl k) ?_
  show G (s₁.setTop (mkF m 11 #[.val (.ref a1), .val (.int (5 : Int32)), .val (.long ((w0 &&& (((255 : Int32).toUInt32 >>> ((5 : Int32) &&& 31).toUInt32).toInt32)).toInt64)), .second, .unset] []))
  refine go (fun _ k => XS.iconst X0.here hx rfl (hb hby d1_11) k) ?_
  show G (s₁.setTop (mkF m 12 #[.val (.ref a1), .val (.int (5 : Int32)), .val (.long ((w0 &&& (((255 : Int32).toUInt32 >>> ((5 : Int32) &&& 31).toUInt32).toInt32)).toInt64)), .second, .unset] [(.int (1 : Int32))]))
  refine go (fun _ k => XS.istore X0.here hx rfl (hb hby d1_12) rfl (l' := #[.val (.ref a1), .val (.int (5 : Int32)), .val (.long ((w0 &&& (((255 : Int32).toUInt32 >>> ((5 : Int32) &&& 31).toUInt32).toInt32)).toInt64)), .second, .val (.int (1 : Int32))]) rfl k) ?_
  show G (s₁.setTop (mkF m 14 #[.val (.ref a1), .val (.int (5 : Int32)), .val (.long ((w0 &&& (((255 : Int32).toUInt32 >>> ((5 : Int32) &&& 31).toUInt32).toInt32)).toInt64)), .second, .val (.int (1 : Int32))] []))
  refine go (fun _ k => XS.iload X0.here hx rfl (hb hby d1_14) rfl k) ?_
  show G (s₁.setTop (mkF m 16 #[.val (.ref a1), .val (.int (5 : Int32)), .val (.long ((w0 &&& (((255 : Int32).toUInt32 >>> ((5 : Int32) &&& 31).toUInt32).toInt32)).toInt64)), .second, .val (.int (1 : Int32))] [(.int (1 : Int32))]))
  refine go (fun _ k => XS.iloadN X0.here hx rfl (hb hby d1_16) rfl k) ?_
  show G (s₁.setTop (mkF m 17 #[.val (.ref a1), .val (.int (5 : Int32)), .val (.long ((w0 &&& (((255 : Int32).toUInt32 >>> ((5 : Int32) &&& 31).toUInt32).toInt32)).toInt64)), .second, .val (.int (1 : Int32))] [(.int (5 : Int32)), (.int (1 : Int32))]))
  have hc2 : (1 : Int32) < (5 : Int32) := (by decide)
  refine go (fun _ k => XS.icmpNo X0.here hx rfl (hb hby d1_17) rfl (tlt hc2).2.1 k) ?_
  show G (s₁.setTop (mkF m 20 #[.val (.ref a1), .val (.int (5 : Int32)), .val (.long ((w0 &&& (((255 : Int32).toUInt32 >>> ((5 : Int32) &&& 31).toUInt32).toInt32)).toInt64)), .second, .val (.int (1 : Int32))] []))
  refine go (fun _ k => XS.lloadN X0.here hx rfl (hb hby d1_20) rfl k) ?_
  show G (s₁.setTop (mkF m 21 #[.val (.ref a1), .val (.int (5 : Int32)), .val (.long ((w0 &&& (((255 : Int32).toUInt32 >>> ((5 : Int32) &&& 31).toUInt32).toInt32)).toInt64)), .second, .val (.int (1 : Int32))] [(.long ((w0 &&& (((255 : Int32).toUInt32 >>> ((5 : Int32) &&& 31).toUInt32).toInt32)).toInt64))]))
  refine go (fun _ k => XS.bipush X0.here hx rfl (hb hby d1_21) k) ?_
  show G (s₁.setTop (mkF m 23 #[.val (.ref a1), .val (.int (5 : Int32)), .val (.long ((w0 &&& (((255 : Int32).toUInt32 >>> ((5 : Int32) &&& 31).toUInt32).toInt32)).toInt64)), .second, .val (.int (1 : Int32))] [(.int (8 : Int32)), (.long ((w0 &&& (((255 : Int32).toUInt32 >>> ((5 : Int32) &&& 31).toUInt32).toInt32)).toInt64))]))
  refine go (fun _ k => XS.lshl X0.here hx rfl (hb hby d1_23) rfl k) ?_
  show G (s₁.setTop (mkF m 24 #[.val (.ref a1), .val (.int (5 : Int32)), .val (.long ((w0 &&& (((255 : Int32).toUInt32 >>> ((5 : Int32) &&& 31).toUInt32).toInt32)).toInt64)), .second, .val (.int (1 : Int32))] [(.long (((w0 &&& (((255 : Int32).toUInt32 >>> ((5 : Int32) &&& 31).toUInt32).toInt32)).toInt64) <<< ((8 : Int32) &&& 0x3f).toInt64))]))
  refine go (fun _ k => XS.aloadN X0.here hx rfl (hb hby d1_24) rfl rfl k) ?_
  show G (s₁.setTop (mkF m 25 #[.val (.ref a1), .val (.int (5 : Int32)), .val (.long ((w0 &&& (((255 : Int32).toUInt32 >>> ((5 : Int32) &&& 31).toUInt32).toInt32)).toInt64)), .second, .val (.int (1 : Int32))] [(.ref a1), (.long (((w0 &&& (((255 : Int32).toUInt32 >>> ((5 : Int32) &&& 31).toUInt32).toInt32)).toInt64) <<< ((8 : Int32) &&& 0x3f).toInt64))]))
  refine go (fun _ k => XS.iload X0.here hx rfl (hb hby d1_25) rfl k) ?_
  show G (s₁.setTop (mkF m 27 #[.val (.ref a1), .val (.int (5 : Int32)), .val (.long ((w0 &&& (((255 : Int32).toUInt32 >>> ((5 : Int32) &&& 31).toUInt32).toInt32)).toInt64)), .second, .val (.int (1 : Int32))] [(.int (1 : Int32)), (.ref a1), (.long (((w0 &&& (((255 : Int32).toUInt32 >>> ((5 : Int32) &&& 31).toUInt32).toInt32)).toInt64) <<< ((8 : Int32) &&& 0x3f).toInt64))]))
  obtain ⟨cl3, Ar3, qk3, qs3, qn3, qh3, qg3⟩ := id VA
  refine go (X0.baloadBytes hx (j := (1 : Int32)) (v := (.int w1)) (by rw [e0]; exact Ar3.1) (State.isArrayOf_alike hZ.alike Ar3.2.1) Ar3.2.2 (inb_of qs3 ⟨by decide, by decide⟩) (Has.at qh3 (inb_of qs3 ⟨by decide, by decide⟩) rfl) (g := (mkF m 27 #[.val (.ref a1), .val (.int (5 : Int32)), .val (.long ((w0 &&& (((255 : Int32).toUInt32 >>> ((5 : Int32) &&& 31).toUInt32).toInt32)).toInt64)), .second, .val (.int (1 : Int32))] [(.int (1 : Int32)), (.ref a1), (.long (((w0 &&& (((255 : Int32).toUInt32 >>> ((5 : Int32) &&& 31).toUInt32).toInt32)).toInt64) <<< ((8 : Int32) &&& 0x3f).toInt64))])) rfl rfl (hb hby d1_27)) ?_
  show G (s₁.setTop (mkF m 28 #[.val (.ref a1), .val (.int (5 : Int32)), .val (.long ((w0 &&& (((255 : Int32).toUInt32 >>> ((5 : Int32) &&& 31).toUInt32).toInt32)).toInt64)), .second, .val (.int (1 : Int32))] [(.int w1), (.long (((w0 &&& (((255 : Int32).toUInt32 >>> ((5 : Int32) &&& 31).toUInt32).toInt32)).toInt64) <<< ((8 : Int32) &&& 0x3f).toInt64))]))
  refine go (fun _ k => XS.sipush X0.here hx rfl (hb hby d1_28) k) ?_
  show G (s₁.setTop (mkF m 31 #[.val (.ref a1), .val (.int (5 : Int32)), .val (.long ((w0 &&& (((255 : Int32).toUInt32 >>> ((5 : Int32) &&& 31).toUInt32).toInt32)).toInt64)), .second, .val (.int (1 : Int32))] [(.int (255 : Int32)), (.int w1), (.long (((w0 &&& (((255 : Int32).toUInt32 >>> ((5 : Int32) &&& 31).toUInt32).toInt32)).toInt64) <<< ((8 : Int32) &&& 0x3f).toInt64))]))
  refine go (fun _ k => XS.iand X0.here hx rfl (hb hby d1_31) rfl k) ?_
  show G (s₁.setTop (mkF m 32 #[.val (.ref a1), .val (.int (5 : Int32)), .val (.long ((w0 &&& (((255 : Int32).toUInt32 >>> ((5 : Int32) &&& 31).toUInt32).toInt32)).toInt64)), .second, .val (.int (1 : Int32))] [(.int (w1 &&& (255 : Int32))), (.long (((w0 &&& (((255 : Int32).toUInt32 >>> ((5 : Int32) &&& 31).toUInt32).toInt32)).toInt64) <<< ((8 : Int32) &&& 0x3f).toInt64))]))
  refine go (fun _ k => XS.i2l X0.here hx rfl (hb hby d1_32) rfl k) ?_
  show G (s₁.setTop (mkF m 33 #[.val (.ref a1), .val (.int (5 : Int32)), .val (.long ((w0 &&& (((255 : Int32).toUInt32 >>> ((5 : Int32) &&& 31).toUInt32).toInt32)).toInt64)), .second, .val (.int (1 : Int32))] [(.long ((w1 &&& (255 : Int32)).toInt64)), (.long (((w0 &&& (((255 : Int32).toUInt32 >>> ((5 : Int32) &&& 31).toUInt32).toInt32)).toInt64) <<< ((8 : Int32) &&& 0x3f).toInt64))]))
  refine go (fun _ k => XS.lor X0.here hx rfl (hb hby d1_33) rfl k) ?_
  show G (s₁.setTop (mkF m 34 #[.val (.ref a1), .val (.int (5 : Int32)), .val (.long ((w0 &&& (((255 : Int32).toUInt32 >>> ((5 : Int32) &&& 31).toUInt32).toInt32)).toInt64)), .second, .val (.int (1 : Int32))] [(.long ((((w0 &&& (((255 : Int32).toUInt32 >>> ((5 : Int32) &&& 31).toUInt32).toInt32)).toInt64) <<< ((8 : Int32) &&& 0x3f).toInt64) ||| ((w1 &&& (255 : Int32)).toInt64)))]))
  refine go (fun _ k => XS.lstoreN X0.here hx rfl (hb hby d1_34) rfl (l' := #[.val (.ref a1), .val (.int (5 : Int32)), .val (.long ((((w0 &&& (((255 : Int32).toUInt32 >>> ((5 : Int32) &&& 31).toUInt32).toInt32)).toInt64) <<< ((8 : Int32) &&& 0x3f).toInt64) ||| ((w1 &&& (255 : Int32)).toInt64))), .second, .val (.int (1 : Int32))]) rfl k) ?_
  show G (s₁.setTop (mkF m 35 #[.val (.ref a1), .val (.int (5 : Int32)), .val (.long ((((w0 &&& (((255 : Int32).toUInt32 >>> ((5 : Int32) &&& 31).toUInt32).toInt32)).toInt64) <<< ((8 : Int32) &&& 0x3f).toInt64) ||| ((w1 &&& (255 : Int32)).toInt64))), .second, .val (.int (1 : Int32))] []))
  refine go (fun _ k => XS.iinc X0.here hx rfl (hb hby d1_35) rfl (l' := #[.val (.ref a1), .val (.int (5 : Int32)), .val (.long ((((w0 &&& (((255 : Int32).toUInt32 >>> ((5 : Int32) &&& 31).toUInt32).toInt32)).toInt64) <<< ((8 : Int32) &&& 0x3f).toInt64) ||| ((w1 &&& (255 : Int32)).toInt64))), .second, .val (.int ((1 : Int32) + (1 : Int32)))]) rfl k) ?_
  show G (s₁.setTop (mkF m 38 #[.val (.ref a1), .val (.int (5 : Int32)), .val (.long ((((w0 &&& (((255 : Int32).toUInt32 >>> ((5 : Int32) &&& 31).toUInt32).toInt32)).toInt64) <<< ((8 : Int32) &&& 0x3f).toInt64) ||| ((w1 &&& (255 : Int32)).toInt64))), .second, .val (.int ((1 : Int32) + (1 : Int32)))] []))
  rw [show ((1 : Int32) + (1 : Int32) : Int32) = (2 : Int32) from by decide]
  show G (s₁.setTop (mkF m 38 #[.val (.ref a1), .val (.int (5 : Int32)), .val (.long ((((w0 &&& (((255 : Int32).toUInt32 >>> ((5 : Int32) &&& 31).toUInt32).toInt32)).toInt64) <<< ((8 : Int32) &&& 0x3f).toInt64) ||| ((w1 &&& (255 : Int32)).toInt64))), .second, .val (.int (2 : Int32))] []))
  refine go (fun _ k => XS.goto X0.here hx rfl (pc0 := 38) (pc' := 14) rfl (hb hby d1_38) (by decide) (by decide) k) ?_
  show G (s₁.setTop (mkF m 14 #[.val (.ref a1), .val (.int (5 : Int32)), .val (.long ((((w0 &&& (((255 : Int32).toUInt32 >>> ((5 : Int32) &&& 31).toUInt32).toInt32)).toInt64) <<< ((8 : Int32) &&& 0x3f).toInt64) ||| ((w1 &&& (255 : Int32)).toInt64))), .second, .val (.int (2 : Int32))] []))
  refine go (fun _ k => XS.iload X0.here hx rfl (hb hby d1_14) rfl k) ?_
  show G (s₁.setTop (mkF m 16 #[.val (.ref a1), .val (.int (5 : Int32)), .val (.long ((((w0 &&& (((255 : Int32).toUInt32 >>> ((5 : Int32) &&& 31).toUInt32).toInt32)).toInt64) <<< ((8 : Int32) &&& 0x3f).toInt64) ||| ((w1 &&& (255 : Int32)).toInt64))), .second, .val (.int (2 : Int32))] [(.int (2 : Int32))]))
  refine go (fun _ k => XS.iloadN X0.here hx rfl (hb hby d1_16) rfl k) ?_
  show G (s₁.setTop (mkF m 17 #[.val (.ref a1), .val (.int (5 : Int32)), .val (.long ((((w0 &&& (((255 : Int32).toUInt32 >>> ((5 : Int32) &&& 31).toUInt32).toInt32)).toInt64) <<< ((8 : Int32) &&& 0x3f).toInt64) ||| ((w1 &&& (255 : Int32)).toInt64))), .second, .val (.int (2 : Int32))] [(.int (5 : Int32)), (.int (2 : Int32))]))
  have hc4 : (2 : Int32) < (5 : Int32) := (by decide)
  refine go (fun _ k => XS.icmpNo X0.here hx rfl (hb hby d1_17) rfl (tlt hc4).2.1 k) ?_
  show G (s₁.setTop (mkF m 20 #[.val (.ref a1), .val (.int (5 : Int32)), .val (.long ((((w0 &&& (((255 : Int32).toUInt32 >>> ((5 : Int32) &&& 31).toUInt32).toInt32)).toInt64) <<< ((8 : Int32) &&& 0x3f).toInt64) ||| ((w1 &&& (255 : Int32)).toInt64))), .second, .val (.int (2 : Int32))] []))
  refine go (fun _ k => XS.lloadN X0.here hx rfl (hb hby d1_20) rfl k) ?_
  show G (s₁.setTop (mkF m 21 #[.val (.ref a1), .val (.int (5 : Int32)), .val (.long ((((w0 &&& (((255 : Int32).toUInt32 >>> ((5 : Int32) &&& 31).toUInt32).toInt32)).toInt64) <<< ((8 : Int32) &&& 0x3f).toInt64) ||| ((w1 &&& (255 : Int32)).toInt64))), .second, .val (.int (2 : Int32))] [(.long ((((w0 &&& (((255 : Int32).toUInt32 >>> ((5 : Int32) &&& 31).toUInt32).toInt32)).toInt64) <<< ((8 : Int32) &&& 0x3f).toInt64) ||| ((w1 &&& (255 : Int32)).toInt64)))]))
  refine go (fun _ k => XS.bipush X0.here hx rfl (hb hby d1_21) k) ?_
  show G (s₁.setTop (mkF m 23 #[.val (.ref a1), .val (.int (5 : Int32)), .val (.long ((((w0 &&& (((255 : Int32).toUInt32 >>> ((5 : Int32) &&& 31).toUInt32).toInt32)).toInt64) <<< ((8 : Int32) &&& 0x3f).toInt64) ||| ((w1 &&& (255 : Int32)).toInt64))), .second, .val (.int (2 : Int32))] [(.int (8 : Int32)), (.long ((((w0 &&& (((255 : Int32).toUInt32 >>> ((5 : Int32) &&& 31).toUInt32).toInt32)).toInt64) <<< ((8 : Int32) &&& 0x3f).toInt64) ||| ((w1 &&& (255 : Int32)).toInt64)))]))
  refine go (fun _ k => XS.lshl X0.here hx rfl (hb hby d1_23) rfl k) ?_
  show G (s₁.setTop (mkF m 24 #[.val (.ref a1), .val (.int (5 : Int32)), .val (.long ((((w0 &&& (((255 : Int32).toUInt32 >>> ((5 : Int32) &&& 31).toUInt32).toInt32)).toInt64) <<< ((8 : Int32) &&& 0x3f).toInt64) ||| ((w1 &&& (255 : Int32)).toInt64))), .second, .val (.int (2 : Int32))] [(.long (((((w0 &&& (((255 : Int32).toUInt32 >>> ((5 : Int32) &&& 31).toUInt32).toInt32)).toInt64) <<< ((8 : Int32) &&& 0x3f).toInt64) ||| ((w1 &&& (255 : Int32)).toInt64)) <<< ((8 : Int32) &&& 0x3f).toInt64))]))
  refine go (fun _ k => XS.aloadN X0.here hx rfl (hb hby d1_24) rfl rfl k) ?_
  show G (s₁.setTop (mkF m 25 #[.val (.ref a1), .val (.int (5 : Int32)), .val (.long ((((w0 &&& (((255 : Int32).toUInt32 >>> ((5 : Int32) &&& 31).toUInt32).toInt32)).toInt64) <<< ((8 : Int32) &&& 0x3f).toInt64) ||| ((w1 &&& (255 : Int32)).toInt64))), .second, .val (.int (2 : Int32))] [(.ref a1), (.long (((((w0 &&& (((255 : Int32).toUInt32 >>> ((5 : Int32) &&& 31).toUInt32).toInt32)).toInt64) <<< ((8 : Int32) &&& 0x3f).toInt64) ||| ((w1 &&& (255 : Int32)).toInt64)) <<< ((8 : Int32) &&& 0x3f).toInt64))]))
  refine go (fun _ k => XS.iload X0.here hx rfl (hb hby d1_25) rfl k) ?_
  show G (s₁.setTop (mkF m 27 #[.val (.ref a1), .val (.int (5 : Int32)), .val (.long ((((w0 &&& (((255 : Int32).toUInt32 >>> ((5 : Int32) &&& 31).toUInt32).toInt32)).toInt64) <<< ((8 : Int32) &&& 0x3f).toInt64) ||| ((w1 &&& (255 : Int32)).toInt64))), .second, .val (.int (2 : Int32))] [(.int (2 : Int32)), (.ref a1), (.long (((((w0 &&& (((255 : Int32).toUInt32 >>> ((5 : Int32) &&& 31).toUInt32).toInt32)).toInt64) <<< ((8 : Int32) &&& 0x3f).toInt64) ||| ((w1 &&& (255 : Int32)).toInt64)) <<< ((8 : Int32) &&& 0x3f).toInt64))]))
  obtain ⟨cl5, Ar5, qk5, qs5, qn5, qh5, qg5⟩ := id VA
  refine go (X0.baloadBytes hx (j := (2 : Int32)) (v := (.int w2)) (by rw [e0]; exact Ar5.1) (State.isArrayOf_alike hZ.alike Ar5.2.1) Ar5.2.2 (inb_of qs5 ⟨by decide, by decide⟩) (Has.at qh5 (inb_of qs5 ⟨by decide, by decide⟩) rfl) (g := (mkF m 27 #[.val (.ref a1), .val (.int (5 : Int32)), .val (.long ((((w0 &&& (((255 : Int32).toUInt32 >>> ((5 : Int32) &&& 31).toUInt32).toInt32)).toInt64) <<< ((8 : Int32) &&& 0x3f).toInt64) ||| ((w1 &&& (255 : Int32)).toInt64))), .second, .val (.int (2 : Int32))] [(.int (2 : Int32)), (.ref a1), (.long (((((w0 &&& (((255 : Int32).toUInt32 >>> ((5 : Int32) &&& 31).toUInt32).toInt32)).toInt64) <<< ((8 : Int32) &&& 0x3f).toInt64) ||| ((w1 &&& (255 : Int32)).toInt64)) <<< ((8 : Int32) &&& 0x3f).toInt64))])) rfl rfl (hb hby d1_27)) ?_
  show G (s₁.setTop (mkF m 28 #[.val (.ref a1), .val (.int (5 : Int32)), .val (.long ((((w0 &&& (((255 : Int32).toUInt32 >>> ((5 : Int32) &&& 31).toUInt32).toInt32)).toInt64) <<< ((8 : Int32) &&& 0x3f).toInt64) ||| ((w1 &&& (255 : Int32)).toInt64))), .second, .val (.int (2 : Int32))] [(.int w2), (.long (((((w0 &&& (((255 : Int32).toUInt32 >>> ((5 : Int32) &&& 31).toUInt32).toInt32)).toInt64) <<< ((8 : Int32) &&& 0x3f).toInt64) ||| ((w1 &&& (255 : Int32)).toInt64)) <<< ((8 : Int32) &&& 0x3f).toInt64))]))
  refine go (fun _ k => XS.sipush X0.here hx rfl (hb hby d1_28) k) ?_
  show G (s₁.setTop (mkF m 31 #[.val (.ref a1), .val (.int (5 : Int32)), .val (.long ((((w0 &&& (((255 : Int32).toUInt32 >>> ((5 : Int32) &&& 31).toUInt32).toInt32)).toInt64) <<< ((8 : Int32) &&& 0x3f).toInt64) ||| ((w1 &&& (255 : Int32)).toInt64))), .second, .val (.int (2 : Int32))] [(.int (255 : Int32)), (.int w2), (.long (((((w0 &&& (((255 : Int32).toUInt32 >>> ((5 : Int32) &&& 31).toUInt32).toInt32)).toInt64) <<< ((8 : Int32) &&& 0x3f).toInt64) ||| ((w1 &&& (255 : Int32)).toInt64)) <<< ((8 : Int32) &&& 0x3f).toInt64))]))
  refine go (fun _ k => XS.iand X0.here hx rfl (hb hby d1_31) rfl k) ?_
  show G (s₁.setTop (mkF m 32 #[.val (.ref a1), .val (.int (5 : Int32)), .val (.long ((((w0 &&& (((255 : Int32).toUInt32 >>> ((5 : Int32) &&& 31).toUInt32).toInt32)).toInt64) <<< ((8 : Int32) &&& 0x3f).toInt64) ||| ((w1 &&& (255 : Int32)).toInt64))), .second, .val (.int (2 : Int32))] [(.int (w2 &&& (255 : Int32))), (.long (((((w0 &&& (((255 : Int32).toUInt32 >>> ((5 : Int32) &&& 31).toUInt32).toInt32)).toInt64) <<< ((8 : Int32) &&& 0x3f).toInt64) ||| ((w1 &&& (255 : Int32)).toInt64)) <<< ((8 : Int32) &&& 0x3f).toInt64))]))
  refine go (fun _ k => XS.i2l X0.here hx rfl (hb hby d1_32) rfl k) ?_
  show G (s₁.setTop (mkF m 33 #[.val (.ref a1), .val (.int (5 : Int32)), .val (.long ((((w0 &&& (((255 : Int32).toUInt32 >>> ((5 : Int32) &&& 31).toUInt32).toInt32)).toInt64) <<< ((8 : Int32) &&& 0x3f).toInt64) ||| ((w1 &&& (255 : Int32)).toInt64))), .second, .val (.int (2 : Int32))] [(.long ((w2 &&& (255 : Int32)).toInt64)), (.long (((((w0 &&& (((255 : Int32).toUInt32 >>> ((5 : Int32) &&& 31).toUInt32).toInt32)).toInt64) <<< ((8 : Int32) &&& 0x3f).toInt64) ||| ((w1 &&& (255 : Int32)).toInt64)) <<< ((8 : Int32) &&& 0x3f).toInt64))]))
  refine go (fun _ k => XS.lor X0.here hx rfl (hb hby d1_33) rfl k) ?_
  show G (s₁.setTop (mkF m 34 #[.val (.ref a1), .val (.int (5 : Int32)), .val (.long ((((w0 &&& (((255 : Int32).toUInt32 >>> ((5 : Int32) &&& 31).toUInt32).toInt32)).toInt64) <<< ((8 : Int32) &&& 0x3f).toInt64) ||| ((w1 &&& (255 : Int32)).toInt64))), .second, .val (.int (2 : Int32))] [(.long ((((((w0 &&& (((255 : Int32).toUInt32 >>> ((5 : Int32) &&& 31).toUInt32).toInt32)).toInt64) <<< ((8 : Int32) &&& 0x3f).toInt64) ||| ((w1 &&& (255 : Int32)).toInt64)) <<< ((8 : Int32) &&& 0x3f).toInt64) ||| ((w2 &&& (255 : Int32)).toInt64)))]))
  refine go (fun _ k => XS.lstoreN X0.here hx rfl (hb hby d1_34) rfl (l' := #[.val (.ref a1), .val (.int (5 : Int32)), .val (.long ((((((w0 &&& (((255 : Int32).toUInt32 >>> ((5 : Int32) &&& 31).toUInt32).toInt32)).toInt64) <<< ((8 : Int32) &&& 0x3f).toInt64) ||| ((w1 &&& (255 : Int32)).toInt64)) <<< ((8 : Int32) &&& 0x3f).toInt64) ||| ((w2 &&& (255 : Int32)).toInt64))), .second, .val (.int (2 : Int32))]) rfl k) ?_
  show G (s₁.setTop (mkF m 35 #[.val (.ref a1), .val (.int (5 : Int32)), .val (.long ((((((w0 &&& (((255 : Int32).toUInt32 >>> ((5 : Int32) &&& 31).toUInt32).toInt32)).toInt64) <<< ((8 : Int32) &&& 0x3f).toInt64) ||| ((w1 &&& (255 : Int32)).toInt64)) <<< ((8 : Int32) &&& 0x3f).toInt64) ||| ((w2 &&& (255 : Int32)).toInt64))), .second, .val (.int (2 : Int32))] []))
  refine go (fun _ k => XS.iinc X0.here hx rfl (hb hby d1_35) rfl (l' := #[.val (.ref a1), .val (.int (5 : Int32)), .val (.long ((((((w0 &&& (((255 : Int32).toUInt32 >>> ((5 : Int32) &&& 31).toUInt32).toInt32)).toInt64) <<< ((8 : Int32) &&& 0x3f).toInt64) ||| ((w1 &&& (255 : Int32)).toInt64)) <<< ((8 : Int32) &&& 0x3f).toInt64) ||| ((w2 &&& (255 : Int32)).toInt64))), .second, .val (.int ((2 : Int32) + (1 : Int32)))]) rfl k) ?_
  show G (s₁.setTop (mkF m 38 #[.val (.ref a1), .val (.int (5 : Int32)), .val (.long ((((((w0 &&& (((255 : Int32).toUInt32 >>> ((5 : Int32) &&& 31).toUInt32).toInt32)).toInt64) <<< ((8 : Int32) &&& 0x3f).toInt64) ||| ((w1 &&& (255 : Int32)).toInt64)) <<< ((8 : Int32) &&& 0x3f).toInt64) ||| ((w2 &&& (255 : Int32)).toInt64))), .second, .val (.int ((2 : Int32) + (1 : Int32)))] []))
  rw [show ((2 : Int32) + (1 : Int32) : Int32) = (3 : Int32) from by decide]
  show G (s₁.setTop (mkF m 38 #[.val (.ref a1), .val (.int (5 : Int32)), .val (.long ((((((w0 &&& (((255 : Int32).toUInt32 >>> ((5 : Int32) &&& 31).toUInt32).toInt32)).toInt64) <<< ((8 : Int32) &&& 0x3f).toInt64) ||| ((w1 &&& (255 : Int32)).toInt64)) <<< ((8 : Int32) &&& 0x3f).toInt64) ||| ((w2 &&& (255 : Int32)).toInt64))), .second, .val (.int (3 : Int32))] []))
  refine go (fun _ k => XS.goto X0.here hx rfl (pc0 := 38) (pc' := 14) rfl (hb hby d1_38) (by decide) (by decide) k) ?_
  show G (s₁.setTop (mkF m 14 #[.val (.ref a1), .val (.int (5 : Int32)), .val (.long ((((((w0 &&& (((255 : Int32).toUInt32 >>> ((5 : Int32) &&& 31).toUInt32).toInt32)).toInt64) <<< ((8 : Int32) &&& 0x3f).toInt64) ||| ((w1 &&& (255 : Int32)).toInt64)) <<< ((8 : Int32) &&& 0x3f).toInt64) ||| ((w2 &&& (255 : Int32)).toInt64))), .second, .val (.int (3 : Int32))] []))
  refine go (fun _ k => XS.iload X0.here hx rfl (hb hby d1_14) rfl k) ?_
  show G (s₁.setTop (mkF m 16 #[.val (.ref a1), .val (.int (5 : Int32)), .val (.long ((((((w0 &&& (((255 : Int32).toUInt32 >>> ((5 : Int32) &&& 31).toUInt32).toInt32)).toInt64) <<< ((8 : Int32) &&& 0x3f).toInt64) ||| ((w1 &&& (255 : Int32)).toInt64)) <<< ((8 : Int32) &&& 0x3f).toInt64) ||| ((w2 &&& (255 : Int32)).toInt64))), .second, .val (.int (3 : Int32))] [(.int (3 : Int32))]))
  refine go (fun _ k => XS.iloadN X0.here hx rfl (hb hby d1_16) rfl k) ?_
  show G (s₁.setTop (mkF m 17 #[.val (.ref a1), .val (.int (5 : Int32)), .val (.long ((((((w0 &&& (((255 : Int32).toUInt32 >>> ((5 : Int32) &&& 31).toUInt32).toInt32)).toInt64) <<< ((8 : Int32) &&& 0x3f).toInt64) ||| ((w1 &&& (255 : Int32)).toInt64)) <<< ((8 : Int32) &&& 0x3f).toInt64) ||| ((w2 &&& (255 : Int32)).toInt64))), .second, .val (.int (3 : Int32))] [(.int (5 : Int32)), (.int (3 : Int32))]))
  have hc6 : (3 : Int32) < (5 : Int32) := (by decide)
  refine go (fun _ k => XS.icmpNo X0.here hx rfl (hb hby d1_17) rfl (tlt hc6).2.1 k) ?_
  show G (s₁.setTop (mkF m 20 #[.val (.ref a1), .val (.int (5 : Int32)), .val (.long ((((((w0 &&& (((255 : Int32).toUInt32 >>> ((5 : Int32) &&& 31).toUInt32).toInt32)).toInt64) <<< ((8 : Int32) &&& 0x3f).toInt64) ||| ((w1 &&& (255 : Int32)).toInt64)) <<< ((8 : Int32) &&& 0x3f).toInt64) ||| ((w2 &&& (255 : Int32)).toInt64))), .second, .val (.int (3 : Int32))] []))
  refine go (fun _ k => XS.lloadN X0.here hx rfl (hb hby d1_20) rfl k) ?_
  show G (s₁.setTop (mkF m 21 #[.val (.ref a1), .val (.int (5 : Int32)), .val (.long ((((((w0 &&& (((255 : Int32).toUInt32 >>> ((5 : Int32) &&& 31).toUInt32).toInt32)).toInt64) <<< ((8 : Int32) &&& 0x3f).toInt64) ||| ((w1 &&& (255 : Int32)).toInt64)) <<< ((8 : Int32) &&& 0x3f).toInt64) ||| ((w2 &&& (255 : Int32)).toInt64))), .second, .val (.int (3 : Int32))] [(.long ((((((w0 &&& (((255 : Int32).toUInt32 >>> ((5 : Int32) &&& 31).toUInt32).toInt32)).toInt64) <<< ((8 : Int32) &&& 0x3f).toInt64) ||| ((w1 &&& (255 : Int32)).toInt64)) <<< ((8 : Int32) &&& 0x3f).toInt64) ||| ((w2 &&& (255 : Int32)).toInt64)))]))
  refine go (fun _ k => XS.bipush X0.here hx rfl (hb hby d1_21) k) ?_
  show G (s₁.setTop (mkF m 23 #[.val (.ref a1), .val (.int (5 : Int32)), .val (.long ((((((w0 &&& (((255 : Int32).toUInt32 >>> ((5 : Int32) &&& 31).toUInt32).toInt32)).toInt64) <<< ((8 : Int32) &&& 0x3f).toInt64) ||| ((w1 &&& (255 : Int32)).toInt64)) <<< ((8 : Int32) &&& 0x3f).toInt64) ||| ((w2 &&& (255 : Int32)).toInt64))), .second, .val (.int (3 : Int32))] [(.int (8 : Int32)), (.long ((((((w0 &&& (((255 : Int32).toUInt32 >>> ((5 : Int32) &&& 31).toUInt32).toInt32)).toInt64) <<< ((8 : Int32) &&& 0x3f).toInt64) ||| ((w1 &&& (255 : Int32)).toInt64)) <<< ((8 : Int32) &&& 0x3f).toInt64) ||| ((w2 &&& (255 : Int32)).toInt64)))]))
  refine go (fun _ k => XS.lshl X0.here hx rfl (hb hby d1_23) rfl k) ?_
  show G (s₁.setTop (mkF m 24 #[.val (.ref a1), .val (.int (5 : Int32)), .val (.long ((((((w0 &&& (((255 : Int32).toUInt32 >>> ((5 : Int32) &&& 31).toUInt32).toInt32)).toInt64) <<< ((8 : Int32) &&& 0x3f).toInt64) ||| ((w1 &&& (255 : Int32)).toInt64)) <<< ((8 : Int32) &&& 0x3f).toInt64) ||| ((w2 &&& (255 : Int32)).toInt64))), .second, .val (.int (3 : Int32))] [(.long (((((((w0 &&& (((255 : Int32).toUInt32 >>> ((5 : Int32) &&& 31).toUInt32).toInt32)).toInt64) <<< ((8 : Int32) &&& 0x3f).toInt64) ||| ((w1 &&& (255 : Int32)).toInt64)) <<< ((8 : Int32) &&& 0x3f).toInt64) ||| ((w2 &&& (255 : Int32)).toInt64)) <<< ((8 : Int32) &&& 0x3f).toInt64))]))
  refine go (fun _ k => XS.aloadN X0.here hx rfl (hb hby d1_24) rfl rfl k) ?_
  show G (s₁.setTop (mkF m 25 #[.val (.ref a1), .val (.int (5 : Int32)), .val (.long ((((((w0 &&& (((255 : Int32).toUInt32 >>> ((5 : Int32) &&& 31).toUInt32).toInt32)).toInt64) <<< ((8 : Int32) &&& 0x3f).toInt64) ||| ((w1 &&& (255 : Int32)).toInt64)) <<< ((8 : Int32) &&& 0x3f).toInt64) ||| ((w2 &&& (255 : Int32)).toInt64))), .second, .val (.int (3 : Int32))] [(.ref a1), (.long (((((((w0 &&& (((255 : Int32).toUInt32 >>> ((5 : Int32) &&& 31).toUInt32).toInt32)).toInt64) <<< ((8 : Int32) &&& 0x3f).toInt64) ||| ((w1 &&& (255 : Int32)).toInt64)) <<< ((8 : Int32) &&& 0x3f).toInt64) ||| ((w2 &&& (255 : Int32)).toInt64)) <<< ((8 : Int32) &&& 0x3f).toInt64))]))
  refine go (fun _ k => XS.iload X0.here hx rfl (hb hby d1_25) rfl k) ?_
  show G (s₁.setTop (mkF m 27 #[.val (.ref a1), .val (.int (5 : Int32)), .val (.long ((((((w0 &&& (((255 : Int32).toUInt32 >>> ((5 : Int32) &&& 31).toUInt32).toInt32)).toInt64) <<< ((8 : Int32) &&& 0x3f).toInt64) ||| ((w1 &&& (255 : Int32)).toInt64)) <<< ((8 : Int32) &&& 0x3f).toInt64) ||| ((w2 &&& (255 : Int32)).toInt64))), .second, .val (.int (3 : Int32))] [(.int (3 : Int32)), (.ref a1), (.long (((((((w0 &&& (((255 : Int32).toUInt32 >>> ((5 : Int32) &&& 31).toUInt32).toInt32)).toInt64) <<< ((8 : Int32) &&& 0x3f).toInt64) ||| ((w1 &&& (255 : Int32)).toInt64)) <<< ((8 : Int32) &&& 0x3f).toInt64) ||| ((w2 &&& (255 : Int32)).toInt64)) <<< ((8 : Int32) &&& 0x3f).toInt64))]))
  obtain ⟨cl7, Ar7, qk7, qs7, qn7, qh7, qg7⟩ := id VA
  refine go (X0.baloadBytes hx (j := (3 : Int32)) (v := (.int w3)) (by rw [e0]; exact Ar7.1) (State.isArrayOf_alike hZ.alike Ar7.2.1) Ar7.2.2 (inb_of qs7 ⟨by decide, by decide⟩) (Has.at qh7 (inb_of qs7 ⟨by decide, by decide⟩) rfl) (g := (mkF m 27 #[.val (.ref a1), .val (.int (5 : Int32)), .val (.long ((((((w0 &&& (((255 : Int32).toUInt32 >>> ((5 : Int32) &&& 31).toUInt32).toInt32)).toInt64) <<< ((8 : Int32) &&& 0x3f).toInt64) ||| ((w1 &&& (255 : Int32)).toInt64)) <<< ((8 : Int32) &&& 0x3f).toInt64) ||| ((w2 &&& (255 : Int32)).toInt64))), .second, .val (.int (3 : Int32))] [(.int (3 : Int32)), (.ref a1), (.long (((((((w0 &&& (((255 : Int32).toUInt32 >>> ((5 : Int32) &&& 31).toUInt32).toInt32)).toInt64) <<< ((8 : Int32) &&& 0x3f).toInt64) ||| ((w1 &&& (255 : Int32)).toInt64)) <<< ((8 : Int32) &&& 0x3f).toInt64) ||| ((w2 &&& (255 : Int32)).toInt64)) <<< ((8 : Int32) &&& 0x3f).toInt64))])) rfl rfl (hb hby d1_27)) ?_
  show G (s₁.setTop (mkF m 28 #[.val (.ref a1), .val (.int (5 : Int32)), .val (.long ((((((w0 &&& (((255 : Int32).toUInt32 >>> ((5 : Int32) &&& 31).toUInt32).toInt32)).toInt64) <<< ((8 : Int32) &&& 0x3f).toInt64) ||| ((w1 &&& (255 : Int32)).toInt64)) <<< ((8 : Int32) &&& 0x3f).toInt64) ||| ((w2 &&& (255 : Int32)).toInt64))), .second, .val (.int (3 : Int32))] [(.int w3), (.long (((((((w0 &&& (((255 : Int32).toUInt32 >>> ((5 : Int32) &&& 31).toUInt32).toInt32)).toInt64) <<< ((8 : Int32) &&& 0x3f).toInt64) ||| ((w1 &&& (255 : Int32)).toInt64)) <<< ((8 : Int32) &&& 0x3f).toInt64) ||| ((w2 &&& (255 : Int32)).toInt64)) <<< ((8 : Int32) &&& 0x3f).toInt64))]))
  refine go (fun _ k => XS.sipush X0.here hx rfl (hb hby d1_28) k) ?_
  show G (s₁.setTop (mkF m 31 #[.val (.ref a1), .val (.int (5 : Int32)), .val (.long ((((((w0 &&& (((255 : Int32).toUInt32 >>> ((5 : Int32) &&& 31).toUInt32).toInt32)).toInt64) <<< ((8 : Int32) &&& 0x3f).toInt64) ||| ((w1 &&& (255 : Int32)).toInt64)) <<< ((8 : Int32) &&& 0x3f).toInt64) ||| ((w2 &&& (255 : Int32)).toInt64))), .second, .val (.int (3 : Int32))] [(.int (255 : Int32)), (.int w3), (.long (((((((w0 &&& (((255 : Int32).toUInt32 >>> ((5 : Int32) &&& 31).toUInt32).toInt32)).toInt64) <<< ((8 : Int32) &&& 0x3f).toInt64) ||| ((w1 &&& (255 : Int32)).toInt64)) <<< ((8 : Int32) &&& 0x3f).toInt64) ||| ((w2 &&& (255 : Int32)).toInt64)) <<< ((8 : Int32) &&& 0x3f).toInt64))]))
  refine go (fun _ k => XS.iand X0.here hx rfl (hb hby d1_31) rfl k) ?_
  show G (s₁.setTop (mkF m 32 #[.val (.ref a1), .val (.int (5 : Int32)), .val (.long ((((((w0 &&& (((255 : Int32).toUInt32 >>> ((5 : Int32) &&& 31).toUInt32).toInt32)).toInt64) <<< ((8 : Int32) &&& 0x3f).toInt64) ||| ((w1 &&& (255 : Int32)).toInt64)) <<< ((8 : Int32) &&& 0x3f).toInt64) ||| ((w2 &&& (255 : Int32)).toInt64))), .second, .val (.int (3 : Int32))] [(.int (w3 &&& (255 : Int32))), (.long (((((((w0 &&& (((255 : Int32).toUInt32 >>> ((5 : Int32) &&& 31).toUInt32).toInt32)).toInt64) <<< ((8 : Int32) &&& 0x3f).toInt64) ||| ((w1 &&& (255 : Int32)).toInt64)) <<< ((8 : Int32) &&& 0x3f).toInt64) ||| ((w2 &&& (255 : Int32)).toInt64)) <<< ((8 : Int32) &&& 0x3f).toInt64))]))
  refine go (fun _ k => XS.i2l X0.here hx rfl (hb hby d1_32) rfl k) ?_
  show G (s₁.setTop (mkF m 33 #[.val (.ref a1), .val (.int (5 : Int32)), .val (.long ((((((w0 &&& (((255 : Int32).toUInt32 >>> ((5 : Int32) &&& 31).toUInt32).toInt32)).toInt64) <<< ((8 : Int32) &&& 0x3f).toInt64) ||| ((w1 &&& (255 : Int32)).toInt64)) <<< ((8 : Int32) &&& 0x3f).toInt64) ||| ((w2 &&& (255 : Int32)).toInt64))), .second, .val (.int (3 : Int32))] [(.long ((w3 &&& (255 : Int32)).toInt64)), (.long (((((((w0 &&& (((255 : Int32).toUInt32 >>> ((5 : Int32) &&& 31).toUInt32).toInt32)).toInt64) <<< ((8 : Int32) &&& 0x3f).toInt64) ||| ((w1 &&& (255 : Int32)).toInt64)) <<< ((8 : Int32) &&& 0x3f).toInt64) ||| ((w2 &&& (255 : Int32)).toInt64)) <<< ((8 : Int32) &&& 0x3f).toInt64))]))
  refine go (fun _ k => XS.lor X0.here hx rfl (hb hby d1_33) rfl k) ?_
  show G (s₁.setTop (mkF m 34 #[.val (.ref a1), .val (.int (5 : Int32)), .val (.long ((((((w0 &&& (((255 : Int32).toUInt32 >>> ((5 : Int32) &&& 31).toUInt32).toInt32)).toInt64) <<< ((8 : Int32) &&& 0x3f).toInt64) ||| ((w1 &&& (255 : Int32)).toInt64)) <<< ((8 : Int32) &&& 0x3f).toInt64) ||| ((w2 &&& (255 : Int32)).toInt64))), .second, .val (.int (3 : Int32))] [(.long ((((((((w0 &&& (((255 : Int32).toUInt32 >>> ((5 : Int32) &&& 31).toUInt32).toInt32)).toInt64) <<< ((8 : Int32) &&& 0x3f).toInt64) ||| ((w1 &&& (255 : Int32)).toInt64)) <<< ((8 : Int32) &&& 0x3f).toInt64) ||| ((w2 &&& (255 : Int32)).toInt64)) <<< ((8 : Int32) &&& 0x3f).toInt64) ||| ((w3 &&& (255 : Int32)).toInt64)))]))
  refine go (fun _ k => XS.lstoreN X0.here hx rfl (hb hby d1_34) rfl (l' := #[.val (.ref a1), .val (.int (5 : Int32)), .val (.long ((((((((w0 &&& (((255 : Int32).toUInt32 >>> ((5 : Int32) &&& 31).toUInt32).toInt32)).toInt64) <<< ((8 : Int32) &&& 0x3f).toInt64) ||| ((w1 &&& (255 : Int32)).toInt64)) <<< ((8 : Int32) &&& 0x3f).toInt64) ||| ((w2 &&& (255 : Int32)).toInt64)) <<< ((8 : Int32) &&& 0x3f).toInt64) ||| ((w3 &&& (255 : Int32)).toInt64))), .second, .val (.int (3 : Int32))]) rfl k) ?_
  show G (s₁.setTop (mkF m 35 #[.val (.ref a1), .val (.int (5 : Int32)), .val (.long ((((((((w0 &&& (((255 : Int32).toUInt32 >>> ((5 : Int32) &&& 31).toUInt32).toInt32)).toInt64) <<< ((8 : Int32) &&& 0x3f).toInt64) ||| ((w1 &&& (255 : Int32)).toInt64)) <<< ((8 : Int32) &&& 0x3f).toInt64) ||| ((w2 &&& (255 : Int32)).toInt64)) <<< ((8 : Int32) &&& 0x3f).toInt64) ||| ((w3 &&& (255 : Int32)).toInt64))), .second, .val (.int (3 : Int32))] []))
  refine go (fun _ k => XS.iinc X0.here hx rfl (hb hby d1_35) rfl (l' := #[.val (.ref a1), .val (.int (5 : Int32)), .val (.long ((((((((w0 &&& (((255 : Int32).toUInt32 >>> ((5 : Int32) &&& 31).toUInt32).toInt32)).toInt64) <<< ((8 : Int32) &&& 0x3f).toInt64) ||| ((w1 &&& (255 : Int32)).toInt64)) <<< ((8 : Int32) &&& 0x3f).toInt64) ||| ((w2 &&& (255 : Int32)).toInt64)) <<< ((8 : Int32) &&& 0x3f).toInt64) ||| ((w3 &&& (255 : Int32)).toInt64))), .second, .val (.int ((3 : Int32) + (1 : Int32)))]) rfl k) ?_
  show G (s₁.setTop (mkF m 38 #[.val (.ref a1), .val (.int (5 : Int32)), .val (.long ((((((((w0 &&& (((255 : Int32).toUInt32 >>> ((5 : Int32) &&& 31).toUInt32).toInt32)).toInt64) <<< ((8 : Int32) &&& 0x3f).toInt64) ||| ((w1 &&& (255 : Int32)).toInt64)) <<< ((8 : Int32) &&& 0x3f).toInt64) ||| ((w2 &&& (255 : Int32)).toInt64)) <<< ((8 : Int32) &&& 0x3f).toInt64) ||| ((w3 &&& (255 : Int32)).toInt64))), .second, .val (.int ((3 : Int32) + (1 : Int32)))] []))
  rw [show ((3 : Int32) + (1 : Int32) : Int32) = (4 : Int32) from by decide]
  show G (s₁.setTop (mkF m 38 #[.val (.ref a1), .val (.int (5 : Int32)), .val (.long ((((((((w0 &&& (((255 : Int32).toUInt32 >>> ((5 : Int32) &&& 31).toUInt32).toInt32)).toInt64) <<< ((8 : Int32) &&& 0x3f).toInt64) ||| ((w1 &&& (255 : Int32)).toInt64)) <<< ((8 : Int32) &&& 0x3f).toInt64) ||| ((w2 &&& (255 : Int32)).toInt64)) <<< ((8 : Int32) &&& 0x3f).toInt64) ||| ((w3 &&& (255 : Int32)).toInt64))), .second, .val (.int (4 : Int32))] []))
  refine go (fun _ k => XS.goto X0.here hx rfl (pc0 := 38) (pc' := 14) rfl (hb hby d1_38) (by decide) (by decide) k) ?_
  show G (s₁.setTop (mkF m 14 #[.val (.ref a1), .val (.int (5 : Int32)), .val (.long ((((((((w0 &&& (((255 : Int32).toUInt32 >>> ((5 : Int32) &&& 31).toUInt32).toInt32)).toInt64) <<< ((8 : Int32) &&& 0x3f).toInt64) ||| ((w1 &&& (255 : Int32)).toInt64)) <<< ((8 : Int32) &&& 0x3f).toInt64) ||| ((w2 &&& (255 : Int32)).toInt64)) <<< ((8 : Int32) &&& 0x3f).toInt64) ||| ((w3 &&& (255 : Int32)).toInt64))), .second, .val (.int (4 : Int32))] []))
  refine go (fun _ k => XS.iload X0.here hx rfl (hb hby d1_14) rfl k) ?_
  show G (s₁.setTop (mkF m 16 #[.val (.ref a1), .val (.int (5 : Int32)), .val (.long ((((((((w0 &&& (((255 : Int32).toUInt32 >>> ((5 : Int32) &&& 31).toUInt32).toInt32)).toInt64) <<< ((8 : Int32) &&& 0x3f).toInt64) ||| ((w1 &&& (255 : Int32)).toInt64)) <<< ((8 : Int32) &&& 0x3f).toInt64) ||| ((w2 &&& (255 : Int32)).toInt64)) <<< ((8 : Int32) &&& 0x3f).toInt64) ||| ((w3 &&& (255 : Int32)).toInt64))), .second, .val (.int (4 : Int32))] [(.int (4 : Int32))]))
  refine go (fun _ k => XS.iloadN X0.here hx rfl (hb hby d1_16) rfl k) ?_
  show G (s₁.setTop (mkF m 17 #[.val (.ref a1), .val (.int (5 : Int32)), .val (.long ((((((((w0 &&& (((255 : Int32).toUInt32 >>> ((5 : Int32) &&& 31).toUInt32).toInt32)).toInt64) <<< ((8 : Int32) &&& 0x3f).toInt64) ||| ((w1 &&& (255 : Int32)).toInt64)) <<< ((8 : Int32) &&& 0x3f).toInt64) ||| ((w2 &&& (255 : Int32)).toInt64)) <<< ((8 : Int32) &&& 0x3f).toInt64) ||| ((w3 &&& (255 : Int32)).toInt64))), .second, .val (.int (4 : Int32))] [(.int (5 : Int32)), (.int (4 : Int32))]))
  have hc8 : (4 : Int32) < (5 : Int32) := (by decide)
  refine go (fun _ k => XS.icmpNo X0.here hx rfl (hb hby d1_17) rfl (tlt hc8).2.1 k) ?_
  show G (s₁.setTop (mkF m 20 #[.val (.ref a1), .val (.int (5 : Int32)), .val (.long ((((((((w0 &&& (((255 : Int32).toUInt32 >>> ((5 : Int32) &&& 31).toUInt32).toInt32)).toInt64) <<< ((8 : Int32) &&& 0x3f).toInt64) ||| ((w1 &&& (255 : Int32)).toInt64)) <<< ((8 : Int32) &&& 0x3f).toInt64) ||| ((w2 &&& (255 : Int32)).toInt64)) <<< ((8 : Int32) &&& 0x3f).toInt64) ||| ((w3 &&& (255 : Int32)).toInt64))), .second, .val (.int (4 : Int32))] []))
  refine go (fun _ k => XS.lloadN X0.here hx rfl (hb hby d1_20) rfl k) ?_
  show G (s₁.setTop (mkF m 21 #[.val (.ref a1), .val (.int (5 : Int32)), .val (.long ((((((((w0 &&& (((255 : Int32).toUInt32 >>> ((5 : Int32) &&& 31).toUInt32).toInt32)).toInt64) <<< ((8 : Int32) &&& 0x3f).toInt64) ||| ((w1 &&& (255 : Int32)).toInt64)) <<< ((8 : Int32) &&& 0x3f).toInt64) ||| ((w2 &&& (255 : Int32)).toInt64)) <<< ((8 : Int32) &&& 0x3f).toInt64) ||| ((w3 &&& (255 : Int32)).toInt64))), .second, .val (.int (4 : Int32))] [(.long ((((((((w0 &&& (((255 : Int32).toUInt32 >>> ((5 : Int32) &&& 31).toUInt32).toInt32)).toInt64) <<< ((8 : Int32) &&& 0x3f).toInt64) ||| ((w1 &&& (255 : Int32)).toInt64)) <<< ((8 : Int32) &&& 0x3f).toInt64) ||| ((w2 &&& (255 : Int32)).toInt64)) <<< ((8 : Int32) &&& 0x3f).toInt64) ||| ((w3 &&& (255 : Int32)).toInt64)))]))
  refine go (fun _ k => XS.bipush X0.here hx rfl (hb hby d1_21) k) ?_
  show G (s₁.setTop (mkF m 23 #[.val (.ref a1), .val (.int (5 : Int32)), .val (.long ((((((((w0 &&& (((255 : Int32).toUInt32 >>> ((5 : Int32) &&& 31).toUInt32).toInt32)).toInt64) <<< ((8 : Int32) &&& 0x3f).toInt64) ||| ((w1 &&& (255 : Int32)).toInt64)) <<< ((8 : Int32) &&& 0x3f).toInt64) ||| ((w2 &&& (255 : Int32)).toInt64)) <<< ((8 : Int32) &&& 0x3f).toInt64) ||| ((w3 &&& (255 : Int32)).toInt64))), .second, .val (.int (4 : Int32))] [(.int (8 : Int32)), (.long ((((((((w0 &&& (((255 : Int32).toUInt32 >>> ((5 : Int32) &&& 31).toUInt32).toInt32)).toInt64) <<< ((8 : Int32) &&& 0x3f).toInt64) ||| ((w1 &&& (255 : Int32)).toInt64)) <<< ((8 : Int32) &&& 0x3f).toInt64) ||| ((w2 &&& (255 : Int32)).toInt64)) <<< ((8 : Int32) &&& 0x3f).toInt64) ||| ((w3 &&& (255 : Int32)).toInt64)))]))
  refine go (fun _ k => XS.lshl X0.here hx rfl (hb hby d1_23) rfl k) ?_
  show G (s₁.setTop (mkF m 24 #[.val (.ref a1), .val (.int (5 : Int32)), .val (.long ((((((((w0 &&& (((255 : Int32).toUInt32 >>> ((5 : Int32) &&& 31).toUInt32).toInt32)).toInt64) <<< ((8 : Int32) &&& 0x3f).toInt64) ||| ((w1 &&& (255 : Int32)).toInt64)) <<< ((8 : Int32) &&& 0x3f).toInt64) ||| ((w2 &&& (255 : Int32)).toInt64)) <<< ((8 : Int32) &&& 0x3f).toInt64) ||| ((w3 &&& (255 : Int32)).toInt64))), .second, .val (.int (4 : Int32))] [(.long (((((((((w0 &&& (((255 : Int32).toUInt32 >>> ((5 : Int32) &&& 31).toUInt32).toInt32)).toInt64) <<< ((8 : Int32) &&& 0x3f).toInt64) ||| ((w1 &&& (255 : Int32)).toInt64)) <<< ((8 : Int32) &&& 0x3f).toInt64) ||| ((w2 &&& (255 : Int32)).toInt64)) <<< ((8 : Int32) &&& 0x3f).toInt64) ||| ((w3 &&& (255 : Int32)).toInt64)) <<< ((8 : Int32) &&& 0x3f).toInt64))]))
  refine go (fun _ k => XS.aloadN X0.here hx rfl (hb hby d1_24) rfl rfl k) ?_
  show G (s₁.setTop (mkF m 25 #[.val (.ref a1), .val (.int (5 : Int32)), .val (.long ((((((((w0 &&& (((255 : Int32).toUInt32 >>> ((5 : Int32) &&& 31).toUInt32).toInt32)).toInt64) <<< ((8 : Int32) &&& 0x3f).toInt64) ||| ((w1 &&& (255 : Int32)).toInt64)) <<< ((8 : Int32) &&& 0x3f).toInt64) ||| ((w2 &&& (255 : Int32)).toInt64)) <<< ((8 : Int32) &&& 0x3f).toInt64) ||| ((w3 &&& (255 : Int32)).toInt64))), .second, .val (.int (4 : Int32))] [(.ref a1), (.long (((((((((w0 &&& (((255 : Int32).toUInt32 >>> ((5 : Int32) &&& 31).toUInt32).toInt32)).toInt64) <<< ((8 : Int32) &&& 0x3f).toInt64) ||| ((w1 &&& (255 : Int32)).toInt64)) <<< ((8 : Int32) &&& 0x3f).toInt64) ||| ((w2 &&& (255 : Int32)).toInt64)) <<< ((8 : Int32) &&& 0x3f).toInt64) ||| ((w3 &&& (255 : Int32)).toInt64)) <<< ((8 : Int32) &&& 0x3f).toInt64))]))
  refine go (fun _ k => XS.iload X0.here hx rfl (hb hby d1_25) rfl k) ?_
  show G (s₁.setTop (mkF m 27 #[.val (.ref a1), .val (.int (5 : Int32)), .val (.long ((((((((w0 &&& (((255 : Int32).toUInt32 >>> ((5 : Int32) &&& 31).toUInt32).toInt32)).toInt64) <<< ((8 : Int32) &&& 0x3f).toInt64) ||| ((w1 &&& (255 : Int32)).toInt64)) <<< ((8 : Int32) &&& 0x3f).toInt64) ||| ((w2 &&& (255 : Int32)).toInt64)) <<< ((8 : Int32) &&& 0x3f).toInt64) ||| ((w3 &&& (255 : Int32)).toInt64))), .second, .val (.int (4 : Int32))] [(.int (4 : Int32)), (.ref a1), (.long (((((((((w0 &&& (((255 : Int32).toUInt32 >>> ((5 : Int32) &&& 31).toUInt32).toInt32)).toInt64) <<< ((8 : Int32) &&& 0x3f).toInt64) ||| ((w1 &&& (255 : Int32)).toInt64)) <<< ((8 : Int32) &&& 0x3f).toInt64) ||| ((w2 &&& (255 : Int32)).toInt64)) <<< ((8 : Int32) &&& 0x3f).toInt64) ||| ((w3 &&& (255 : Int32)).toInt64)) <<< ((8 : Int32) &&& 0x3f).toInt64))]))
  obtain ⟨cl9, Ar9, qk9, qs9, qn9, qh9, qg9⟩ := id VA
  refine go (X0.baloadBytes hx (j := (4 : Int32)) (v := (.int w4)) (by rw [e0]; exact Ar9.1) (State.isArrayOf_alike hZ.alike Ar9.2.1) Ar9.2.2 (inb_of qs9 ⟨by decide, by decide⟩) (Has.at qh9 (inb_of qs9 ⟨by decide, by decide⟩) rfl) (g := (mkF m 27 #[.val (.ref a1), .val (.int (5 : Int32)), .val (.long ((((((((w0 &&& (((255 : Int32).toUInt32 >>> ((5 : Int32) &&& 31).toUInt32).toInt32)).toInt64) <<< ((8 : Int32) &&& 0x3f).toInt64) ||| ((w1 &&& (255 : Int32)).toInt64)) <<< ((8 : Int32) &&& 0x3f).toInt64) ||| ((w2 &&& (255 : Int32)).toInt64)) <<< ((8 : Int32) &&& 0x3f).toInt64) ||| ((w3 &&& (255 : Int32)).toInt64))), .second, .val (.int (4 : Int32))] [(.int (4 : Int32)), (.ref a1), (.long (((((((((w0 &&& (((255 : Int32).toUInt32 >>> ((5 : Int32) &&& 31).toUInt32).toInt32)).toInt64) <<< ((8 : Int32) &&& 0x3f).toInt64) ||| ((w1 &&& (255 : Int32)).toInt64)) <<< ((8 : Int32) &&& 0x3f).toInt64) ||| ((w2 &&& (255 : Int32)).toInt64)) <<< ((8 : Int32) &&& 0x3f).toInt64) ||| ((w3 &&& (255 : Int32)).toInt64)) <<< ((8 : Int32) &&& 0x3f).toInt64))])) rfl rfl (hb hby d1_27)) ?_
  show G (s₁.setTop (mkF m 28 #[.val (.ref a1), .val (.int (5 : Int32)), .val (.long ((((((((w0 &&& (((255 : Int32).toUInt32 >>> ((5 : Int32) &&& 31).toUInt32).toInt32)).toInt64) <<< ((8 : Int32) &&& 0x3f).toInt64) ||| ((w1 &&& (255 : Int32)).toInt64)) <<< ((8 : Int32) &&& 0x3f).toInt64) ||| ((w2 &&& (255 : Int32)).toInt64)) <<< ((8 : Int32) &&& 0x3f).toInt64) ||| ((w3 &&& (255 : Int32)).toInt64))), .second, .val (.int (4 : Int32))] [(.int w4), (.long (((((((((w0 &&& (((255 : Int32).toUInt32 >>> ((5 : Int32) &&& 31).toUInt32).toInt32)).toInt64) <<< ((8 : Int32) &&& 0x3f).toInt64) ||| ((w1 &&& (255 : Int32)).toInt64)) <<< ((8 : Int32) &&& 0x3f).toInt64) ||| ((w2 &&& (255 : Int32)).toInt64)) <<< ((8 : Int32) &&& 0x3f).toInt64) ||| ((w3 &&& (255 : Int32)).toInt64)) <<< ((8 : Int32) &&& 0x3f).toInt64))]))
  refine go (fun _ k => XS.sipush X0.here hx rfl (hb hby d1_28) k) ?_
  show G (s₁.setTop (mkF m 31 #[.val (.ref a1), .val (.int (5 : Int32)), .val (.long ((((((((w0 &&& (((255 : Int32).toUInt32 >>> ((5 : Int32) &&& 31).toUInt32).toInt32)).toInt64) <<< ((8 : Int32) &&& 0x3f).toInt64) ||| ((w1 &&& (255 : Int32)).toInt64)) <<< ((8 : Int32) &&& 0x3f).toInt64) ||| ((w2 &&& (255 : Int32)).toInt64)) <<< ((8 : Int32) &&& 0x3f).toInt64) ||| ((w3 &&& (255 : Int32)).toInt64))), .second, .val (.int (4 : Int32))] [(.int (255 : Int32)), (.int w4), (.long (((((((((w0 &&& (((255 : Int32).toUInt32 >>> ((5 : Int32) &&& 31).toUInt32).toInt32)).toInt64) <<< ((8 : Int32) &&& 0x3f).toInt64) ||| ((w1 &&& (255 : Int32)).toInt64)) <<< ((8 : Int32) &&& 0x3f).toInt64) ||| ((w2 &&& (255 : Int32)).toInt64)) <<< ((8 : Int32) &&& 0x3f).toInt64) ||| ((w3 &&& (255 : Int32)).toInt64)) <<< ((8 : Int32) &&& 0x3f).toInt64))]))
  refine go (fun _ k => XS.iand X0.here hx rfl (hb hby d1_31) rfl k) ?_
  show G (s₁.setTop (mkF m 32 #[.val (.ref a1), .val (.int (5 : Int32)), .val (.long ((((((((w0 &&& (((255 : Int32).toUInt32 >>> ((5 : Int32) &&& 31).toUInt32).toInt32)).toInt64) <<< ((8 : Int32) &&& 0x3f).toInt64) ||| ((w1 &&& (255 : Int32)).toInt64)) <<< ((8 : Int32) &&& 0x3f).toInt64) ||| ((w2 &&& (255 : Int32)).toInt64)) <<< ((8 : Int32) &&& 0x3f).toInt64) ||| ((w3 &&& (255 : Int32)).toInt64))), .second, .val (.int (4 : Int32))] [(.int (w4 &&& (255 : Int32))), (.long (((((((((w0 &&& (((255 : Int32).toUInt32 >>> ((5 : Int32) &&& 31).toUInt32).toInt32)).toInt64) <<< ((8 : Int32) &&& 0x3f).toInt64) ||| ((w1 &&& (255 : Int32)).toInt64)) <<< ((8 : Int32) &&& 0x3f).toInt64) ||| ((w2 &&& (255 : Int32)).toInt64)) <<< ((8 : Int32) &&& 0x3f).toInt64) ||| ((w3 &&& (255 : Int32)).toInt64)) <<< ((8 : Int32) &&& 0x3f).toInt64))]))
  refine go (fun _ k => XS.i2l X0.here hx rfl (hb hby d1_32) rfl k) ?_
  show G (s₁.setTop (mkF m 33 #[.val (.ref a1), .val (.int (5 : Int32)), .val (.long ((((((((w0 &&& (((255 : Int32).toUInt32 >>> ((5 : Int32) &&& 31).toUInt32).toInt32)).toInt64) <<< ((8 : Int32) &&& 0x3f).toInt64) ||| ((w1 &&& (255 : Int32)).toInt64)) <<< ((8 : Int32) &&& 0x3f).toInt64) ||| ((w2 &&& (255 : Int32)).toInt64)) <<< ((8 : Int32) &&& 0x3f).toInt64) ||| ((w3 &&& (255 : Int32)).toInt64))), .second, .val (.int (4 : Int32))] [(.long ((w4 &&& (255 : Int32)).toInt64)), (.long (((((((((w0 &&& (((255 : Int32).toUInt32 >>> ((5 : Int32) &&& 31).toUInt32).toInt32)).toInt64) <<< ((8 : Int32) &&& 0x3f).toInt64) ||| ((w1 &&& (255 : Int32)).toInt64)) <<< ((8 : Int32) &&& 0x3f).toInt64) ||| ((w2 &&& (255 : Int32)).toInt64)) <<< ((8 : Int32) &&& 0x3f).toInt64) ||| ((w3 &&& (255 : Int32)).toInt64)) <<< ((8 : Int32) &&& 0x3f).toInt64))]))
  refine go (fun _ k => XS.lor X0.here hx rfl (hb hby d1_33) rfl k) ?_
  show G (s₁.setTop (mkF m 34 #[.val (.ref a1), .val (.int (5 : Int32)), .val (.long ((((((((w0 &&& (((255 : Int32).toUInt32 >>> ((5 : Int32) &&& 31).toUInt32).toInt32)).toInt64) <<< ((8 : Int32) &&& 0x3f).toInt64) ||| ((w1 &&& (255 : Int32)).toInt64)) <<< ((8 : Int32) &&& 0x3f).toInt64) ||| ((w2 &&& (255 : Int32)).toInt64)) <<< ((8 : Int32) &&& 0x3f).toInt64) ||| ((w3 &&& (255 : Int32)).toInt64))), .second, .val (.int (4 : Int32))] [(.long ((((((((((w0 &&& (((255 : Int32).toUInt32 >>> ((5 : Int32) &&& 31).toUInt32).toInt32)).toInt64) <<< ((8 : Int32) &&& 0x3f).toInt64) ||| ((w1 &&& (255 : Int32)).toInt64)) <<< ((8 : Int32) &&& 0x3f).toInt64) ||| ((w2 &&& (255 : Int32)).toInt64)) <<< ((8 : Int32) &&& 0x3f).toInt64) ||| ((w3 &&& (255 : Int32)).toInt64)) <<< ((8 : Int32) &&& 0x3f).toInt64) ||| ((w4 &&& (255 : Int32)).toInt64)))]))
  refine go (fun _ k => XS.lstoreN X0.here hx rfl (hb hby d1_34) rfl (l' := #[.val (.ref a1), .val (.int (5 : Int32)), .val (.long ((((((((((w0 &&& (((255 : Int32).toUInt32 >>> ((5 : Int32) &&& 31).toUInt32).toInt32)).toInt64) <<< ((8 : Int32) &&& 0x3f).toInt64) ||| ((w1 &&& (255 : Int32)).toInt64)) <<< ((8 : Int32) &&& 0x3f).toInt64) ||| ((w2 &&& (255 : Int32)).toInt64)) <<< ((8 : Int32) &&& 0x3f).toInt64) ||| ((w3 &&& (255 : Int32)).toInt64)) <<< ((8 : Int32) &&& 0x3f).toInt64) ||| ((w4 &&& (255 : Int32)).toInt64))), .second, .val (.int (4 : Int32))]) rfl k) ?_
  show G (s₁.setTop (mkF m 35 #[.val (.ref a1), .val (.int (5 : Int32)), .val (.long ((((((((((w0 &&& (((255 : Int32).toUInt32 >>> ((5 : Int32) &&& 31).toUInt32).toInt32)).toInt64) <<< ((8 : Int32) &&& 0x3f).toInt64) ||| ((w1 &&& (255 : Int32)).toInt64)) <<< ((8 : Int32) &&& 0x3f).toInt64) ||| ((w2 &&& (255 : Int32)).toInt64)) <<< ((8 : Int32) &&& 0x3f).toInt64) ||| ((w3 &&& (255 : Int32)).toInt64)) <<< ((8 : Int32) &&& 0x3f).toInt64) ||| ((w4 &&& (255 : Int32)).toInt64))), .second, .val (.int (4 : Int32))] []))
  refine go (fun _ k => XS.iinc X0.here hx rfl (hb hby d1_35) rfl (l' := #[.val (.ref a1), .val (.int (5 : Int32)), .val (.long ((((((((((w0 &&& (((255 : Int32).toUInt32 >>> ((5 : Int32) &&& 31).toUInt32).toInt32)).toInt64) <<< ((8 : Int32) &&& 0x3f).toInt64) ||| ((w1 &&& (255 : Int32)).toInt64)) <<< ((8 : Int32) &&& 0x3f).toInt64) ||| ((w2 &&& (255 : Int32)).toInt64)) <<< ((8 : Int32) &&& 0x3f).toInt64) ||| ((w3 &&& (255 : Int32)).toInt64)) <<< ((8 : Int32) &&& 0x3f).toInt64) ||| ((w4 &&& (255 : Int32)).toInt64))), .second, .val (.int ((4 : Int32) + (1 : Int32)))]) rfl k) ?_
  show G (s₁.setTop (mkF m 38 #[.val (.ref a1), .val (.int (5 : Int32)), .val (.long ((((((((((w0 &&& (((255 : Int32).toUInt32 >>> ((5 : Int32) &&& 31).toUInt32).toInt32)).toInt64) <<< ((8 : Int32) &&& 0x3f).toInt64) ||| ((w1 &&& (255 : Int32)).toInt64)) <<< ((8 : Int32) &&& 0x3f).toInt64) ||| ((w2 &&& (255 : Int32)).toInt64)) <<< ((8 : Int32) &&& 0x3f).toInt64) ||| ((w3 &&& (255 : Int32)).toInt64)) <<< ((8 : Int32) &&& 0x3f).toInt64) ||| ((w4 &&& (255 : Int32)).toInt64))), .second, .val (.int ((4 : Int32) + (1 : Int32)))] []))
  rw [show ((4 : Int32) + (1 : Int32) : Int32) = (5 : Int32) from by decide]
  show G (s₁.setTop (mkF m 38 #[.val (.ref a1), .val (.int (5 : Int32)), .val (.long ((((((((((w0 &&& (((255 : Int32).toUInt32 >>> ((5 : Int32) &&& 31).toUInt32).toInt32)).toInt64) <<< ((8 : Int32) &&& 0x3f).toInt64) ||| ((w1 &&& (255 : Int32)).toInt64)) <<< ((8 : Int32) &&& 0x3f).toInt64) ||| ((w2 &&& (255 : Int32)).toInt64)) <<< ((8 : Int32) &&& 0x3f).toInt64) ||| ((w3 &&& (255 : Int32)).toInt64)) <<< ((8 : Int32) &&& 0x3f).toInt64) ||| ((w4 &&& (255 : Int32)).toInt64))), .second, .val (.int (5 : Int32))] []))
  refine go (fun _ k => XS.goto X0.here hx rfl (pc0 := 38) (pc' := 14) rfl (hb hby d1_38) (by decide) (by decide) k) ?_
  show G (s₁.setTop (mkF m 14 #[.val (.ref a1), .val (.int (5 : Int32)), .val (.long ((((((((((w0 &&& (((255 : Int32).toUInt32 >>> ((5 : Int32) &&& 31).toUInt32).toInt32)).toInt64) <<< ((8 : Int32) &&& 0x3f).toInt64) ||| ((w1 &&& (255 : Int32)).toInt64)) <<< ((8 : Int32) &&& 0x3f).toInt64) ||| ((w2 &&& (255 : Int32)).toInt64)) <<< ((8 : Int32) &&& 0x3f).toInt64) ||| ((w3 &&& (255 : Int32)).toInt64)) <<< ((8 : Int32) &&& 0x3f).toInt64) ||| ((w4 &&& (255 : Int32)).toInt64))), .second, .val (.int (5 : Int32))] []))
  refine go (fun _ k => XS.iload X0.here hx rfl (hb hby d1_14) rfl k) ?_
  show G (s₁.setTop (mkF m 16 #[.val (.ref a1), .val (.int (5 : Int32)), .val (.long ((((((((((w0 &&& (((255 : Int32).toUInt32 >>> ((5 : Int32) &&& 31).toUInt32).toInt32)).toInt64) <<< ((8 : Int32) &&& 0x3f).toInt64) ||| ((w1 &&& (255 : Int32)).toInt64)) <<< ((8 : Int32) &&& 0x3f).toInt64) ||| ((w2 &&& (255 : Int32)).toInt64)) <<< ((8 : Int32) &&& 0x3f).toInt64) ||| ((w3 &&& (255 : Int32)).toInt64)) <<< ((8 : Int32) &&& 0x3f).toInt64) ||| ((w4 &&& (255 : Int32)).toInt64))), .second, .val (.int (5 : Int32))] [(.int (5 : Int32))]))
  refine go (fun _ k => XS.iloadN X0.here hx rfl (hb hby d1_16) rfl k) ?_
  show G (s₁.setTop (mkF m 17 #[.val (.ref a1), .val (.int (5 : Int32)), .val (.long ((((((((((w0 &&& (((255 : Int32).toUInt32 >>> ((5 : Int32) &&& 31).toUInt32).toInt32)).toInt64) <<< ((8 : Int32) &&& 0x3f).toInt64) ||| ((w1 &&& (255 : Int32)).toInt64)) <<< ((8 : Int32) &&& 0x3f).toInt64) ||| ((w2 &&& (255 : Int32)).toInt64)) <<< ((8 : Int32) &&& 0x3f).toInt64) ||| ((w3 &&& (255 : Int32)).toInt64)) <<< ((8 : Int32) &&& 0x3f).toInt64) ||| ((w4 &&& (255 : Int32)).toInt64))), .second, .val (.int (5 : Int32))] [(.int (5 : Int32)), (.int (5 : Int32))]))
  have hc10 : ¬ ((5 : Int32) < (5 : Int32)) := (by decide)
  refine go (fun _ k => XS.icmpYes X0.here hx rfl (pc0 := 17) (pc' := 41) rfl (hb hby d1_17) rfl (flt hc10).2.1 (by decide) (by decide) k) ?_
  show G (s₁.setTop (mkF m 41 #[.val (.ref a1), .val (.int (5 : Int32)), .val (.long ((((((((((w0 &&& (((255 : Int32).toUInt32 >>> ((5 : Int32) &&& 31).toUInt32).toInt32)).toInt64) <<< ((8 : Int32) &&& 0x3f).toInt64) ||| ((w1 &&& (255 : Int32)).toInt64)) <<< ((8 : Int32) &&& 0x3f).toInt64) ||| ((w2 &&& (255 : Int32)).toInt64)) <<< ((8 : Int32) &&& 0x3f).toInt64) ||| ((w3 &&& (255 : Int32)).toInt64)) <<< ((8 : Int32) &&& 0x3f).toInt64) ||| ((w4 &&& (255 : Int32)).toInt64))), .second, .val (.int (5 : Int32))] []))
  refine go (fun _ k => XS.lloadN X0.here hx rfl (hb hby d1_41) rfl k) ?_
  show G (s₁.setTop (mkF m 42 #[.val (.ref a1), .val (.int (5 : Int32)), .val (.long ((((((((((w0 &&& (((255 : Int32).toUInt32 >>> ((5 : Int32) &&& 31).toUInt32).toInt32)).toInt64) <<< ((8 : Int32) &&& 0x3f).toInt64) ||| ((w1 &&& (255 : Int32)).toInt64)) <<< ((8 : Int32) &&& 0x3f).toInt64) ||| ((w2 &&& (255 : Int32)).toInt64)) <<< ((8 : Int32) &&& 0x3f).toInt64) ||| ((w3 &&& (255 : Int32)).toInt64)) <<< ((8 : Int32) &&& 0x3f).toInt64) ||| ((w4 &&& (255 : Int32)).toInt64))), .second, .val (.int (5 : Int32))] [(.long ((((((((((w0 &&& (((255 : Int32).toUInt32 >>> ((5 : Int32) &&& 31).toUInt32).toInt32)).toInt64) <<< ((8 : Int32) &&& 0x3f).toInt64) ||| ((w1 &&& (255 : Int32)).toInt64)) <<< ((8 : Int32) &&& 0x3f).toInt64) ||| ((w2 &&& (255 : Int32)).toInt64)) <<< ((8 : Int32) &&& 0x3f).toInt64) ||| ((w3 &&& (255 : Int32)).toInt64)) <<< ((8 : Int32) &&& 0x3f).toInt64) ||| ((w4 &&& (255 : Int32)).toInt64)))]))
  rw [hG]
  refine own_fin X0 Bd.notSynchronized (v := some (.long ((((((((((w0 &&& (((255 : Int32).toUInt32 >>> ((5 : Int32) &&& 31).toUInt32).toInt32)).toInt64) <<< ((8 : Int32) &&& 0x3f).toInt64) ||| ((w1 &&& (255 : Int32)).toInt64)) <<< ((8 : Int32) &&& 0x3f).toInt64) ||| ((w2 &&& (255 : Int32)).toInt64)) <<< ((8 : Int32) &&& 0x3f).toInt64) ||| ((w3 &&& (255 : Int32)).toInt64)) <<< ((8 : Int32) &&& 0x3f).toInt64) ||| ((w4 &&& (255 : Int32)).toInt64)))) (fun h => by rw [Bd.returns] at h; cases h) (fun fs hr => retOut X0 hx Bd.returns rfl (by simp [FieldType.isReference, Value.isRef]) (hb hby d1_42) hr) ?_ (by decide) (by decide)
  show Q1n5 Z a1 k w0 w1 w2 w3 w4 h0 n0 (some (.long ((((((((((w0 &&& (((255 : Int32).toUInt32 >>> ((5 : Int32) &&& 31).toUInt32).toInt32)).toInt64) <<< ((8 : Int32) &&& 0x3f).toInt64) ||| ((w1 &&& (255 : Int32)).toInt64)) <<< ((8 : Int32) &&& 0x3f).toInt64) ||| ((w2 &&& (255 : Int32)).toInt64)) <<< ((8 : Int32) &&& 0x3f).toInt64) ||| ((w3 &&& (255 : Int32)).toInt64)) <<< ((8 : Int32) &&& 0x3f).toInt64) ||| ((w4 &&& (255 : Int32)).toInt64)))) s₁.heap _
  rw [e0]
  exact ⟨rfl, N0, rfl⟩

theorem pn_0 : plainName "com/example/parley/parley/sentence/WordLengthDecodePinLaw" = true := by first | (simp [plainName, overriddenIn]; done) | decide +kernel
theorem pd_0_0 : parseMethodDescriptor "([BI)J" = some ⟨[(.array .byte), .int], some .long⟩ := by decide +kernel
theorem ef_rm0 (m : MethodId) (p1 : Int32) (p2 : Int32) (p3 : Int32) (p4 : Int32) : entryFrame m #[(.int p1), (.int p2), (.int p3), (.int p4)] maxLocals = mkF m 0 #[.val (.int p1), .val (.int p2), .val (.int p3), .val (.int p4), .unset, .unset, .unset, .unset] [] := by first | (simp [entryFrame, mkF, argsToLocals, Value.category, maxLocals]; done) | rfl
def Q0 (Z : State) (p1 : Int32) (p2 : Int32) (p3 : Int32) (p4 : Int32) (h0 : Heap) (n0 : Nat) (v : Option Value) (h : Heap) (L : List Loc) : Prop := v = some (.int (1 : Int32)) ∧ Fr n0 L
set_option maxRecDepth 65536 in
set_option maxHeartbeats 40000000 in
theorem rm0 (l : Launch) (Z : State) (a0 : Array Value) (hw : ∀ d ∈ tables_1, d.before a0 Z = true) (ws : List Jvm.Cond) (p1 : Int32) (p2 : Int32) (p3 : Int32) (p4 : Int32) (h0 : Heap) (n0 : Nat) (Z0 : n0 ≤ h0.size) :
    MetFree l x (head1 (Jvm.Cond.code x code maxLocals ret :: ws) room_1) (fun a U => a = #[(.int p1), (.int p2), (.int p3), (.int p4)] ∧ Z.Warmed39 U.vm ∧ U.heap = h0) (fun _ _ _ _ _ => True) (fun _ U o U' => ∃ v L, o = .returned v ∧ Q0 Z p1 p2 p3 p4 h0 n0 v U'.heap L ∧ FrameEnd U o U' L room_1.cells room_1.slots) := by
  refine MetFree.of_bodySF (plainFor_of_name pn_0) hisR ?_
  intro p e s m args below meth c s₁ Bd hml0 hP hK
  obtain ⟨rfl, hZ, hh⟩ := hP
  have hx := Bd.exec
  have hby := Bd.bytes
  have hml : c.maxLocals = 8 := hml0
  have hown : s.vm.findClass "com/example/parley/parley/sentence/WordLengthDecodePinLaw" = some m.cls := findClass_of_methodNamed Bd.named
  have hnm := (name_of_methodNamed Bd.named Bd.method).1
  have X0 : Stand p l e room_1 s m #[(.int p1), (.int p2), (.int p3), (.int p4)] below meth c s₁ [] 0 0 := Stand.of_body Bd
  have e0 : s₁.heap = h0 := by rw [← hh, Bd.state]; rfl
  have N0 := Fr.nil n0
  obtain ⟨G, hG⟩ : ∃ G : State → Prop, G = OwnG p e below s room_1.cells room_1.slots (Q0 Z p1 p2 p3 p4 h0 n0) := ⟨_, rfl⟩
  have go : ∀ {A B : State}, (∀ t, Steps p.tables e below A t → Steps p.tables e below B t) → G A → G B := fun h k => by rw [hG] at k ⊢; exact OwnG.go h k
  suffices k0 : G (s₁.setTop (mkF m 0 #[.val (.int p1), .val (.int p2), .val (.int p3), .val (.int p4), .unset, .unset, .unset, .unset] [])) by
    rw [hG] at k0; exact OwnG.go (fun t k => castTop (ef_rm0 m p1 p2 p3 p4) k) k0
  refine go (fun _ k => XS.iloadN X0.here hx rfl (hb hby at_0) rfl k) ?_
  show G (s₁.setTop (mkF m 1 #[.val (.int p1), .val (.int p2), .val (.int p3), .val (.int p4), .unset, .unset, .unset, .unset] [(.int p1)]))
  refine go (X0.ldcInt hx hown (mvT hZ (hw _ (List.mem_of_getElem? (i := 0) rfl))) (g := (mkF m 1 #[.val (.int p1), .val (.int p2), .val (.int p3), .val (.int p4), .unset, .unset, .unset, .unset] [(.int p1)])) rfl (hb hby at_1)) ?_
  show G (s₁.setTop (mkF m 3 #[.val (.int p1), .val (.int p2), .val (.int p3), .val (.int p4), .unset, .unset, .unset, .unset] [(.int (2147483647 : Int32)), (.int p1)]))
  refine go (fun _ k => XS.iand X0.here hx rfl (hb hby at_3) rfl k) ?_
  show G (s₁.setTop (mkF m 4 #[.val (.int p1), .val (.int p2), .val (.int p3), .val (.int p4), .unset, .unset, .unset, .unset] [(.int (p1 &&& (2147483647 : Int32)))]))
  refine go (fun _ k => XS.iconst X0.here hx rfl (hb hby at_4) k) ?_
  show G (s₁.setTop (mkF m 5 #[.val (.int p1), .val (.int p2), .val (.int p3), .val (.int p4), .unset, .unset, .unset, .unset] [(.int (5 : Int32)), (.int (p1 &&& (2147483647 : Int32)))]))
  refine go (fun _ k => iremM X0 hx rfl (hb hby at_5) rfl (by decide) k) ?_
  show G (s₁.setTop (mkF m 6 #[.val (.int p1), .val (.int p2), .val (.int p3), .val (.int p4), .unset, .unset, .unset, .unset] [(.int ((p1 &&& (2147483647 : Int32)) % (5 : Int32)))]))
  refine go (fun _ k => XS.iconst X0.here hx rfl (hb hby at_6) k) ?_
  show G (s₁.setTop (mkF m 7 #[.val (.int p1), .val (.int p2), .val (.int p3), .val (.int p4), .unset, .unset, .unset, .unset] [(.int (1 : Int32)), (.int ((p1 &&& (2147483647 : Int32)) % (5 : Int32)))]))
  refine go (fun _ k => XS.iadd X0.here hx rfl (hb hby at_7) rfl k) ?_
  show G (s₁.setTop (mkF m 8 #[.val (.int p1), .val (.int p2), .val (.int p3), .val (.int p4), .unset, .unset, .unset, .unset] [(.int (((p1 &&& (2147483647 : Int32)) % (5 : Int32)) + (1 : Int32)))]))
  refine go (fun _ k => XS.istore X0.here hx rfl (hb hby at_8) rfl (l' := #[.val (.int p1), .val (.int p2), .val (.int p3), .val (.int p4), .val (.int (((p1 &&& (2147483647 : Int32)) % (5 : Int32)) + (1 : Int32))), .unset, .unset, .unset]) rfl k) ?_
  show G (s₁.setTop (mkF m 10 #[.val (.int p1), .val (.int p2), .val (.int p3), .val (.int p4), .val (.int (((p1 &&& (2147483647 : Int32)) % (5 : Int32)) + (1 : Int32))), .unset, .unset, .unset] []))
  have hz := own_size p1
  generalize (((p1 &&& (2147483647 : Int32)) % (5 : Int32)) + (1 : Int32)) = z at hz
  rcases hz with rfl | rfl | rfl | rfl | rfl
  · show G (s₁.setTop (mkF m 10 #[.val (.int p1), .val (.int p2), .val (.int p3), .val (.int p4), .val (.int (1 : Int32)), .unset, .unset, .unset] []))
    refine go (fun _ k => XS.iconst X0.here hx rfl (hb hby at_10) k) ?_
    show G (s₁.setTop (mkF m 11 #[.val (.int p1), .val (.int p2), .val (.int p3), .val (.int p4), .val (.int (1 : Int32)), .unset, .unset, .unset] [(.int (5 : Int32))]))
    obtain ⟨T1, h1, k1, X1, e1, E1, A1, B1, st1⟩ := newPE X0 hx hZ (hw _ (List.mem_of_getElem? (i := 1) rfl)) e0 (g := (mkF m 11 #[.val (.int p1), .val (.int p2), .val (.int p3), .val (.int p4), .val (.int (1 : Int32)), .unset, .unset, .unset] [(.int (5 : Int32))])) rfl (hb hby at_11) rfl (by decide) (cap := 5) (by decide) (by decide) (by decide) (by decide) (ad := "[B") (by decide)
    obtain ⟨b1, ga1⟩ : ∃ z, z = h0.size := ⟨_, rfl⟩
    have g_b1 : n0 ≤ b1 := Nat.le_trans Z0 (Nat.le_of_eq ga1.symm)
    rw [← ga1] at A1 B1 st1
    have Zs1 : n0 ≤ h1.size := Nat.le_trans Z0 E1.1
    have V1 : Arv Z h1 b1 k1 .byte (5 : Int32) [(.int (0 : Int32)), (.int (0 : Int32)), (.int (0 : Int32)), (.int (0 : Int32)), (.int (0 : Int32))] (.int (0 : Int32)) := (Arv.new A1 (by decide)).pad (pad_rep [] (.int (0 : Int32)) 5)
    refine go st1 ?_
    show G (T1.setTop (mkF m 13 #[.val (.int p1), .val (.int p2), .val (.int p3), .val (.int p4), .val (.int (1 : Int32)), .unset, .unset, .unset] [(.ref b1)]))
    refine go (fun _ k => XS.astore X1.here hx rfl (hb hby at_13) rfl rfl (l' := #[.val (.int p1), .val (.int p2), .val (.int p3), .val (.int p4), .val (.int (1 : Int32)), .val (.ref b1), .unset, .unset]) rfl k) ?_
    show G (T1.setTop (mkF m 15 #[.val (.int p1), .val (.int p2), .val (.int p3), .val (.int p4), .val (.int (1 : Int32)), .val (.ref b1), .unset, .unset] []))
    refine go (fun _ k => XS.aload X1.here hx rfl (hb hby at_15) rfl rfl k) ?_
    show G (T1.setTop (mkF m 17 #[.val (.int p1), .val (.int p2), .val (.int p3), .val (.int p4), .val (.int (1 : Int32)), .val (.ref b1), .unset, .unset] [(.ref b1)]))
    refine go (fun _ k => XS.iconst X1.here hx rfl (hb hby at_17) k) ?_
    show G (T1.setTop (mkF m 18 #[.val (.int p1), .val (.int p2), .val (.int p3), .val (.int p4), .val (.int (1 : Int32)), .val (.ref b1), .unset, .unset] [(.int (0 : Int32)), (.ref b1)]))
    refine go (fun _ k => XS.iloadN X1.here hx rfl (hb hby at_18) rfl k) ?_
    show G (T1.setTop (mkF m 19 #[.val (.int p1), .val (.int p2), .val (.int p3), .val (.int p4), .val (.int (1 : Int32)), .val (.ref b1), .unset, .unset] [(.int p3), (.int (0 : Int32)), (.ref b1)]))
    refine go (fun _ k => XS.i2b X1.here hx rfl (hb hby at_19) rfl k) ?_
    show G (T1.setTop (mkF m 20 #[.val (.int p1), .val (.int p2), .val (.int p3), .val (.int p4), .val (.int (1 : Int32)), .val (.ref b1), .unset, .unset] [(.int (p3.toInt8.toInt32)), (.int (0 : Int32)), (.ref b1)]))
    obtain ⟨cl2, Ar2, qk2, qs2, qn2, qh2, qg2⟩ := id V1
    obtain ⟨T2, h2, X2, e2, W2, st2⟩ := stB X1 hx hZ e1 Ar2 (j := (0 : Int32)) (inb_of qs2 ⟨by decide, by decide⟩) (g := (mkF m 20 #[.val (.int p1), .val (.int p2), .val (.int p3), .val (.int p4), .val (.int (1 : Int32)), .val (.ref b1), .unset, .unset] [(.int (p3.toInt8.toInt32)), (.int (0 : Int32)), (.ref b1)])) rfl rfl (hb hby at_20)
    have V2 : Arv Z h2 b1 k1 .byte (5 : Int32) [(.int (nar .byte (p3.toInt8.toInt32))), (.int (0 : Int32)), (.int (0 : Int32)), (.int (0 : Int32)), (.int (0 : Int32))] (.int (0 : Int32)) := Arv.set Ar2 qk2 qs2 qn2 qh2 qg2 (fits_nar_byte _) W2 0 rfl (Nat.le_of_ble_eq_true rfl)
    have f3 := B1.wr W2
    have Zs2 : n0 ≤ h2.size := Nat.le_trans Zs1 (Keep.of_wr W2).1
    have N2 := Fr.snoc X2 N0 g_b1
    refine go st2 ?_
    show G (T2.setTop (mkF m 21 #[.val (.int p1), .val (.int p2), .val (.int p3), .val (.int p4), .val (.int (1 : Int32)), .val (.ref b1), .unset, .unset] []))
    refine go (fun _ k => XS.aload X2.here hx rfl (hb hby at_21) rfl rfl k) ?_
    show G (T2.setTop (mkF m 23 #[.val (.int p1), .val (.int p2), .val (.int p3), .val (.int p4), .val (.int (1 : Int32)), .val (.ref b1), .unset, .unset] [(.ref b1)]))
    refine go (fun _ k => XS.iconst X2.here hx rfl (hb hby at_23) k) ?_
    show G (T2.setTop (mkF m 24 #[.val (.int p1), .val (.int p2), .val (.int p3), .val (.int p4), .val (.int (1 : Int32)), .val (.ref b1), .unset, .unset] [(.int (1 : Int32)), (.ref b1)]))
    refine go (fun _ k => XS.iloadN X2.here hx rfl (hb hby at_24) rfl k) ?_
    show G (T2.setTop (mkF m 25 #[.val (.int p1), .val (.int p2), .val (.int p3), .val (.int p4), .val (.int (1 : Int32)), .val (.ref b1), .unset, .unset] [(.int p3), (.int (1 : Int32)), (.ref b1)]))
    refine go (fun _ k => XS.bipush X2.here hx rfl (hb hby at_25) k) ?_
    show G (T2.setTop (mkF m 27 #[.val (.int p1), .val (.int p2), .val (.int p3), .val (.int p4), .val (.int (1 : Int32)), .val (.ref b1), .unset, .unset] [(.int (8 : Int32)), (.int p3), (.int (1 : Int32)), (.ref b1)]))
    refine go (fun _ k => XS.iushr X2.here hx rfl (hb hby at_27) rfl k) ?_
    show G (T2.setTop (mkF m 28 #[.val (.int p1), .val (.int p2), .val (.int p3), .val (.int p4), .val (.int (1 : Int32)), .val (.ref b1), .unset, .unset] [(.int ((p3.toUInt32 >>> ((8 : Int32) &&& 31).toUInt32).toInt32)), (.int (1 : Int32)), (.ref b1)]))
    refine go (fun _ k => XS.i2b X2.here hx rfl (hb hby at_28) rfl k) ?_
    show G (T2.setTop (mkF m 29 #[.val (.int p1), .val (.int p2), .val (.int p3), .val (.int p4), .val (.int (1 : Int32)), .val (.ref b1), .unset, .unset] [(.int (((p3.toUInt32 >>> ((8 : Int32) &&& 31).toUInt32).toInt32).toInt8.toInt32)), (.int (1 : Int32)), (.ref b1)]))
    obtain ⟨cl4, Ar4, qk4, qs4, qn4, qh4, qg4⟩ := id V2
    obtain ⟨T4, h4, X4, e4, W4, st4⟩ := stB X2 hx hZ e2 Ar4 (j := (1 : Int32)) (inb_of qs4 ⟨by decide, by decide⟩) (g := (mkF m 29 #[.val (.int p1), .val (.int p2), .val (.int p3), .val (.int p4), .val (.int (1 : Int32)), .val (.ref b1), .unset, .unset] [(.int (((p3.toUInt32 >>> ((8 : Int32) &&& 31).toUInt32).toInt32).toInt8.toInt32)), (.int (1 : Int32)), (.ref b1)])) rfl rfl (hb hby at_29)
    have V4 : Arv Z h4 b1 k1 .byte (5 : Int32) [(.int (nar .byte (p3.toInt8.toInt32))), (.int (nar .byte (((p3.toUInt32 >>> ((8 : Int32) &&& 31).toUInt32).toInt32).toInt8.toInt32))), (.int (0 : Int32)), (.int (0 : Int32)), (.int (0 : Int32))] (.int (0 : Int32)) := Arv.set Ar4 qk4 qs4 qn4 qh4 qg4 (fits_nar_byte _) W4 1 rfl (Nat.le_of_ble_eq_true rfl)
    have f5 := f3.wr W4
    have Zs4 : n0 ≤ h4.size := Nat.le_trans Zs2 (Keep.of_wr W4).1
    have N4 := Fr.snoc X4 N2 g_b1
    refine go st4 ?_
    show G (T4.setTop (mkF m 30 #[.val (.int p1), .val (.int p2), .val (.int p3), .val (.int p4), .val (.int (1 : Int32)), .val (.ref b1), .unset, .unset] []))
    refine go (fun _ k => XS.aload X4.here hx rfl (hb hby at_30) rfl rfl k) ?_
    show G (T4.setTop (mkF m 32 #[.val (.int p1), .val (.int p2), .val (.int p3), .val (.int p4), .val (.int (1 : Int32)), .val (.ref b1), .unset, .unset] [(.ref b1)]))
    refine go (fun _ k => XS.iconst X4.here hx rfl (hb hby at_32) k) ?_
    show G (T4.setTop (mkF m 33 #[.val (.int p1), .val (.int p2), .val (.int p3), .val (.int p4), .val (.int (1 : Int32)), .val (.ref b1), .unset, .unset] [(.int (2 : Int32)), (.ref b1)]))
    refine go (fun _ k => XS.iloadN X4.here hx rfl (hb hby at_33) rfl k) ?_
    show G (T4.setTop (mkF m 34 #[.val (.int p1), .val (.int p2), .val (.int p3), .val (.int p4), .val (.int (1 : Int32)), .val (.ref b1), .unset, .unset] [(.int p3), (.int (2 : Int32)), (.ref b1)]))
    refine go (fun _ k => XS.bipush X4.here hx rfl (hb hby at_34) k) ?_
    show G (T4.setTop (mkF m 36 #[.val (.int p1), .val (.int p2), .val (.int p3), .val (.int p4), .val (.int (1 : Int32)), .val (.ref b1), .unset, .unset] [(.int (16 : Int32)), (.int p3), (.int (2 : Int32)), (.ref b1)]))
    refine go (fun _ k => XS.iushr X4.here hx rfl (hb hby at_36) rfl k) ?_
    show G (T4.setTop (mkF m 37 #[.val (.int p1), .val (.int p2), .val (.int p3), .val (.int p4), .val (.int (1 : Int32)), .val (.ref b1), .unset, .unset] [(.int ((p3.toUInt32 >>> ((16 : Int32) &&& 31).toUInt32).toInt32)), (.int (2 : Int32)), (.ref b1)]))
    refine go (fun _ k => XS.i2b X4.here hx rfl (hb hby at_37) rfl k) ?_
    show G (T4.setTop (mkF m 38 #[.val (.int p1), .val (.int p2), .val (.int p3), .val (.int p4), .val (.int (1 : Int32)), .val (.ref b1), .unset, .unset] [(.int (((p3.toUInt32 >>> ((16 : Int32) &&& 31).toUInt32).toInt32).toInt8.toInt32)), (.int (2 : Int32)), (.ref b1)]))
    obtain ⟨cl6, Ar6, qk6, qs6, qn6, qh6, qg6⟩ := id V4
    obtain ⟨T6, h6, X6, e6, W6, st6⟩ := stB X4 hx hZ e4 Ar6 (j := (2 : Int32)) (inb_of qs6 ⟨by decide, by decide⟩) (g := (mkF m 38 #[.val (.int p1), .val (.int p2), .val (.int p3), .val (.int p4), .val (.int (1 : Int32)), .val (.ref b1), .unset, .unset] [(.int (((p3.toUInt32 >>> ((16 : Int32) &&& 31).toUInt32).toInt32).toInt8.toInt32)), (.int (2 : Int32)), (.ref b1)])) rfl rfl (hb hby at_38)
    have V6 : Arv Z h6 b1 k1 .byte (5 : Int32) [(.int (nar .byte (p3.toInt8.toInt32))), (.int (nar .byte (((p3.toUInt32 >>> ((8 : Int32) &&& 31).toUInt32).toInt32).toInt8.toInt32))), (.int (nar .byte (((p3.toUInt32 >>> ((16 : Int32) &&& 31).toUInt32).toInt32).toInt8.toInt32))), (.int (0 : Int32)), (.int (0 : Int32))] (.int (0 : Int32)) := Arv.set Ar6 qk6 qs6 qn6 qh6 qg6 (fits_nar_byte _) W6 2 rfl (Nat.le_of_ble_eq_true rfl)
    have f7 := f5.wr W6
    have Zs6 : n0 ≤ h6.size := Nat.le_trans Zs4 (Keep.of_wr W6).1
    have N6 := Fr.snoc X6 N4 g_b1
    refine go st6 ?_
    show G (T6.setTop (mkF m 39 #[.val (.int p1), .val (.int p2), .val (.int p3), .val (.int p4), .val (.int (1 : Int32)), .val (.ref b1), .unset, .unset] []))
    refine go (fun _ k => XS.aload X6.here hx rfl (hb hby at_39) rfl rfl k) ?_
    show G (T6.setTop (mkF m 41 #[.val (.int p1), .val (.int p2), .val (.int p3), .val (.int p4), .val (.int (1 : Int32)), .val (.ref b1), .unset, .unset] [(.ref b1)]))
    refine go (fun _ k => XS.iconst X6.here hx rfl (hb hby at_41) k) ?_
    show G (T6.setTop (mkF m 42 #[.val (.int p1), .val (.int p2), .val (.int p3), .val (.int p4), .val (.int (1 : Int32)), .val (.ref b1), .unset, .unset] [(.int (3 : Int32)), (.ref b1)]))
    refine go (fun _ k => XS.iloadN X6.here hx rfl (hb hby at_42) rfl k) ?_
    show G (T6.setTop (mkF m 43 #[.val (.int p1), .val (.int p2), .val (.int p3), .val (.int p4), .val (.int (1 : Int32)), .val (.ref b1), .unset, .unset] [(.int p3), (.int (3 : Int32)), (.ref b1)]))
    refine go (fun _ k => XS.bipush X6.here hx rfl (hb hby at_43) k) ?_
    show G (T6.setTop (mkF m 45 #[.val (.int p1), .val (.int p2), .val (.int p3), .val (.int p4), .val (.int (1 : Int32)), .val (.ref b1), .unset, .unset] [(.int (24 : Int32)), (.int p3), (.int (3 : Int32)), (.ref b1)]))
    refine go (fun _ k => XS.iushr X6.here hx rfl (hb hby at_45) rfl k) ?_
    show G (T6.setTop (mkF m 46 #[.val (.int p1), .val (.int p2), .val (.int p3), .val (.int p4), .val (.int (1 : Int32)), .val (.ref b1), .unset, .unset] [(.int ((p3.toUInt32 >>> ((24 : Int32) &&& 31).toUInt32).toInt32)), (.int (3 : Int32)), (.ref b1)]))
    refine go (fun _ k => XS.i2b X6.here hx rfl (hb hby at_46) rfl k) ?_
    show G (T6.setTop (mkF m 47 #[.val (.int p1), .val (.int p2), .val (.int p3), .val (.int p4), .val (.int (1 : Int32)), .val (.ref b1), .unset, .unset] [(.int (((p3.toUInt32 >>> ((24 : Int32) &&& 31).toUInt32).toInt32).toInt8.toInt32)), (.int (3 : Int32)), (.ref b1)]))
    obtain ⟨cl8, Ar8, qk8, qs8, qn8, qh8, qg8⟩ := id V6
    obtain ⟨T8, h8, X8, e8, W8, st8⟩ := stB X6 hx hZ e6 Ar8 (j := (3 : Int32)) (inb_of qs8 ⟨by decide, by decide⟩) (g := (mkF m 47 #[.val (.int p1), .val (.int p2), .val (.int p3), .val (.int p4), .val (.int (1 : Int32)), .val (.ref b1), .unset, .unset] [(.int (((p3.toUInt32 >>> ((24 : Int32) &&& 31).toUInt32).toInt32).toInt8.toInt32)), (.int (3 : Int32)), (.ref b1)])) rfl rfl (hb hby at_47)
    have V8 : Arv Z h8 b1 k1 .byte (5 : Int32) [(.int (nar .byte (p3.toInt8.toInt32))), (.int (nar .byte (((p3.toUInt32 >>> ((8 : Int32) &&& 31).toUInt32).toInt32).toInt8.toInt32))), (.int (nar .byte (((p3.toUInt32 >>> ((16 : Int32) &&& 31).toUInt32).toInt32).toInt8.toInt32))), (.int (nar .byte (((p3.toUInt32 >>> ((24 : Int32) &&& 31).toUInt32).toInt32).toInt8.toInt32))), (.int (0 : Int32))] (.int (0 : Int32)) := Arv.set Ar8 qk8 qs8 qn8 qh8 qg8 (fits_nar_byte _) W8 3 rfl (Nat.le_of_ble_eq_true rfl)
    have f9 := f7.wr W8
    have Zs8 : n0 ≤ h8.size := Nat.le_trans Zs6 (Keep.of_wr W8).1
    have N8 := Fr.snoc X8 N6 g_b1
    refine go st8 ?_
    show G (T8.setTop (mkF m 48 #[.val (.int p1), .val (.int p2), .val (.int p3), .val (.int p4), .val (.int (1 : Int32)), .val (.ref b1), .unset, .unset] []))
    refine go (fun _ k => XS.aload X8.here hx rfl (hb hby at_48) rfl rfl k) ?_
    show G (T8.setTop (mkF m 50 #[.val (.int p1), .val (.int p2), .val (.int p3), .val (.int p4), .val (.int (1 : Int32)), .val (.ref b1), .unset, .unset] [(.ref b1)]))
    refine go (fun _ k => XS.iconst X8.here hx rfl (hb hby at_50) k) ?_
    show G (T8.setTop (mkF m 51 #[.val (.int p1), .val (.int p2), .val (.int p3), .val (.int p4), .val (.int (1 : Int32)), .val (.ref b1), .unset, .unset] [(.int (4 : Int32)), (.ref b1)]))
    refine go (fun _ k => XS.iloadN X8.here hx rfl (hb hby at_51) rfl k) ?_
    show G (T8.setTop (mkF m 52 #[.val (.int p1), .val (.int p2), .val (.int p3), .val (.int p4), .val (.int (1 : Int32)), .val (.ref b1), .unset, .unset] [(.int p4), (.int (4 : Int32)), (.ref b1)]))
    refine go (fun _ k => XS.i2b X8.here hx rfl (hb hby at_52) rfl k) ?_
    show G (T8.setTop (mkF m 53 #[.val (.int p1), .val (.int p2), .val (.int p3), .val (.int p4), .val (.int (1 : Int32)), .val (.ref b1), .unset, .unset] [(.int (p4.toInt8.toInt32)), (.int (4 : Int32)), (.ref b1)]))
    obtain ⟨cl10, Ar10, qk10, qs10, qn10, qh10, qg10⟩ := id V8
    obtain ⟨T10, h10, X10, e10, W10, st10⟩ := stB X8 hx hZ e8 Ar10 (j := (4 : Int32)) (inb_of qs10 ⟨by decide, by decide⟩) (g := (mkF m 53 #[.val (.int p1), .val (.int p2), .val (.int p3), .val (.int p4), .val (.int (1 : Int32)), .val (.ref b1), .unset, .unset] [(.int (p4.toInt8.toInt32)), (.int (4 : Int32)), (.ref b1)])) rfl rfl (hb hby at_53)
    have V10 : Arv Z h10 b1 k1 .byte (5 : Int32) [(.int (nar .byte (p3.toInt8.toInt32))), (.int (nar .byte (((p3.toUInt32 >>> ((8 : Int32) &&& 31).toUInt32).toInt32).toInt8.toInt32))), (.int (nar .byte (((p3.toUInt32 >>> ((16 : Int32) &&& 31).toUInt32).toInt32).toInt8.toInt32))), (.int (nar .byte (((p3.toUInt32 >>> ((24 : Int32) &&& 31).toUInt32).toInt32).toInt8.toInt32))), (.int (nar .byte (p4.toInt8.toInt32)))] (.int (0 : Int32)) := Arv.set Ar10 qk10 qs10 qn10 qh10 qg10 (fits_nar_byte _) W10 4 rfl (Nat.le_of_ble_eq_true rfl)
    have f11 := f9.wr W10
    have Zs10 : n0 ≤ h10.size := Nat.le_trans Zs8 (Keep.of_wr W10).1
    have N10 := Fr.snoc X10 N8 g_b1
    refine go st10 ?_
    show G (T10.setTop (mkF m 54 #[.val (.int p1), .val (.int p2), .val (.int p3), .val (.int p4), .val (.int (1 : Int32)), .val (.ref b1), .unset, .unset] []))
    refine go (fun _ k => XS.iload X10.here hx rfl (hb hby at_54) rfl k) ?_
    show G (T10.setTop (mkF m 56 #[.val (.int p1), .val (.int p2), .val (.int p3), .val (.int p4), .val (.int (1 : Int32)), .val (.ref b1), .unset, .unset] [(.int (1 : Int32))]))
    refine go (fun _ k => XS.iconst X10.here hx rfl (hb hby at_56) k) ?_
    show G (T10.setTop (mkF m 57 #[.val (.int p1), .val (.int p2), .val (.int p3), .val (.int p4), .val (.int (1 : Int32)), .val (.ref b1), .unset, .unset] [(.int (1 : Int32)), (.int (1 : Int32))]))
    have hc12 : (1 : Int32) = (1 : Int32) := rfl
    refine go (fun _ k => XS.icmpNo X10.here hx rfl (hb hby at_57) rfl (teq hc12).2 k) ?_
    show G (T10.setTop (mkF m 60 #[.val (.int p1), .val (.int p2), .val (.int p3), .val (.int p4), .val (.int (1 : Int32)), .val (.ref b1), .unset, .unset] []))
    refine go (fun _ k => XS.iloadN X10.here hx rfl (hb hby at_60) rfl k) ?_
    show G (T10.setTop (mkF m 61 #[.val (.int p1), .val (.int p2), .val (.int p3), .val (.int p4), .val (.int (1 : Int32)), .val (.ref b1), .unset, .unset] [(.int p2)]))
    refine go (fun _ k => XS.i2l X10.here hx rfl (hb hby at_61) rfl k) ?_
    show G (T10.setTop (mkF m 62 #[.val (.int p1), .val (.int p2), .val (.int p3), .val (.int p4), .val (.int (1 : Int32)), .val (.ref b1), .unset, .unset] [(.long (p2.toInt64))]))
    refine go (X10.ldc2Long hx hown (mvT hZ (hw _ (List.mem_of_getElem? (i := 2) rfl))) (g := (mkF m 62 #[.val (.int p1), .val (.int p2), .val (.int p3), .val (.int p4), .val (.int (1 : Int32)), .val (.ref b1), .unset, .unset] [(.long (p2.toInt64))])) rfl (hb hby at_62)) ?_
    show G (T10.setTop (mkF m 65 #[.val (.int p1), .val (.int p2), .val (.int p3), .val (.int p4), .val (.int (1 : Int32)), .val (.ref b1), .unset, .unset] [(.long (127 : Int64)), (.long (p2.toInt64))]))
    refine go (fun _ k => XS.land X10.here hx rfl (hb hby at_65) rfl k) ?_
    show G (T10.setTop (mkF m 66 #[.val (.int p1), .val (.int p2), .val (.int p3), .val (.int p4), .val (.int (1 : Int32)), .val (.ref b1), .unset, .unset] [(.long ((p2.toInt64) &&& (127 : Int64)))]))
    refine go (fun _ k => XS.lstore X10.here hx rfl (hb hby at_66) rfl (l' := #[.val (.int p1), .val (.int p2), .val (.int p3), .val (.int p4), .val (.int (1 : Int32)), .val (.ref b1), .val (.long ((p2.toInt64) &&& (127 : Int64))), .second]) rfl k) ?_
    show G (T10.setTop (mkF m 68 #[.val (.int p1), .val (.int p2), .val (.int p3), .val (.int p4), .val (.int (1 : Int32)), .val (.ref b1), .val (.long ((p2.toInt64) &&& (127 : Int64))), .second] []))
    refine go (fun _ k => XS.aload X10.here hx rfl (hb hby at_68) rfl rfl k) ?_
    show G (T10.setTop (mkF m 70 #[.val (.int p1), .val (.int p2), .val (.int p3), .val (.int p4), .val (.int (1 : Int32)), .val (.ref b1), .val (.long ((p2.toInt64) &&& (127 : Int64))), .second] [(.ref b1)]))
    refine go (fun _ k => XS.iconst X10.here hx rfl (hb hby at_70) k) ?_
    show G (T10.setTop (mkF m 71 #[.val (.int p1), .val (.int p2), .val (.int p3), .val (.int p4), .val (.int (1 : Int32)), .val (.ref b1), .val (.long ((p2.toInt64) &&& (127 : Int64))), .second] [(.int (0 : Int32)), (.ref b1)]))
    refine go (fun _ k => XS.lload X10.here hx rfl (hb hby at_71) rfl k) ?_
    show G (T10.setTop (mkF m 73 #[.val (.int p1), .val (.int p2), .val (.int p3), .val (.int p4), .val (.int (1 : Int32)), .val (.ref b1), .val (.long ((p2.toInt64) &&& (127 : Int64))), .second] [(.long ((p2.toInt64) &&& (127 : Int64))), (.int (0 : Int32)), (.ref b1)]))
    refine go (fun _ k => XS.l2i X10.here hx rfl (hb hby at_73) rfl k) ?_
    show G (T10.setTop (mkF m 74 #[.val (.int p1), .val (.int p2), .val (.int p3), .val (.int p4), .val (.int (1 : Int32)), .val (.ref b1), .val (.long ((p2.toInt64) &&& (127 : Int64))), .second] [(.int (((p2.toInt64) &&& (127 : Int64)).toInt32)), (.int (0 : Int32)), (.ref b1)]))
    refine go (fun _ k => XS.i2b X10.here hx rfl (hb hby at_74) rfl k) ?_
    show G (T10.setTop (mkF m 75 #[.val (.int p1), .val (.int p2), .val (.int p3), .val (.int p4), .val (.int (1 : Int32)), .val (.ref b1), .val (.long ((p2.toInt64) &&& (127 : Int64))), .second] [(.int ((((p2.toInt64) &&& (127 : Int64)).toInt32).toInt8.toInt32)), (.int (0 : Int32)), (.ref b1)]))
    obtain ⟨cl13, Ar13, qk13, qs13, qn13, qh13, qg13⟩ := id V10
    obtain ⟨T13, h13, X13, e13, W13, st13⟩ := stB X10 hx hZ e10 Ar13 (j := (0 : Int32)) (inb_of qs13 ⟨by decide, by decide⟩) (g := (mkF m 75 #[.val (.int p1), .val (.int p2), .val (.int p3), .val (.int p4), .val (.int (1 : Int32)), .val (.ref b1), .val (.long ((p2.toInt64) &&& (127 : Int64))), .second] [(.int ((((p2.toInt64) &&& (127 : Int64)).toInt32).toInt8.toInt32)), (.int (0 : Int32)), (.ref b1)])) rfl rfl (hb hby at_75)
    have V13 : Arv Z h13 b1 k1 .byte (5 : Int32) [(.int (nar .byte ((((p2.toInt64) &&& (127 : Int64)).toInt32).toInt8.toInt32))), (.int (nar .byte (((p3.toUInt32 >>> ((8 : Int32) &&& 31).toUInt32).toInt32).toInt8.toInt32))), (.int (nar .byte (((p3.toUInt32 >>> ((16 : Int32) &&& 31).toUInt32).toInt32).toInt8.toInt32))), (.int (nar .byte (((p3.toUInt32 >>> ((24 : Int32) &&& 31).toUInt32).toInt32).toInt8.toInt32))), (.int (nar .byte (p4.toInt8.toInt32)))] (.int (0 : Int32)) := Arv.set Ar13 qk13 qs13 qn13 qh13 qg13 (fits_nar_byte _) W13 0 rfl (Nat.le_of_ble_eq_true rfl)
    have f14 := f11.wr W13
    have Zs13 : n0 ≤ h13.size := Nat.le_trans Zs10 (Keep.of_wr W13).1
    have N13 := Fr.snoc X13 N10 g_b1
    refine go st13 ?_
    show G (T13.setTop (mkF m 76 #[.val (.int p1), .val (.int p2), .val (.int p3), .val (.int p4), .val (.int (1 : Int32)), .val (.ref b1), .val (.long ((p2.toInt64) &&& (127 : Int64))), .second] []))
    refine go (fun _ k => XS.goto X13.here hx rfl (pc0 := 76) (pc' := 287) rfl (hb hby at_76) (by decide) (by decide) k) ?_
    show G (T13.setTop (mkF m 287 #[.val (.int p1), .val (.int p2), .val (.int p3), .val (.int p4), .val (.int (1 : Int32)), .val (.ref b1), .val (.long ((p2.toInt64) &&& (127 : Int64))), .second] []))
    refine go (fun _ k => XS.aload X13.here hx rfl (hb hby at_287) rfl rfl k) ?_
    show G (T13.setTop (mkF m 289 #[.val (.int p1), .val (.int p2), .val (.int p3), .val (.int p4), .val (.int (1 : Int32)), .val (.ref b1), .val (.long ((p2.toInt64) &&& (127 : Int64))), .second] [(.ref b1)]))
    refine go (fun _ k => XS.iload X13.here hx rfl (hb hby at_289) rfl k) ?_
    show G (T13.setTop (mkF m 291 #[.val (.int p1), .val (.int p2), .val (.int p3), .val (.int p4), .val (.int (1 : Int32)), .val (.ref b1), .val (.long ((p2.toInt64) &&& (127 : Int64))), .second] [(.int (1 : Int32)), (.ref b1)]))
    obtain ⟨_, _, ⟨T15, L15, k15, n15⟩, -, X15, ⟨Lc15, hQ15, l15, y15, z15⟩, st15⟩ := Jvm.LawKit.callS X13 hx (y := (⟨"com/example/parley/parley/sentence/WordLength", "decode", "([BI)J"⟩ : MethodName)) hown (mvT hZ (hw _ (List.mem_of_getElem? (i := 3) rfl))) (mvT hZ (hw _ (List.mem_of_getElem? (i := 4) rfl))) (mvT hZ (hw _ (List.mem_of_getElem? (i := 5) rfl))) (mvT hZ (hw _ (List.mem_of_getElem? (i := 6) rfl))) (by decide) (backOf (W := 0) (rm1n1 l Z a0 hw [] b1 k1 (nar .byte ((((p2.toInt64) &&& (127 : Int64)).toInt32).toInt8.toInt32)) (nar .byte (((p3.toUInt32 >>> ((8 : Int32) &&& 31).toUInt32).toInt32).toInt8.toInt32)) (nar .byte (((p3.toUInt32 >>> ((16 : Int32) &&& 31).toUInt32).toInt32).toInt8.toInt32)) (nar .byte (((p3.toUInt32 >>> ((24 : Int32) &&& 31).toUInt32).toInt32).toInt8.toInt32)) (nar .byte (p4.toInt8.toInt32)) h13 n0 Zs13 V13) hZ (hw _ (List.mem_of_getElem? (i := 6) rfl)) (hw _ (List.mem_of_getElem? (i := 5) rfl)) (by decide) (by decide)) (g := (mkF m 291 #[.val (.int p1), .val (.int p2), .val (.int p3), .val (.int p4), .val (.int (1 : Int32)), .val (.ref b1), .val (.long ((p2.toInt64) &&& (127 : Int64))), .second] [(.int (1 : Int32)), (.ref b1)])) rfl (by rw [hml]; rfl) (argsL := [(.ref b1), (.int (1 : Int32))]) (rest := []) (lenOf pd_0_0 rfl) rfl (by show 2 * 0 + _ ≤ _; exact Nat.le_of_eq rfl) (hb hby at_291) (fun _ _ => ⟨rfl, e13, (by decide : 1 + 0 ≤ _), (by decide : 5 + 0 ≤ _)⟩)
    dsimp only [Pt.U, Pt.locs, Pt.cells, Pt.slots] at X15 l15 y15 z15 st15 hQ15
    subst l15 y15 z15
    obtain ⟨rfl, N15q, e15⟩ := hQ15
    have N15 := Fr.app N13 N15q
    refine go st15 ?_
    show G (T15.setTop (mkF m 294 #[.val (.int p1), .val (.int p2), .val (.int p3), .val (.int p4), .val (.int (1 : Int32)), .val (.ref b1), .val (.long ((p2.toInt64) &&& (127 : Int64))), .second] [(.long (d0 (1 : Int32) (nar .byte ((((p2.toInt64) &&& (127 : Int64)).toInt32).toInt8.toInt32))))]))
    refine go (fun _ k => XS.lload X15.here hx rfl (hb hby at_294) rfl k) ?_
    show G (T15.setTop (mkF m 296 #[.val (.int p1), .val (.int p2), .val (.int p3), .val (.int p4), .val (.int (1 : Int32)), .val (.ref b1), .val (.long ((p2.toInt64) &&& (127 : Int64))), .second] [(.long ((p2.toInt64) &&& (127 : Int64))), (.long (d0 (1 : Int32) (nar .byte ((((p2.toInt64) &&& (127 : Int64)).toInt32).toInt8.toInt32))))]))
    refine go (fun _ k => XS.lcmp X15.here hx rfl (hb hby at_296) rfl k) ?_
    show G (T15.setTop (mkF m 297 #[.val (.int p1), .val (.int p2), .val (.int p3), .val (.int p4), .val (.int (1 : Int32)), .val (.ref b1), .val (.long ((p2.toInt64) &&& (127 : Int64))), .second] [(.int (lcmpW (d0 (1 : Int32) (nar .byte ((((p2.toInt64) &&& (127 : Int64)).toInt32).toInt8.toInt32))) ((p2.toInt64) &&& (127 : Int64))))]))
    have hc16 : (d0 (1 : Int32) (nar .byte ((((p2.toInt64) &&& (127 : Int64)).toInt32).toInt8.toInt32))) = ((p2.toInt64) &&& (127 : Int64)) := own_dec1 _ (own_L p2 127 (by decide)).1 (own_L p2 127 (by decide)).2
    refine go (fun _ k => XS.ifNo X15.here hx rfl (hb hby at_297) rfl ((if0 _ _).trans (teq (own_lceq.mpr hc16)).2) k) ?_
    show G (T15.setTop (mkF m 300 #[.val (.int p1), .val (.int p2), .val (.int p3), .val (.int p4), .val (.int (1 : Int32)), .val (.ref b1), .val (.long ((p2.toInt64) &&& (127 : Int64))), .second] []))
    refine go (fun _ k => XS.iconst X15.here hx rfl (hb hby at_300) k) ?_
    show G (T15.setTop (mkF m 301 #[.val (.int p1), .val (.int p2), .val (.int p3), .val (.int p4), .val (.int (1 : Int32)), .val (.ref b1), .val (.long ((p2.toInt64) &&& (127 : Int64))), .second] [(.int (1 : Int32))]))
    refine go (fun _ k => XS.goto X15.here hx rfl (pc0 := 301) (pc' := 305) rfl (hb hby at_301) (by decide) (by decide) k) ?_
    show G (T15.setTop (mkF m 305 #[.val (.int p1), .val (.int p2), .val (.int p3), .val (.int p4), .val (.int (1 : Int32)), .val (.ref b1), .val (.long ((p2.toInt64) &&& (127 : Int64))), .second] [(.int (1 : Int32))]))
    rw [hG]
    refine own_fin X15 Bd.notSynchronized (v := some (.int (1 : Int32))) (fun h => by rw [Bd.returns] at h; cases h) (fun fs hr => retOut X15 hx Bd.returns rfl (by simp [FieldType.isReference, Value.isRef]) (hb hby at_305) hr) ?_ (by decide) (by decide)
    show Q0 Z p1 p2 p3 p4 h0 n0 (some (.int (1 : Int32))) T15.heap _
    rw [e15]
    exact ⟨rfl, N15⟩
  · show G (s₁.setTop (mkF m 10 #[.val (.int p1), .val (.int p2), .val (.int p3), .val (.int p4), .val (.int (2 : Int32)), .unset, .unset, .unset] []))
    refine go (fun _ k => XS.iconst X0.here hx rfl (hb hby at_10) k) ?_
    show G (s₁.setTop (mkF m 11 #[.val (.int p1), .val (.int p2), .val (.int p3), .val (.int p4), .val (.int (2 : Int32)), .unset, .unset, .unset] [(.int (5 : Int32))]))
    obtain ⟨T17, h17, k17, X17, e17, E17, A17, B17, st17⟩ := newPE X0 hx hZ (hw _ (List.mem_of_getElem? (i := 1) rfl)) e0 (g := (mkF m 11 #[.val (.int p1), .val (.int p2), .val (.int p3), .val (.int p4), .val (.int (2 : Int32)), .unset, .unset, .unset] [(.int (5 : Int32))])) rfl (hb hby at_11) rfl (by decide) (cap := 5) (by decide) (by decide) (by decide) (by decide) (ad := "[B") (by decide)
    obtain ⟨b17, ga17⟩ : ∃ z, z = h0.size := ⟨_, rfl⟩
    have g_b17 : n0 ≤ b17 := Nat.le_trans Z0 (Nat.le_of_eq ga17.symm)
    rw [← ga17] at A17 B17 st17
    have Zs17 : n0 ≤ h17.size := Nat.le_trans Z0 E17.1
    have V17 : Arv Z h17 b17 k17 .byte (5 : Int32) [(.int (0 : Int32)), (.int (0 : Int32)), (.int (0 : Int32)), (.int (0 : Int32)), (.int (0 : Int32))] (.int (0 : Int32)) := (Arv.new A17 (by decide)).pad (pad_rep [] (.int (0 : Int32)) 5)
    refine go st17 ?_
    show G (T17.setTop (mkF m 13 #[.val (.int p1), .val (.int p2), .val (.int p3), .val (.int p4), .val (.int (2 : Int32)), .unset, .unset, .unset] [(.ref b17)]))
    refine go (fun _ k => XS.astore X17.here hx rfl (hb hby at_13) rfl rfl (l' := #[.val (.int p1), .val (.int p2), .val (.int p3), .val (.int p4), .val (.int (2 : Int32)), .val (.ref b17), .unset, .unset]) rfl k) ?_
    show G (T17.setTop (mkF m 15 #[.val (.int p1), .val (.int p2), .val (.int p3), .val (.int p4), .val (.int (2 : Int32)), .val (.ref b17), .unset, .unset] []))
    refine go (fun _ k => XS.aload X17.here hx rfl (hb hby at_15) rfl rfl k) ?_
    show G (T17.setTop (mkF m 17 #[.val (.int p1), .val (.int p2), .val (.int p3), .val (.int p4), .val (.int (2 : Int32)), .val (.ref b17), .unset, .unset] [(.ref b17)]))
    refine go (fun _ k => XS.iconst X17.here hx rfl (hb hby at_17) k) ?_
    show G (T17.setTop (mkF m 18 #[.val (.int p1), .val (.int p2), .val (.int p3), .val (.int p4), .val (.int (2 : Int32)), .val (.ref b17), .unset, .unset] [(.int (0 : Int32)), (.ref b17)]))
    refine go (fun _ k => XS.iloadN X17.here hx rfl (hb hby at_18) rfl k) ?_
    show G (T17.setTop (mkF m 19 #[.val (.int p1), .val (.int p2), .val (.int p3), .val (.int p4), .val (.int (2 : Int32)), .val (.ref b17), .unset, .unset] [(.int p3), (.int (0 : Int32)), (.ref b17)]))
    refine go (fun _ k => XS.i2b X17.here hx rfl (hb hby at_19) rfl k) ?_
    show G (T17.setTop (mkF m 20 #[.val (.int p1), .val (.int p2), .val (.int p3), .val (.int p4), .val (.int (2 : Int32)), .val (.ref b17), .unset, .unset] [(.int (p3.toInt8.toInt32)), (.int (0 : Int32)), (.ref b17)]))
    obtain ⟨cl18, Ar18, qk18, qs18, qn18, qh18, qg18⟩ := id V17
    obtain ⟨T18, h18, X18, e18, W18, st18⟩ := stB X17 hx hZ e17 Ar18 (j := (0 : Int32)) (inb_of qs18 ⟨by decide, by decide⟩) (g := (mkF m 20 #[.val (.int p1), .val (.int p2), .val (.int p3), .val (.int p4), .val (.int (2 : Int32)), .val (.ref b17), .unset, .unset] [(.int (p3.toInt8.toInt32)), (.int (0 : Int32)), (.ref b17)])) rfl rfl (hb hby at_20)
    have V18 : Arv Z h18 b17 k17 .byte (5 : Int32) [(.int (nar .byte (p3.toInt8.toInt32))), (.int (0 : Int32)), (.int (0 : Int32)), (.int (0 : Int32)), (.int (0 : Int32))] (.int (0 : Int32)) := Arv.set Ar18 qk18 qs18 qn18 qh18 qg18 (fits_nar_byte _) W18 0 rfl (Nat.le_of_ble_eq_true rfl)
    have f19 := B17.wr W18
    have Zs18 : n0 ≤ h18.size := Nat.le_trans Zs17 (Keep.of_wr W18).1
    have N18 := Fr.snoc X18 N0 g_b17
    refine go st18 ?_
    show G (T18.setTop (mkF m 21 #[.val (.int p1), .val (.int p2), .val (.int p3), .val (.int p4), .val (.int (2 : Int32)), .val (.ref b17), .unset, .unset] []))
    refine go (fun _ k => XS.aload X18.here hx rfl (hb hby at_21) rfl rfl k) ?_
    show G (T18.setTop (mkF m 23 #[.val (.int p1), .val (.int p2), .val (.int p3), .val (.int p4), .val (.int (2 : Int32)), .val (.ref b17), .unset, .unset] [(.ref b17)]))
    refine go (fun _ k => XS.iconst X18.here hx rfl (hb hby at_23) k) ?_
    show G (T18.setTop (mkF m 24 #[.val (.int p1), .val (.int p2), .val (.int p3), .val (.int p4), .val (.int (2 : Int32)), .val (.ref b17), .unset, .unset] [(.int (1 : Int32)), (.ref b17)]))
    refine go (fun _ k => XS.iloadN X18.here hx rfl (hb hby at_24) rfl k) ?_
    show G (T18.setTop (mkF m 25 #[.val (.int p1), .val (.int p2), .val (.int p3), .val (.int p4), .val (.int (2 : Int32)), .val (.ref b17), .unset, .unset] [(.int p3), (.int (1 : Int32)), (.ref b17)]))
    refine go (fun _ k => XS.bipush X18.here hx rfl (hb hby at_25) k) ?_
    show G (T18.setTop (mkF m 27 #[.val (.int p1), .val (.int p2), .val (.int p3), .val (.int p4), .val (.int (2 : Int32)), .val (.ref b17), .unset, .unset] [(.int (8 : Int32)), (.int p3), (.int (1 : Int32)), (.ref b17)]))
    refine go (fun _ k => XS.iushr X18.here hx rfl (hb hby at_27) rfl k) ?_
    show G (T18.setTop (mkF m 28 #[.val (.int p1), .val (.int p2), .val (.int p3), .val (.int p4), .val (.int (2 : Int32)), .val (.ref b17), .unset, .unset] [(.int ((p3.toUInt32 >>> ((8 : Int32) &&& 31).toUInt32).toInt32)), (.int (1 : Int32)), (.ref b17)]))
    refine go (fun _ k => XS.i2b X18.here hx rfl (hb hby at_28) rfl k) ?_
    show G (T18.setTop (mkF m 29 #[.val (.int p1), .val (.int p2), .val (.int p3), .val (.int p4), .val (.int (2 : Int32)), .val (.ref b17), .unset, .unset] [(.int (((p3.toUInt32 >>> ((8 : Int32) &&& 31).toUInt32).toInt32).toInt8.toInt32)), (.int (1 : Int32)), (.ref b17)]))
    obtain ⟨cl20, Ar20, qk20, qs20, qn20, qh20, qg20⟩ := id V18
    obtain ⟨T20, h20, X20, e20, W20, st20⟩ := stB X18 hx hZ e18 Ar20 (j := (1 : Int32)) (inb_of qs20 ⟨by decide, by decide⟩) (g := (mkF m 29 #[.val (.int p1), .val (.int p2), .val (.int p3), .val (.int p4), .val (.int (2 : Int32)), .val (.ref b17), .unset, .unset] [(.int (((p3.toUInt32 >>> ((8 : Int32) &&& 31).toUInt32).toInt32).toInt8.toInt32)), (.int (1 : Int32)), (.ref b17)])) rfl rfl (hb hby at_29)
    have V20 : Arv Z h20 b17 k17 .byte (5 : Int32) [(.int (nar .byte (p3.toInt8.toInt32))), (.int (nar .byte (((p3.toUInt32 >>> ((8 : Int32) &&& 31).toUInt32).toInt32).toInt8.toInt32))), (.int (0 : Int32)), (.int (0 : Int32)), (.int (0 : Int32))] (.int (0 : Int32)) := Arv.set Ar20 qk20 qs20 qn20 qh20 qg20 (fits_nar_byte _) W20 1 rfl (Nat.le_of_ble_eq_true rfl)
    have f21 := f19.wr W20
    have Zs20 : n0 ≤ h20.size := Nat.le_trans Zs18 (Keep.of_wr W20).1
    have N20 := Fr.snoc X20 N18 g_b17
    refine go st20 ?_
    show G (T20.setTop (mkF m 30 #[.val (.int p1), .val (.int p2), .val (.int p3), .val (.int p4), .val (.int (2 : Int32)), .val (.ref b17), .unset, .unset] []))
    refine go (fun _ k => XS.aload X20.here hx rfl (hb hby at_30) rfl rfl k) ?_
    show G (T20.setTop (mkF m 32 #[.val (.int p1), .val (.int p2), .val (.int p3), .val (.int p4), .val (.int (2 : Int32)), .val (.ref b17), .unset, .unset] [(.ref b17)]))
    refine go (fun _ k => XS.iconst X20.here hx rfl (hb hby at_32) k) ?_
    show G (T20.setTop (mkF m 33 #[.val (.int p1), .val (.int p2), .val (.int p3), .val (.int p4), .val (.int (2 : Int32)), .val (.ref b17), .unset, .unset] [(.int (2 : Int32)), (.ref b17)]))
    refine go (fun _ k => XS.iloadN X20.here hx rfl (hb hby at_33) rfl k) ?_
    show G (T20.setTop (mkF m 34 #[.val (.int p1), .val (.int p2), .val (.int p3), .val (.int p4), .val (.int (2 : Int32)), .val (.ref b17), .unset, .unset] [(.int p3), (.int (2 : Int32)), (.ref b17)]))
    refine go (fun _ k => XS.bipush X20.here hx rfl (hb hby at_34) k) ?_
    show G (T20.setTop (mkF m 36 #[.val (.int p1), .val (.int p2), .val (.int p3), .val (.int p4), .val (.int (2 : Int32)), .val (.ref b17), .unset, .unset] [(.int (16 : Int32)), (.int p3), (.int (2 : Int32)), (.ref b17)]))
    refine go (fun _ k => XS.iushr X20.here hx rfl (hb hby at_36) rfl k) ?_
    show G (T20.setTop (mkF m 37 #[.val (.int p1), .val (.int p2), .val (.int p3), .val (.int p4), .val (.int (2 : Int32)), .val (.ref b17), .unset, .unset] [(.int ((p3.toUInt32 >>> ((16 : Int32) &&& 31).toUInt32).toInt32)), (.int (2 : Int32)), (.ref b17)]))
    refine go (fun _ k => XS.i2b X20.here hx rfl (hb hby at_37) rfl k) ?_
    show G (T20.setTop (mkF m 38 #[.val (.int p1), .val (.int p2), .val (.int p3), .val (.int p4), .val (.int (2 : Int32)), .val (.ref b17), .unset, .unset] [(.int (((p3.toUInt32 >>> ((16 : Int32) &&& 31).toUInt32).toInt32).toInt8.toInt32)), (.int (2 : Int32)), (.ref b17)]))
    obtain ⟨cl22, Ar22, qk22, qs22, qn22, qh22, qg22⟩ := id V20
    obtain ⟨T22, h22, X22, e22, W22, st22⟩ := stB X20 hx hZ e20 Ar22 (j := (2 : Int32)) (inb_of qs22 ⟨by decide, by decide⟩) (g := (mkF m 38 #[.val (.int p1), .val (.int p2), .val (.int p3), .val (.int p4), .val (.int (2 : Int32)), .val (.ref b17), .unset, .unset] [(.int (((p3.toUInt32 >>> ((16 : Int32) &&& 31).toUInt32).toInt32).toInt8.toInt32)), (.int (2 : Int32)), (.ref b17)])) rfl rfl (hb hby at_38)
    have V22 : Arv Z h22 b17 k17 .byte (5 : Int32) [(.int (nar .byte (p3.toInt8.toInt32))), (.int (nar .byte (((p3.toUInt32 >>> ((8 : Int32) &&& 31).toUInt32).toInt32).toInt8.toInt32))), (.int (nar .byte (((p3.toUInt32 >>> ((16 : Int32) &&& 31).toUInt32).toInt32).toInt8.toInt32))), (.int (0 : Int32)), (.int (0 : Int32))] (.int (0 : Int32)) := Arv.set Ar22 qk22 qs22 qn22 qh22 qg22 (fits_nar_byte _) W22 2 rfl (Nat.le_of_ble_eq_true rfl)
    have f23 := f21.wr W22
    have Zs22 : n0 ≤ h22.size := Nat.le_trans Zs20 (Keep.of_wr W22).1
    have N22 := Fr.snoc X22 N20 g_b17
    refine go st22 ?_
    show G (T22.setTop (mkF m 39 #[.val (.int p1), .val (.int p2), .val (.int p3), .val (.int p4), .val (.int (2 : Int32)), .val (.ref b17), .unset, .unset] []))
    refine go (fun _ k => XS.aload X22.here hx rfl (hb hby at_39) rfl rfl k) ?_
    show G (T22.setTop (mkF m 41 #[.val (.int p1), .val (.int p2), .val (.int p3), .val (.int p4), .val (.int (2 : Int32)), .val (.ref b17), .unset, .unset] [(.ref b17)]))
    refine go (fun _ k => XS.iconst X22.here hx rfl (hb hby at_41) k) ?_
    show G (T22.setTop (mkF m 42 #[.val (.int p1), .val (.int p2), .val (.int p3), .val (.int p4), .val (.int (2 : Int32)), .val (.ref b17), .unset, .unset] [(.int (3 : Int32)), (.ref b17)]))
    refine go (fun _ k => XS.iloadN X22.here hx rfl (hb hby at_42) rfl k) ?_
    show G (T22.setTop (mkF m 43 #[.val (.int p1), .val (.int p2), .val (.int p3), .val (.int p4), .val (.int (2 : Int32)), .val (.ref b17), .unset, .unset] [(.int p3), (.int (3 : Int32)), (.ref b17)]))
    refine go (fun _ k => XS.bipush X22.here hx rfl (hb hby at_43) k) ?_
    show G (T22.setTop (mkF m 45 #[.val (.int p1), .val (.int p2), .val (.int p3), .val (.int p4), .val (.int (2 : Int32)), .val (.ref b17), .unset, .unset] [(.int (24 : Int32)), (.int p3), (.int (3 : Int32)), (.ref b17)]))
    refine go (fun _ k => XS.iushr X22.here hx rfl (hb hby at_45) rfl k) ?_
    show G (T22.setTop (mkF m 46 #[.val (.int p1), .val (.int p2), .val (.int p3), .val (.int p4), .val (.int (2 : Int32)), .val (.ref b17), .unset, .unset] [(.int ((p3.toUInt32 >>> ((24 : Int32) &&& 31).toUInt32).toInt32)), (.int (3 : Int32)), (.ref b17)]))
    refine go (fun _ k => XS.i2b X22.here hx rfl (hb hby at_46) rfl k) ?_
    show G (T22.setTop (mkF m 47 #[.val (.int p1), .val (.int p2), .val (.int p3), .val (.int p4), .val (.int (2 : Int32)), .val (.ref b17), .unset, .unset] [(.int (((p3.toUInt32 >>> ((24 : Int32) &&& 31).toUInt32).toInt32).toInt8.toInt32)), (.int (3 : Int32)), (.ref b17)]))
    obtain ⟨cl24, Ar24, qk24, qs24, qn24, qh24, qg24⟩ := id V22
    obtain ⟨T24, h24, X24, e24, W24, st24⟩ := stB X22 hx hZ e22 Ar24 (j := (3 : Int32)) (inb_of qs24 ⟨by decide, by decide⟩) (g := (mkF m 47 #[.val (.int p1), .val (.int p2), .val (.int p3), .val (.int p4), .val (.int (2 : Int32)), .val (.ref b17), .unset, .unset] [(.int (((p3.toUInt32 >>> ((24 : Int32) &&& 31).toUInt32).toInt32).toInt8.toInt32)), (.int (3 : Int32)), (.ref b17)])) rfl rfl (hb hby at_47)
    have V24 : Arv Z h24 b17 k17 .byte (5 : Int32) [(.int (nar .byte (p3.toInt8.toInt32))), (.int (nar .byte (((p3.toUInt32 >>> ((8 : Int32) &&& 31).toUInt32).toInt32).toInt8.toInt32))), (.int (nar .byte (((p3.toUInt32 >>> ((16 : Int32) &&& 31).toUInt32).toInt32).toInt8.toInt32))), (.int (nar .byte (((p3.toUInt32 >>> ((24 : Int32) &&& 31).toUInt32).toInt32).toInt8.toInt32))), (.int (0 : Int32))] (.int (0 : Int32)) := Arv.set Ar24 qk24 qs24 qn24 qh24 qg24 (fits_nar_byte _) W24 3 rfl (Nat.le_of_ble_eq_true rfl)
    have f25 := f23.wr W24
    have Zs24 : n0 ≤ h24.size := Nat.le_trans Zs22 (Keep.of_wr W24).1
    have N24 := Fr.snoc X24 N22 g_b17
    refine go st24 ?_
    show G (T24.setTop (mkF m 48 #[.val (.int p1), .val (.int p2), .val (.int p3), .val (.int p4), .val (.int (2 : Int32)), .val (.ref b17), .unset, .unset] []))
    refine go (fun _ k => XS.aload X24.here hx rfl (hb hby at_48) rfl rfl k) ?_
    show G (T24.setTop (mkF m 50 #[.val (.int p1), .val (.int p2), .val (.int p3), .val (.int p4), .val (.int (2 : Int32)), .val (.ref b17), .unset, .unset] [(.ref b17)]))
    refine go (fun _ k => XS.iconst X24.here hx rfl (hb hby at_50) k) ?_
    show G (T24.setTop (mkF m 51 #[.val (.int p1), .val (.int p2), .val (.int p3), .val (.int p4), .val (.int (2 : Int32)), .val (.ref b17), .unset, .unset] [(.int (4 : Int32)), (.ref b17)]))
    refine go (fun _ k => XS.iloadN X24.here hx rfl (hb hby at_51) rfl k) ?_
    show G (T24.setTop (mkF m 52 #[.val (.int p1), .val (.int p2), .val (.int p3), .val (.int p4), .val (.int (2 : Int32)), .val (.ref b17), .unset, .unset] [(.int p4), (.int (4 : Int32)), (.ref b17)]))
    refine go (fun _ k => XS.i2b X24.here hx rfl (hb hby at_52) rfl k) ?_
    show G (T24.setTop (mkF m 53 #[.val (.int p1), .val (.int p2), .val (.int p3), .val (.int p4), .val (.int (2 : Int32)), .val (.ref b17), .unset, .unset] [(.int (p4.toInt8.toInt32)), (.int (4 : Int32)), (.ref b17)]))
    obtain ⟨cl26, Ar26, qk26, qs26, qn26, qh26, qg26⟩ := id V24
    obtain ⟨T26, h26, X26, e26, W26, st26⟩ := stB X24 hx hZ e24 Ar26 (j := (4 : Int32)) (inb_of qs26 ⟨by decide, by decide⟩) (g := (mkF m 53 #[.val (.int p1), .val (.int p2), .val (.int p3), .val (.int p4), .val (.int (2 : Int32)), .val (.ref b17), .unset, .unset] [(.int (p4.toInt8.toInt32)), (.int (4 : Int32)), (.ref b17)])) rfl rfl (hb hby at_53)
    have V26 : Arv Z h26 b17 k17 .byte (5 : Int32) [(.int (nar .byte (p3.toInt8.toInt32))), (.int (nar .byte (((p3.toUInt32 >>> ((8 : Int32) &&& 31).toUInt32).toInt32).toInt8.toInt32))), (.int (nar .byte (((p3.toUInt32 >>> ((16 : Int32) &&& 31).toUInt32).toInt32).toInt8.toInt32))), (.int (nar .byte (((p3.toUInt32 >>> ((24 : Int32) &&& 31).toUInt32).toInt32).toInt8.toInt32))), (.int (nar .byte (p4.toInt8.toInt32)))] (.int (0 : Int32)) := Arv.set Ar26 qk26 qs26 qn26 qh26 qg26 (fits_nar_byte _) W26 4 rfl (Nat.le_of_ble_eq_true rfl)
    have f27 := f25.wr W26
    have Zs26 : n0 ≤ h26.size := Nat.le_trans Zs24 (Keep.of_wr W26).1
    have N26 := Fr.snoc X26 N24 g_b17
    refine go st26 ?_
    show G (T26.setTop (mkF m 54 #[.val (.int p1), .val (.int p2), .val (.int p3), .val (.int p4), .val (.int (2 : Int32)), .val (.ref b17), .unset, .unset] []))
    refine go (fun _ k => XS.iload X26.here hx rfl (hb hby at_54) rfl k) ?_
    show G (T26.setTop (mkF m 56 #[.val (.int p1), .val (.int p2), .val (.int p3), .val (.int p4), .val (.int (2 : Int32)), .val (.ref b17), .unset, .unset] [(.int (2 : Int32))]))
    refine go (fun _ k => XS.iconst X26.here hx rfl (hb hby at_56) k) ?_
    show G (T26.setTop (mkF m 57 #[.val (.int p1), .val (.int p2), .val (.int p3), .val (.int p4), .val (.int (2 : Int32)), .val (.ref b17), .unset, .unset] [(.int (1 : Int32)), (.int (2 : Int32))]))
    have hc28 : ¬ ((2 : Int32) = (1 : Int32)) := (by decide)
    refine go (fun _ k => XS.icmpYes X26.here hx rfl (pc0 := 57) (pc' := 79) rfl (hb hby at_57) rfl (feq hc28).2 (by decide) (by decide) k) ?_
    show G (T26.setTop (mkF m 79 #[.val (.int p1), .val (.int p2), .val (.int p3), .val (.int p4), .val (.int (2 : Int32)), .val (.ref b17), .unset, .unset] []))
    refine go (fun _ k => XS.iload X26.here hx rfl (hb hby at_79) rfl k) ?_
    show G (T26.setTop (mkF m 81 #[.val (.int p1), .val (.int p2), .val (.int p3), .val (.int p4), .val (.int (2 : Int32)), .val (.ref b17), .unset, .unset] [(.int (2 : Int32))]))
    refine go (fun _ k => XS.iconst X26.here hx rfl (hb hby at_81) k) ?_
    show G (T26.setTop (mkF m 82 #[.val (.int p1), .val (.int p2), .val (.int p3), .val (.int p4), .val (.int (2 : Int32)), .val (.ref b17), .unset, .unset] [(.int (2 : Int32)), (.int (2 : Int32))]))
    have hc29 : (2 : Int32) = (2 : Int32) := rfl
    refine go (fun _ k => XS.icmpNo X26.here hx rfl (hb hby at_82) rfl (teq hc29).2 k) ?_
    show G (T26.setTop (mkF m 85 #[.val (.int p1), .val (.int p2), .val (.int p3), .val (.int p4), .val (.int (2 : Int32)), .val (.ref b17), .unset, .unset] []))
    refine go (fun _ k => XS.iloadN X26.here hx rfl (hb hby at_85) rfl k) ?_
    show G (T26.setTop (mkF m 86 #[.val (.int p1), .val (.int p2), .val (.int p3), .val (.int p4), .val (.int (2 : Int32)), .val (.ref b17), .unset, .unset] [(.int p2)]))
    refine go (fun _ k => XS.i2l X26.here hx rfl (hb hby at_86) rfl k) ?_
    show G (T26.setTop (mkF m 87 #[.val (.int p1), .val (.int p2), .val (.int p3), .val (.int p4), .val (.int (2 : Int32)), .val (.ref b17), .unset, .unset] [(.long (p2.toInt64))]))
    refine go (X26.ldc2Long hx hown (mvT hZ (hw _ (List.mem_of_getElem? (i := 10) rfl))) (g := (mkF m 87 #[.val (.int p1), .val (.int p2), .val (.int p3), .val (.int p4), .val (.int (2 : Int32)), .val (.ref b17), .unset, .unset] [(.long (p2.toInt64))])) rfl (hb hby at_87)) ?_
    show G (T26.setTop (mkF m 90 #[.val (.int p1), .val (.int p2), .val (.int p3), .val (.int p4), .val (.int (2 : Int32)), .val (.ref b17), .unset, .unset] [(.long (16383 : Int64)), (.long (p2.toInt64))]))
    refine go (fun _ k => XS.land X26.here hx rfl (hb hby at_90) rfl k) ?_
    show G (T26.setTop (mkF m 91 #[.val (.int p1), .val (.int p2), .val (.int p3), .val (.int p4), .val (.int (2 : Int32)), .val (.ref b17), .unset, .unset] [(.long ((p2.toInt64) &&& (16383 : Int64)))]))
    refine go (fun _ k => XS.lstore X26.here hx rfl (hb hby at_91) rfl (l' := #[.val (.int p1), .val (.int p2), .val (.int p3), .val (.int p4), .val (.int (2 : Int32)), .val (.ref b17), .val (.long ((p2.toInt64) &&& (16383 : Int64))), .second]) rfl k) ?_
    show G (T26.setTop (mkF m 93 #[.val (.int p1), .val (.int p2), .val (.int p3), .val (.int p4), .val (.int (2 : Int32)), .val (.ref b17), .val (.long ((p2.toInt64) &&& (16383 : Int64))), .second] []))
    refine go (fun _ k => XS.aload X26.here hx rfl (hb hby at_93) rfl rfl k) ?_
    show G (T26.setTop (mkF m 95 #[.val (.int p1), .val (.int p2), .val (.int p3), .val (.int p4), .val (.int (2 : Int32)), .val (.ref b17), .val (.long ((p2.toInt64) &&& (16383 : Int64))), .second] [(.ref b17)]))
    refine go (fun _ k => XS.iconst X26.here hx rfl (hb hby at_95) k) ?_
    show G (T26.setTop (mkF m 96 #[.val (.int p1), .val (.int p2), .val (.int p3), .val (.int p4), .val (.int (2 : Int32)), .val (.ref b17), .val (.long ((p2.toInt64) &&& (16383 : Int64))), .second] [(.int (0 : Int32)), (.ref b17)]))
    refine go (X26.ldc2Long hx hown (mvT hZ (hw _ (List.mem_of_getElem? (i := 11) rfl))) (g := (mkF m 96 #[.val (.int p1), .val (.int p2), .val (.int p3), .val (.int p4), .val (.int (2 : Int32)), .val (.ref b17), .val (.long ((p2.toInt64) &&& (16383 : Int64))), .second] [(.int (0 : Int32)), (.ref b17)])) rfl (hb hby at_96)) ?_
    show G (T26.setTop (mkF m 99 #[.val (.int p1), .val (.int p2), .val (.int p3), .val (.int p4), .val (.int (2 : Int32)), .val (.ref b17), .val (.long ((p2.toInt64) &&& (16383 : Int64))), .second] [(.long (128 : Int64)), (.int (0 : Int32)), (.ref b17)]))
    refine go (fun _ k => XS.lload X26.here hx rfl (hb hby at_99) rfl k) ?_
    show G (T26.setTop (mkF m 101 #[.val (.int p1), .val (.int p2), .val (.int p3), .val (.int p4), .val (.int (2 : Int32)), .val (.ref b17), .val (.long ((p2.toInt64) &&& (16383 : Int64))), .second] [(.long ((p2.toInt64) &&& (16383 : Int64))), (.long (128 : Int64)), (.int (0 : Int32)), (.ref b17)]))
    refine go (fun _ k => XS.bipush X26.here hx rfl (hb hby at_101) k) ?_
    show G (T26.setTop (mkF m 103 #[.val (.int p1), .val (.int p2), .val (.int p3), .val (.int p4), .val (.int (2 : Int32)), .val (.ref b17), .val (.long ((p2.toInt64) &&& (16383 : Int64))), .second] [(.int (8 : Int32)), (.long ((p2.toInt64) &&& (16383 : Int64))), (.long (128 : Int64)), (.int (0 : Int32)), (.ref b17)]))
    refine go (fun _ k => XS.lushr X26.here hx rfl (hb hby at_103) rfl k) ?_
    show G (T26.setTop (mkF m 104 #[.val (.int p1), .val (.int p2), .val (.int p3), .val (.int p4), .val (.int (2 : Int32)), .val (.ref b17), .val (.long ((p2.toInt64) &&& (16383 : Int64))), .second] [(.long ((((p2.toInt64) &&& (16383 : Int64)).toUInt64 >>> ((8 : Int32) &&& 0x3f).toInt64.toUInt64).toInt64)), (.long (128 : Int64)), (.int (0 : Int32)), (.ref b17)]))
    refine go (fun _ k => XS.lor X26.here hx rfl (hb hby at_104) rfl k) ?_
    show G (T26.setTop (mkF m 105 #[.val (.int p1), .val (.int p2), .val (.int p3), .val (.int p4), .val (.int (2 : Int32)), .val (.ref b17), .val (.long ((p2.toInt64) &&& (16383 : Int64))), .second] [(.long ((128 : Int64) ||| ((((p2.toInt64) &&& (16383 : Int64)).toUInt64 >>> ((8 : Int32) &&& 0x3f).toInt64.toUInt64).toInt64))), (.int (0 : Int32)), (.ref b17)]))
    refine go (fun _ k => XS.l2i X26.here hx rfl (hb hby at_105) rfl k) ?_
    show G (T26.setTop (mkF m 106 #[.val (.int p1), .val (.int p2), .val (.int p3), .val (.int p4), .val (.int (2 : Int32)), .val (.ref b17), .val (.long ((p2.toInt64) &&& (16383 : Int64))), .second] [(.int (((128 : Int64) ||| ((((p2.toInt64) &&& (16383 : Int64)).toUInt64 >>> ((8 : Int32) &&& 0x3f).toInt64.toUInt64).toInt64)).toInt32)), (.int (0 : Int32)), (.ref b17)]))
    refine go (fun _ k => XS.i2b X26.here hx rfl (hb hby at_106) rfl k) ?_
    show G (T26.setTop (mkF m 107 #[.val (.int p1), .val (.int p2), .val (.int p3), .val (.int p4), .val (.int (2 : Int32)), .val (.ref b17), .val (.long ((p2.toInt64) &&& (16383 : Int64))), .second] [(.int ((((128 : Int64) ||| ((((p2.toInt64) &&& (16383 : Int64)).toUInt64 >>> ((8 : Int32) &&& 0x3f).toInt64.toUInt64).toInt64)).toInt32).toInt8.toInt32)), (.int (0 : Int32)), (.ref b17)]))
    obtain ⟨cl30, Ar30, qk30, qs30, qn30, qh30, qg30⟩ := id V26
    obtain ⟨T30, h30, X30, e30, W30, st30⟩ := stB X26 hx hZ e26 Ar30 (j := (0 : Int32)) (inb_of qs30 ⟨by decide, by decide⟩) (g := (mkF m 107 #[.val (.int p1), .val (.int p2), .val (.int p3), .val (.int p4), .val (.int (2 : Int32)), .val (.ref b17), .val (.long ((p2.toInt64) &&& (16383 : Int64))), .second] [(.int ((((128 : Int64) ||| ((((p2.toInt64) &&& (16383 : Int64)).toUInt64 >>> ((8 : Int32) &&& 0x3f).toInt64.toUInt64).toInt64)).toInt32).toInt8.toInt32)), (.int (0 : Int32)), (.ref b17)])) rfl rfl (hb hby at_107)
    have V30 : Arv Z h30 b17 k17 .byte (5 : Int32) [(.int (nar .byte ((((128 : Int64) ||| ((((p2.toInt64) &&& (16383 : Int64)).toUInt64 >>> ((8 : Int32) &&& 0x3f).toInt64.toUInt64).toInt64)).toInt32).toInt8.toInt32))), (.int (nar .byte (((p3.toUInt32 >>> ((8 : Int32) &&& 31).toUInt32).toInt32).toInt8.toInt32))), (.int (nar .byte (((p3.toUInt32 >>> ((16 : Int32) &&& 31).toUInt32).toInt32).toInt8.toInt32))), (.int (nar .byte (((p3.toUInt32 >>> ((24 : Int32) &&& 31).toUInt32).toInt32).toInt8.toInt32))), (.int (nar .byte (p4.toInt8.toInt32)))] (.int (0 : Int32)) := Arv.set Ar30 qk30 qs30 qn30 qh30 qg30 (fits_nar_byte _) W30 0 rfl (Nat.le_of_ble_eq_true rfl)
    have f31 := f27.wr W30
    have Zs30 : n0 ≤ h30.size := Nat.le_trans Zs26 (Keep.of_wr W30).1
    have N30 := Fr.snoc X30 N26 g_b17
    refine go st30 ?_
    show G (T30.setTop (mkF m 108 #[.val (.int p1), .val (.int p2), .val (.int p3), .val (.int p4), .val (.int (2 : Int32)), .val (.ref b17), .val (.long ((p2.toInt64) &&& (16383 : Int64))), .second] []))
    refine go (fun _ k => XS.aload X30.here hx rfl (hb hby at_108) rfl rfl k) ?_
    show G (T30.setTop (mkF m 110 #[.val (.int p1), .val (.int p2), .val (.int p3), .val (.int p4), .val (.int (2 : Int32)), .val (.ref b17), .val (.long ((p2.toInt64) &&& (16383 : Int64))), .second] [(.ref b17)]))
    refine go (fun _ k => XS.iconst X30.here hx rfl (hb hby at_110) k) ?_
    show G (T30.setTop (mkF m 111 #[.val (.int p1), .val (.int p2), .val (.int p3), .val (.int p4), .val (.int (2 : Int32)), .val (.ref b17), .val (.long ((p2.toInt64) &&& (16383 : Int64))), .second] [(.int (1 : Int32)), (.ref b17)]))
    refine go (fun _ k => XS.lload X30.here hx rfl (hb hby at_111) rfl k) ?_
    show G (T30.setTop (mkF m 113 #[.val (.int p1), .val (.int p2), .val (.int p3), .val (.int p4), .val (.int (2 : Int32)), .val (.ref b17), .val (.long ((p2.toInt64) &&& (16383 : Int64))), .second] [(.long ((p2.toInt64) &&& (16383 : Int64))), (.int (1 : Int32)), (.ref b17)]))
    refine go (fun _ k => XS.l2i X30.here hx rfl (hb hby at_113) rfl k) ?_
    show G (T30.setTop (mkF m 114 #[.val (.int p1), .val (.int p2), .val (.int p3), .val (.int p4), .val (.int (2 : Int32)), .val (.ref b17), .val (.long ((p2.toInt64) &&& (16383 : Int64))), .second] [(.int (((p2.toInt64) &&& (16383 : Int64)).toInt32)), (.int (1 : Int32)), (.ref b17)]))
    refine go (fun _ k => XS.i2b X30.here hx rfl (hb hby at_114) rfl k) ?_
    show G (T30.setTop (mkF m 115 #[.val (.int p1), .val (.int p2), .val (.int p3), .val (.int p4), .val (.int (2 : Int32)), .val (.ref b17), .val (.long ((p2.toInt64) &&& (16383 : Int64))), .second] [(.int ((((p2.toInt64) &&& (16383 : Int64)).toInt32).toInt8.toInt32)), (.int (1 : Int32)), (.ref b17)]))
    obtain ⟨cl32, Ar32, qk32, qs32, qn32, qh32, qg32⟩ := id V30
    obtain ⟨T32, h32, X32, e32, W32, st32⟩ := stB X30 hx hZ e30 Ar32 (j := (1 : Int32)) (inb_of qs32 ⟨by decide, by decide⟩) (g := (mkF m 115 #[.val (.int p1), .val (.int p2), .val (.int p3), .val (.int p4), .val (.int (2 : Int32)), .val (.ref b17), .val (.long ((p2.toInt64) &&& (16383 : Int64))), .second] [(.int ((((p2.toInt64) &&& (16383 : Int64)).toInt32).toInt8.toInt32)), (.int (1 : Int32)), (.ref b17)])) rfl rfl (hb hby at_115)
    have V32 : Arv Z h32 b17 k17 .byte (5 : Int32) [(.int (nar .byte ((((128 : Int64) ||| ((((p2.toInt64) &&& (16383 : Int64)).toUInt64 >>> ((8 : Int32) &&& 0x3f).toInt64.toUInt64).toInt64)).toInt32).toInt8.toInt32))), (.int (nar .byte ((((p2.toInt64) &&& (16383 : Int64)).toInt32).toInt8.toInt32))), (.int (nar .byte (((p3.toUInt32 >>> ((16 : Int32) &&& 31).toUInt32).toInt32).toInt8.toInt32))), (.int (nar .byte (((p3.toUInt32 >>> ((24 : Int32) &&& 31).toUInt32).toInt32).toInt8.toInt32))), (.int (nar .byte (p4.toInt8.toInt32)))] (.int (0 : Int32)) := Arv.set Ar32 qk32 qs32 qn32 qh32 qg32 (fits_nar_byte _) W32 1 rfl (Nat.le_of_ble_eq_true rfl)
    have f33 := f31.wr W32
    have Zs32 : n0 ≤ h32.size := Nat.le_trans Zs30 (Keep.of_wr W32).1
    have N32 := Fr.snoc X32 N30 g_b17
    refine go st32 ?_
    show G (T32.setTop (mkF m 116 #[.val (.int p1), .val (.int p2), .val (.int p3), .val (.int p4), .val (.int (2 : Int32)), .val (.ref b17), .val (.long ((p2.toInt64) &&& (16383 : Int64))), .second] []))
    refine go (fun _ k => XS.goto X32.here hx rfl (pc0 := 116) (pc' := 287) rfl (hb hby at_116) (by decide) (by decide) k) ?_
    show G (T32.setTop (mkF m 287 #[.val (.int p1), .val (.int p2), .val (.int p3), .val (.int p4), .val (.int (2 : Int32)), .val (.ref b17), .val (.long ((p2.toInt64) &&& (16383 : Int64))), .second] []))
    refine go (fun _ k => XS.aload X32.here hx rfl (hb hby at_287) rfl rfl k) ?_
    show G (T32.setTop (mkF m 289 #[.val (.int p1), .val (.int p2), .val (.int p3), .val (.int p4), .val (.int (2 : Int32)), .val (.ref b17), .val (.long ((p2.toInt64) &&& (16383 : Int64))), .second] [(.ref b17)]))
    refine go (fun _ k => XS.iload X32.here hx rfl (hb hby at_289) rfl k) ?_
    show G (T32.setTop (mkF m 291 #[.val (.int p1), .val (.int p2), .val (.int p3), .val (.int p4), .val (.int (2 : Int32)), .val (.ref b17), .val (.long ((p2.toInt64) &&& (16383 : Int64))), .second] [(.int (2 : Int32)), (.ref b17)]))
    obtain ⟨_, _, ⟨T34, L34, k34, n34⟩, -, X34, ⟨Lc34, hQ34, l34, y34, z34⟩, st34⟩ := Jvm.LawKit.callS X32 hx (y := (⟨"com/example/parley/parley/sentence/WordLength", "decode", "([BI)J"⟩ : MethodName)) hown (mvT hZ (hw _ (List.mem_of_getElem? (i := 3) rfl))) (mvT hZ (hw _ (List.mem_of_getElem? (i := 4) rfl))) (mvT hZ (hw _ (List.mem_of_getElem? (i := 5) rfl))) (mvT hZ (hw _ (List.mem_of_getElem? (i := 6) rfl))) (by decide) (backOf (W := 0) (rm1n2 l Z a0 hw [] b17 k17 (nar .byte ((((128 : Int64) ||| ((((p2.toInt64) &&& (16383 : Int64)).toUInt64 >>> ((8 : Int32) &&& 0x3f).toInt64.toUInt64).toInt64)).toInt32).toInt8.toInt32)) (nar .byte ((((p2.toInt64) &&& (16383 : Int64)).toInt32).toInt8.toInt32)) (nar .byte (((p3.toUInt32 >>> ((16 : Int32) &&& 31).toUInt32).toInt32).toInt8.toInt32)) (nar .byte (((p3.toUInt32 >>> ((24 : Int32) &&& 31).toUInt32).toInt32).toInt8.toInt32)) (nar .byte (p4.toInt8.toInt32)) h32 n0 Zs32 V32) hZ (hw _ (List.mem_of_getElem? (i := 6) rfl)) (hw _ (List.mem_of_getElem? (i := 5) rfl)) (by decide) (by decide)) (g := (mkF m 291 #[.val (.int p1), .val (.int p2), .val (.int p3), .val (.int p4), .val (.int (2 : Int32)), .val (.ref b17), .val (.long ((p2.toInt64) &&& (16383 : Int64))), .second] [(.int (2 : Int32)), (.ref b17)])) rfl (by rw [hml]; rfl) (argsL := [(.ref b17), (.int (2 : Int32))]) (rest := []) (lenOf pd_0_0 rfl) rfl (by show 2 * 0 + _ ≤ _; exact Nat.le_of_eq rfl) (hb hby at_291) (fun _ _ => ⟨rfl, e32, (by decide : 1 + 0 ≤ _), (by decide : 5 + 0 ≤ _)⟩)
    dsimp only [Pt.U, Pt.locs, Pt.cells, Pt.slots] at X34 l34 y34 z34 st34 hQ34
    subst l34 y34 z34
    obtain ⟨rfl, N34q, e34⟩ := hQ34
    have N34 := Fr.app N32 N34q
    refine go st34 ?_
    show G (T34.setTop (mkF m 294 #[.val (.int p1), .val (.int p2), .val (.int p3), .val (.int p4), .val (.int (2 : Int32)), .val (.ref b17), .val (.long ((p2.toInt64) &&& (16383 : Int64))), .second] [(.long (dS (d0 (2 : Int32) (nar .byte ((((128 : Int64) ||| ((((p2.toInt64) &&& (16383 : Int64)).toUInt64 >>> ((8 : Int32) &&& 0x3f).toInt64.toUInt64).toInt64)).toInt32).toInt8.toInt32))) (nar .byte ((((p2.toInt64) &&& (16383 : Int64)).toInt32).toInt8.toInt32))))]))
    refine go (fun _ k => XS.lload X34.here hx rfl (hb hby at_294) rfl k) ?_
    show G (T34.setTop (mkF m 296 #[.val (.int p1), .val (.int p2), .val (.int p3), .val (.int p4), .val (.int (2 : Int32)), .val (.ref b17), .val (.long ((p2.toInt64) &&& (16383 : Int64))), .second] [(.long ((p2.toInt64) &&& (16383 : Int64))), (.long (dS (d0 (2 : Int32) (nar .byte ((((128 : Int64) ||| ((((p2.toInt64) &&& (16383 : Int64)).toUInt64 >>> ((8 : Int32) &&& 0x3f).toInt64.toUInt64).toInt64)).toInt32).toInt8.toInt32))) (nar .byte ((((p2.toInt64) &&& (16383 : Int64)).toInt32).toInt8.toInt32))))]))
    refine go (fun _ k => XS.lcmp X34.here hx rfl (hb hby at_296) rfl k) ?_
    show G (T34.setTop (mkF m 297 #[.val (.int p1), .val (.int p2), .val (.int p3), .val (.int p4), .val (.int (2 : Int32)), .val (.ref b17), .val (.long ((p2.toInt64) &&& (16383 : Int64))), .second] [(.int (lcmpW (dS (d0 (2 : Int32) (nar .byte ((((128 : Int64) ||| ((((p2.toInt64) &&& (16383 : Int64)).toUInt64 >>> ((8 : Int32) &&& 0x3f).toInt64.toUInt64).toInt64)).toInt32).toInt8.toInt32))) (nar .byte ((((p2.toInt64) &&& (16383 : Int64)).toInt32).toInt8.toInt32))) ((p2.toInt64) &&& (16383 : Int64))))]))
    have hc35 : (dS (d0 (2 : Int32) (nar .byte ((((128 : Int64) ||| ((((p2.toInt64) &&& (16383 : Int64)).toUInt64 >>> ((8 : Int32) &&& 0x3f).toInt64.toUInt64).toInt64)).toInt32).toInt8.toInt32))) (nar .byte ((((p2.toInt64) &&& (16383 : Int64)).toInt32).toInt8.toInt32))) = ((p2.toInt64) &&& (16383 : Int64)) := own_dec2 _ (own_L p2 16383 (by decide)).1 (own_L p2 16383 (by decide)).2
    refine go (fun _ k => XS.ifNo X34.here hx rfl (hb hby at_297) rfl ((if0 _ _).trans (teq (own_lceq.mpr hc35)).2) k) ?_
    show G (T34.setTop (mkF m 300 #[.val (.int p1), .val (.int p2), .val (.int p3), .val (.int p4), .val (.int (2 : Int32)), .val (.ref b17), .val (.long ((p2.toInt64) &&& (16383 : Int64))), .second] []))
    refine go (fun _ k => XS.iconst X34.here hx rfl (hb hby at_300) k) ?_
    show G (T34.setTop (mkF m 301 #[.val (.int p1), .val (.int p2), .val (.int p3), .val (.int p4), .val (.int (2 : Int32)), .val (.ref b17), .val (.long ((p2.toInt64) &&& (16383 : Int64))), .second] [(.int (1 : Int32))]))
    refine go (fun _ k => XS.goto X34.here hx rfl (pc0 := 301) (pc' := 305) rfl (hb hby at_301) (by decide) (by decide) k) ?_
    show G (T34.setTop (mkF m 305 #[.val (.int p1), .val (.int p2), .val (.int p3), .val (.int p4), .val (.int (2 : Int32)), .val (.ref b17), .val (.long ((p2.toInt64) &&& (16383 : Int64))), .second] [(.int (1 : Int32))]))
    rw [hG]
    refine own_fin X34 Bd.notSynchronized (v := some (.int (1 : Int32))) (fun h => by rw [Bd.returns] at h; cases h) (fun fs hr => retOut X34 hx Bd.returns rfl (by simp [FieldType.isReference, Value.isRef]) (hb hby at_305) hr) ?_ (by decide) (by decide)
    show Q0 Z p1 p2 p3 p4 h0 n0 (some (.int (1 : Int32))) T34.heap _
    rw [e34]
    exact ⟨rfl, N34⟩
  · show G (s₁.setTop (mkF m 10 #[.val (.int p1), .val (.int p2), .val (.int p3), .val (.int p4), .val (.int (3 : Int32)), .unset, .unset, .unset] []))
    refine go (fun _ k => XS.iconst X0.here hx rfl (hb hby at_10) k) ?_
    show G (s₁.setTop (mkF m 11 #[.val (.int p1), .val (.int p2), .val (.int p3), .val (.int p4), .val (.int (3 : Int32)), .unset, .unset, .unset] [(.int (5 : Int32))]))
    obtain ⟨T36, h36, k36, X36, e36, E36, A36, B36, st36⟩ := newPE X0 hx hZ (hw _ (List.mem_of_getElem? (i := 1) rfl)) e0 (g := (mkF m 11 #[.val (.int p1), .val (.int p2), .val (.int p3), .val (.int p4), .val (.int (3 : Int32)), .unset, .unset, .unset] [(.int (5 : Int32))])) rfl (hb hby at_11) rfl (by decide) (cap := 5) (by decide) (by decide) (by decide) (by decide) (ad := "[B") (by decide)
    obtain ⟨b36, ga36⟩ : ∃ z, z = h0.size := ⟨_, rfl⟩
    have g_b36 : n0 ≤ b36 := Nat.le_trans Z0 (Nat.le_of_eq ga36.symm)
    rw [← ga36] at A36 B36 st36
    have Zs36 : n0 ≤ h36.size := Nat.le_trans Z0 E36.1
    have V36 : Arv Z h36 b36 k36 .byte (5 : Int32) [(.int (0 : Int32)), (.int (0 : Int32)), (.int (0 : Int32)), (.int (0 : Int32)), (.int (0 : Int32))] (.int (0 : Int32)) := (Arv.new A36 (by decide)).pad (pad_rep [] (.int (0 : Int32)) 5)
    refine go st36 ?_
    show G (T36.setTop (mkF m 13 #[.val (.int p1), .val (.int p2), .val (.int p3), .val (.int p4), .val (.int (3 : Int32)), .unset, .unset, .unset] [(.ref b36)]))
    refine go (fun _ k => XS.astore X36.here hx rfl (hb hby at_13) rfl rfl (l' := #[.val (.int p1), .val (.int p2), .val (.int p3), .val (.int p4), .val (.int (3 : Int32)), .val (.ref b36), .unset, .unset]) rfl k) ?_
    show G (T36.setTop (mkF m 15 #[.val (.int p1), .val (.int p2), .val (.int p3), .val (.int p4), .val (.int (3 : Int32)), .val (.ref b36), .unset, .unset] []))
    refine go (fun _ k => XS.aload X36.here hx rfl (hb hby at_15) rfl rfl k) ?_
    show G (T36.setTop (mkF m 17 #[.val (.int p1), .val (.int p2), .val (.int p3), .val (.int p4), .val (.int (3 : Int32)), .val (.ref b36), .unset, .unset] [(.ref b36)]))
    refine go (fun _ k => XS.iconst X36.here hx rfl (hb hby at_17) k) ?_
    show G (T36.setTop (mkF m 18 #[.val (.int p1), .val (.int p2), .val (.int p3), .val (.int p4), .val (.int (3 : Int32)), .val (.ref b36), .unset, .unset] [(.int (0 : Int32)), (.ref b36)]))
    refine go (fun _ k => XS.iloadN X36.here hx rfl (hb hby at_18) rfl k) ?_
    show G (T36.setTop (mkF m 19 #[.val (.int p1), .val (.int p2), .val (.int p3), .val (.int p4), .val (.int (3 : Int32)), .val (.ref b36), .unset, .unset] [(.int p3), (.int (0 : Int32)), (.ref b36)]))
    refine go (fun _ k => XS.i2b X36.here hx rfl (hb hby at_19) rfl k) ?_
    show G (T36.setTop (mkF m 20 #[.val (.int p1), .val (.int p2), .val (.int p3), .val (.int p4), .val (.int (3 : Int32)), .val (.ref b36), .unset, .unset] [(.int (p3.toInt8.toInt32)), (.int (0 : Int32)), (.ref b36)]))
    obtain ⟨cl37, Ar37, qk37, qs37, qn37, qh37, qg37⟩ := id V36
    obtain ⟨T37, h37, X37, e37, W37, st37⟩ := stB X36 hx hZ e36 Ar37 (j := (0 : Int32)) (inb_of qs37 ⟨by decide, by decide⟩) (g := (mkF m 20 #[.val (.int p1), .val (.int p2), .val (.int p3), .val (.int p4), .val (.int (3 : Int32)), .val (.ref b36), .unset, .unset] [(.int (p3.toInt8.toInt32)), (.int (0 : Int32)), (.ref b36)])) rfl rfl (hb hby at_20)
    have V37 : Arv Z h37 b36 k36 .byte (5 : Int32) [(.int (nar .byte (p3.toInt8.toInt32))), (.int (0 : Int32)), (.int (0 : Int32)), (.int (0 : Int32)), (.int (0 : Int32))] (.int (0 : Int32)) := Arv.set Ar37 qk37 qs37 qn37 qh37 qg37 (fits_nar_byte _) W37 0 rfl (Nat.le_of_ble_eq_true rfl)
    have f38 := B36.wr W37
    have Zs37 : n0 ≤ h37.size := Nat.le_trans Zs36 (Keep.of_wr W37).1
    have N37 := Fr.snoc X37 N0 g_b36
    refine go st37 ?_
    show G (T37.setTop (mkF m 21 #[.val (.int p1), .val (.int p2), .val (.int p3), .val (.int p4), .val (.int (3 : Int32)), .val (.ref b36), .unset, .unset] []))
    refine go (fun _ k => XS.aload X37.here hx rfl (hb hby at_21) rfl rfl k) ?_
    show G (T37.setTop (mkF m 23 #[.val (.int p1), .val (.int p2), .val (.int p3), .val (.int p4), .val (.int (3 : Int32)), .val (.ref b36), .unset, .unset] [(.ref b36)]))
    refine go (fun _ k => XS.iconst X37.here hx rfl (hb hby at_23) k) ?_
    show G (T37.setTop (mkF m 24 #[.val (.int p1), .val (.int p2), .val (.int p3), .val (.int p4), .val (.int (3 : Int32)), .val (.ref b36), .unset, .unset] [(.int (1 : Int32)), (.ref b36)]))
    refine go (fun _ k => XS.iloadN X37.here hx rfl (hb hby at_24) rfl k) ?_
    show G (T37.setTop (mkF m 25 #[.val (.int p1), .val (.int p2), .val (.int p3), .val (.int p4), .val (.int (3 : Int32)), .val (.ref b36), .unset, .unset] [(.int p3), (.int (1 : Int32)), (.ref b36)]))
    refine go (fun _ k => XS.bipush X37.here hx rfl (hb hby at_25) k) ?_
    show G (T37.setTop (mkF m 27 #[.val (.int p1), .val (.int p2), .val (.int p3), .val (.int p4), .val (.int (3 : Int32)), .val (.ref b36), .unset, .unset] [(.int (8 : Int32)), (.int p3), (.int (1 : Int32)), (.ref b36)]))
    refine go (fun _ k => XS.iushr X37.here hx rfl (hb hby at_27) rfl k) ?_
    show G (T37.setTop (mkF m 28 #[.val (.int p1), .val (.int p2), .val (.int p3), .val (.int p4), .val (.int (3 : Int32)), .val (.ref b36), .unset, .unset] [(.int ((p3.toUInt32 >>> ((8 : Int32) &&& 31).toUInt32).toInt32)), (.int (1 : Int32)), (.ref b36)]))
    refine go (fun _ k => XS.i2b X37.here hx rfl (hb hby at_28) rfl k) ?_
    show G (T37.setTop (mkF m 29 #[.val (.int p1), .val (.int p2), .val (.int p3), .val (.int p4), .val (.int (3 : Int32)), .val (.ref b36), .unset, .unset] [(.int (((p3.toUInt32 >>> ((8 : Int32) &&& 31).toUInt32).toInt32).toInt8.toInt32)), (.int (1 : Int32)), (.ref b36)]))
    obtain ⟨cl39, Ar39, qk39, qs39, qn39, qh39, qg39⟩ := id V37
    obtain ⟨T39, h39, X39, e39, W39, st39⟩ := stB X37 hx hZ e37 Ar39 (j := (1 : Int32)) (inb_of qs39 ⟨by decide, by decide⟩) (g := (mkF m 29 #[.val (.int p1), .val (.int p2), .val (.int p3), .val (.int p4), .val (.int (3 : Int32)), .val (.ref b36), .unset, .unset] [(.int (((p3.toUInt32 >>> ((8 : Int32) &&& 31).toUInt32).toInt32).toInt8.toInt32)), (.int (1 : Int32)), (.ref b36)])) rfl rfl (hb hby at_29)
    have V39 : Arv Z h39 b36 k36 .byte (5 : Int32) [(.int (nar .byte (p3.toInt8.toInt32))), (.int (nar .byte (((p3.toUInt32 >>> ((8 : Int32) &&& 31).toUInt32).toInt32).toInt8.toInt32))), (.int (0 : Int32)), (.int (0 : Int32)), (.int (0 : Int32))] (.int (0 : Int32)) := Arv.set Ar39 qk39 qs39 qn39 qh39 qg39 (fits_nar_byte _) W39 1 rfl (Nat.le_of_ble_eq_true rfl)
    have f40 := f38.wr W39
    have Zs39 : n0 ≤ h39.size := Nat.le_trans Zs37 (Keep.of_wr W39).1
    have N39 := Fr.snoc X39 N37 g_b36
    refine go st39 ?_
    show G (T39.setTop (mkF m 30 #[.val (.int p1), .val (.int p2), .val (.int p3), .val (.int p4), .val (.int (3 : Int32)), .val (.ref b36), .unset, .unset] []))
    refine go (fun _ k => XS.aload X39.here hx rfl (hb hby at_30) rfl rfl k) ?_
    show G (T39.setTop (mkF m 32 #[.val (.int p1), .val (.int p2), .val (.int p3), .val (.int p4), .val (.int (3 : Int32)), .val (.ref b36), .unset, .unset] [(.ref b36)]))
    refine go (fun _ k => XS.iconst X39.here hx rfl (hb hby at_32) k) ?_
    show G (T39.setTop (mkF m 33 #[.val (.int p1), .val (.int p2), .val (.int p3), .val (.int p4), .val (.int (3 : Int32)), .val (.ref b36), .unset, .unset] [(.int (2 : Int32)), (.ref b36)]))
    refine go (fun _ k => XS.iloadN X39.here hx rfl (hb hby at_33) rfl k) ?_
    show G (T39.setTop (mkF m 34 #[.val (.int p1), .val (.int p2), .val (.int p3), .val (.int p4), .val (.int (3 : Int32)), .val (.ref b36), .unset, .unset] [(.int p3), (.int (2 : Int32)), (.ref b36)]))
    refine go (fun _ k => XS.bipush X39.here hx rfl (hb hby at_34) k) ?_
    show G (T39.setTop (mkF m 36 #[.val (.int p1), .val (.int p2), .val (.int p3), .val (.int p4), .val (.int (3 : Int32)), .val (.ref b36), .unset, .unset] [(.int (16 : Int32)), (.int p3), (.int (2 : Int32)), (.ref b36)]))
    refine go (fun _ k => XS.iushr X39.here hx rfl (hb hby at_36) rfl k) ?_
    show G (T39.setTop (mkF m 37 #[.val (.int p1), .val (.int p2), .val (.int p3), .val (.int p4), .val (.int (3 : Int32)), .val (.ref b36), .unset, .unset] [(.int ((p3.toUInt32 >>> ((16 : Int32) &&& 31).toUInt32).toInt32)), (.int (2 : Int32)), (.ref b36)]))
    refine go (fun _ k => XS.i2b X39.here hx rfl (hb hby at_37) rfl k) ?_
    show G (T39.setTop (mkF m 38 #[.val (.int p1), .val (.int p2), .val (.int p3), .val (.int p4), .val (.int (3 : Int32)), .val (.ref b36), .unset, .unset] [(.int (((p3.toUInt32 >>> ((16 : Int32) &&& 31).toUInt32).toInt32).toInt8.toInt32)), (.int (2 : Int32)), (.ref b36)]))
    obtain ⟨cl41, Ar41, qk41, qs41, qn41, qh41, qg41⟩ := id V39
    obtain ⟨T41, h41, X41, e41, W41, st41⟩ := stB X39 hx hZ e39 Ar41 (j := (2 : Int32)) (inb_of qs41 ⟨by decide, by decide⟩) (g := (mkF m 38 #[.val (.int p1), .val (.int p2), .val (.int p3), .val (.int p4), .val (.int (3 : Int32)), .val (.ref b36), .unset, .unset] [(.int (((p3.toUInt32 >>> ((16 : Int32) &&& 31).toUInt32).toInt32).toInt8.toInt32)), (.int (2 : Int32)), (.ref b36)])) rfl rfl (hb hby at_38)
    have V41 : Arv Z h41 b36 k36 .byte (5 : Int32) [(.int (nar .byte (p3.toInt8.toInt32))), (.int (nar .byte (((p3.toUInt32 >>> ((8 : Int32) &&& 31).toUInt32).toInt32).toInt8.toInt32))), (.int (nar .byte (((p3.toUInt32 >>> ((16 : Int32) &&& 31).toUInt32).toInt32).toInt8.toInt32))), (.int (0 : Int32)), (.int (0 : Int32))] (.int (0 : Int32)) := Arv.set Ar41 qk41 qs41 qn41 qh41 qg41 (fits_nar_byte _) W41 2 rfl (Nat.le_of_ble_eq_true rfl)
    have f42 := f40.wr W41
    have Zs41 : n0 ≤ h41.size := Nat.le_trans Zs39 (Keep.of_wr W41).1
    have N41 := Fr.snoc X41 N39 g_b36
    refine go st41 ?_
    show G (T41.setTop (mkF m 39 #[.val (.int p1), .val (.int p2), .val (.int p3), .val (.int p4), .val (.int (3 : Int32)), .val (.ref b36), .unset, .unset] []))
    refine go (fun _ k => XS.aload X41.here hx rfl (hb hby at_39) rfl rfl k) ?_
    show G (T41.setTop (mkF m 41 #[.val (.int p1), .val (.int p2), .val (.int p3), .val (.int p4), .val (.int (3 : Int32)), .val (.ref b36), .unset, .unset] [(.ref b36)]))
    refine go (fun _ k => XS.iconst X41.here hx rfl (hb hby at_41) k) ?_
    show G (T41.setTop (mkF m 42 #[.val (.int p1), .val (.int p2), .val (.int p3), .val (.int p4), .val (.int (3 : Int32)), .val (.ref b36), .unset, .unset] [(.int (3 : Int32)), (.ref b36)]))
    refine go (fun _ k => XS.iloadN X41.here hx rfl (hb hby at_42) rfl k) ?_
    show G (T41.setTop (mkF m 43 #[.val (.int p1), .val (.int p2), .val (.int p3), .val (.int p4), .val (.int (3 : Int32)), .val (.ref b36), .unset, .unset] [(.int p3), (.int (3 : Int32)), (.ref b36)]))
    refine go (fun _ k => XS.bipush X41.here hx rfl (hb hby at_43) k) ?_
    show G (T41.setTop (mkF m 45 #[.val (.int p1), .val (.int p2), .val (.int p3), .val (.int p4), .val (.int (3 : Int32)), .val (.ref b36), .unset, .unset] [(.int (24 : Int32)), (.int p3), (.int (3 : Int32)), (.ref b36)]))
    refine go (fun _ k => XS.iushr X41.here hx rfl (hb hby at_45) rfl k) ?_
    show G (T41.setTop (mkF m 46 #[.val (.int p1), .val (.int p2), .val (.int p3), .val (.int p4), .val (.int (3 : Int32)), .val (.ref b36), .unset, .unset] [(.int ((p3.toUInt32 >>> ((24 : Int32) &&& 31).toUInt32).toInt32)), (.int (3 : Int32)), (.ref b36)]))
    refine go (fun _ k => XS.i2b X41.here hx rfl (hb hby at_46) rfl k) ?_
    show G (T41.setTop (mkF m 47 #[.val (.int p1), .val (.int p2), .val (.int p3), .val (.int p4), .val (.int (3 : Int32)), .val (.ref b36), .unset, .unset] [(.int (((p3.toUInt32 >>> ((24 : Int32) &&& 31).toUInt32).toInt32).toInt8.toInt32)), (.int (3 : Int32)), (.ref b36)]))
    obtain ⟨cl43, Ar43, qk43, qs43, qn43, qh43, qg43⟩ := id V41
    obtain ⟨T43, h43, X43, e43, W43, st43⟩ := stB X41 hx hZ e41 Ar43 (j := (3 : Int32)) (inb_of qs43 ⟨by decide, by decide⟩) (g := (mkF m 47 #[.val (.int p1), .val (.int p2), .val (.int p3), .val (.int p4), .val (.int (3 : Int32)), .val (.ref b36), .unset, .unset] [(.int (((p3.toUInt32 >>> ((24 : Int32) &&& 31).toUInt32).toInt32).toInt8.toInt32)), (.int (3 : Int32)), (.ref b36)])) rfl rfl (hb hby at_47)
    have V43 : Arv Z h43 b36 k36 .byte (5 : Int32) [(.int (nar .byte (p3.toInt8.toInt32))), (.int (nar .byte (((p3.toUInt32 >>> ((8 : Int32) &&& 31).toUInt32).toInt32).toInt8.toInt32))), (.int (nar .byte (((p3.toUInt32 >>> ((16 : Int32) &&& 31).toUInt32).toInt32).toInt8.toInt32))), (.int (nar .byte (((p3.toUInt32 >>> ((24 : Int32) &&& 31).toUInt32).toInt32).toInt8.toInt32))), (.int (0 : Int32))] (.int (0 : Int32)) := Arv.set Ar43 qk43 qs43 qn43 qh43 qg43 (fits_nar_byte _) W43 3 rfl (Nat.le_of_ble_eq_true rfl)
    have f44 := f42.wr W43
    have Zs43 : n0 ≤ h43.size := Nat.le_trans Zs41 (Keep.of_wr W43).1
    have N43 := Fr.snoc X43 N41 g_b36
    refine go st43 ?_
    show G (T43.setTop (mkF m 48 #[.val (.int p1), .val (.int p2), .val (.int p3), .val (.int p4), .val (.int (3 : Int32)), .val (.ref b36), .unset, .unset] []))
    refine go (fun _ k => XS.aload X43.here hx rfl (hb hby at_48) rfl rfl k) ?_
    show G (T43.setTop (mkF m 50 #[.val (.int p1), .val (.int p2), .val (.int p3), .val (.int p4), .val (.int (3 : Int32)), .val (.ref b36), .unset, .unset] [(.ref b36)]))
    refine go (fun _ k => XS.iconst X43.here hx rfl (hb hby at_50) k) ?_
    show G (T43.setTop (mkF m 51 #[.val (.int p1), .val (.int p2), .val (.int p3), .val (.int p4), .val (.int (3 : Int32)), .val (.ref b36), .unset, .unset] [(.int (4 : Int32)), (.ref b36)]))
    refine go (fun _ k => XS.iloadN X43.here hx rfl (hb hby at_51) rfl k) ?_
    show G (T43.setTop (mkF m 52 #[.val (.int p1), .val (.int p2), .val (.int p3), .val (.int p4), .val (.int (3 : Int32)), .val (.ref b36), .unset, .unset] [(.int p4), (.int (4 : Int32)), (.ref b36)]))
    refine go (fun _ k => XS.i2b X43.here hx rfl (hb hby at_52) rfl k) ?_
    show G (T43.setTop (mkF m 53 #[.val (.int p1), .val (.int p2), .val (.int p3), .val (.int p4), .val (.int (3 : Int32)), .val (.ref b36), .unset, .unset] [(.int (p4.toInt8.toInt32)), (.int (4 : Int32)), (.ref b36)]))
    obtain ⟨cl45, Ar45, qk45, qs45, qn45, qh45, qg45⟩ := id V43
    obtain ⟨T45, h45, X45, e45, W45, st45⟩ := stB X43 hx hZ e43 Ar45 (j := (4 : Int32)) (inb_of qs45 ⟨by decide, by decide⟩) (g := (mkF m 53 #[.val (.int p1), .val (.int p2), .val (.int p3), .val (.int p4), .val (.int (3 : Int32)), .val (.ref b36), .unset, .unset] [(.int (p4.toInt8.toInt32)), (.int (4 : Int32)), (.ref b36)])) rfl rfl (hb hby at_53)
    have V45 : Arv Z h45 b36 k36 .byte (5 : Int32) [(.int (nar .byte (p3.toInt8.toInt32))), (.int (nar .byte (((p3.toUInt32 >>> ((8 : Int32) &&& 31).toUInt32).toInt32).toInt8.toInt32))), (.int (nar .byte (((p3.toUInt32 >>> ((16 : Int32) &&& 31).toUInt32).toInt32).toInt8.toInt32))), (.int (nar .byte (((p3.toUInt32 >>> ((24 : Int32) &&& 31).toUInt32).toInt32).toInt8.toInt32))), (.int (nar .byte (p4.toInt8.toInt32)))] (.int (0 : Int32)) := Arv.set Ar45 qk45 qs45 qn45 qh45 qg45 (fits_nar_byte _) W45 4 rfl (Nat.le_of_ble_eq_true rfl)
    have f46 := f44.wr W45
    have Zs45 : n0 ≤ h45.size := Nat.le_trans Zs43 (Keep.of_wr W45).1
    have N45 := Fr.snoc X45 N43 g_b36
    refine go st45 ?_
    show G (T45.setTop (mkF m 54 #[.val (.int p1), .val (.int p2), .val (.int p3), .val (.int p4), .val (.int (3 : Int32)), .val (.ref b36), .unset, .unset] []))
    refine go (fun _ k => XS.iload X45.here hx rfl (hb hby at_54) rfl k) ?_
    show G (T45.setTop (mkF m 56 #[.val (.int p1), .val (.int p2), .val (.int p3), .val (.int p4), .val (.int (3 : Int32)), .val (.ref b36), .unset, .unset] [(.int (3 : Int32))]))
    refine go (fun _ k => XS.iconst X45.here hx rfl (hb hby at_56) k) ?_
    show G (T45.setTop (mkF m 57 #[.val (.int p1), .val (.int p2), .val (.int p3), .val (.int p4), .val (.int (3 : Int32)), .val (.ref b36), .unset, .unset] [(.int (1 : Int32)), (.int (3 : Int32))]))
    have hc47 : ¬ ((3 : Int32) = (1 : Int32)) := (by decide)
    refine go (fun _ k => XS.icmpYes X45.here hx rfl (pc0 := 57) (pc' := 79) rfl (hb hby at_57) rfl (feq hc47).2 (by decide) (by decide) k) ?_
    show G (T45.setTop (mkF m 79 #[.val (.int p1), .val (.int p2), .val (.int p3), .val (.int p4), .val (.int (3 : Int32)), .val (.ref b36), .unset, .unset] []))
    refine go (fun _ k => XS.iload X45.here hx rfl (hb hby at_79) rfl k) ?_
    show G (T45.setTop (mkF m 81 #[.val (.int p1), .val (.int p2), .val (.int p3), .val (.int p4), .val (.int (3 : Int32)), .val (.ref b36), .unset, .unset] [(.int (3 : Int32))]))
    refine go (fun _ k => XS.iconst X45.here hx rfl (hb hby at_81) k) ?_
    show G (T45.setTop (mkF m 82 #[.val (.int p1), .val (.int p2), .val (.int p3), .val (.int p4), .val (.int (3 : Int32)), .val (.ref b36), .unset, .unset] [(.int (2 : Int32)), (.int (3 : Int32))]))
    have hc48 : ¬ ((3 : Int32) = (2 : Int32)) := (by decide)
    refine go (fun _ k => XS.icmpYes X45.here hx rfl (pc0 := 82) (pc' := 119) rfl (hb hby at_82) rfl (feq hc48).2 (by decide) (by decide) k) ?_
    show G (T45.setTop (mkF m 119 #[.val (.int p1), .val (.int p2), .val (.int p3), .val (.int p4), .val (.int (3 : Int32)), .val (.ref b36), .unset, .unset] []))
    refine go (fun _ k => XS.iload X45.here hx rfl (hb hby at_119) rfl k) ?_
    show G (T45.setTop (mkF m 121 #[.val (.int p1), .val (.int p2), .val (.int p3), .val (.int p4), .val (.int (3 : Int32)), .val (.ref b36), .unset, .unset] [(.int (3 : Int32))]))
    refine go (fun _ k => XS.iconst X45.here hx rfl (hb hby at_121) k) ?_
    show G (T45.setTop (mkF m 122 #[.val (.int p1), .val (.int p2), .val (.int p3), .val (.int p4), .val (.int (3 : Int32)), .val (.ref b36), .unset, .unset] [(.int (3 : Int32)), (.int (3 : Int32))]))
    have hc49 : (3 : Int32) = (3 : Int32) := rfl
    refine go (fun _ k => XS.icmpNo X45.here hx rfl (hb hby at_122) rfl (teq hc49).2 k) ?_
    show G (T45.setTop (mkF m 125 #[.val (.int p1), .val (.int p2), .val (.int p3), .val (.int p4), .val (.int (3 : Int32)), .val (.ref b36), .unset, .unset] []))
    refine go (fun _ k => XS.iloadN X45.here hx rfl (hb hby at_125) rfl k) ?_
    show G (T45.setTop (mkF m 126 #[.val (.int p1), .val (.int p2), .val (.int p3), .val (.int p4), .val (.int (3 : Int32)), .val (.ref b36), .unset, .unset] [(.int p2)]))
    refine go (fun _ k => XS.i2l X45.here hx rfl (hb hby at_126) rfl k) ?_
    show G (T45.setTop (mkF m 127 #[.val (.int p1), .val (.int p2), .val (.int p3), .val (.int p4), .val (.int (3 : Int32)), .val (.ref b36), .unset, .unset] [(.long (p2.toInt64))]))
    refine go (X45.ldc2Long hx hown (mvT hZ (hw _ (List.mem_of_getElem? (i := 7) rfl))) (g := (mkF m 127 #[.val (.int p1), .val (.int p2), .val (.int p3), .val (.int p4), .val (.int (3 : Int32)), .val (.ref b36), .unset, .unset] [(.long (p2.toInt64))])) rfl (hb hby at_127)) ?_
    show G (T45.setTop (mkF m 130 #[.val (.int p1), .val (.int p2), .val (.int p3), .val (.int p4), .val (.int (3 : Int32)), .val (.ref b36), .unset, .unset] [(.long (2097151 : Int64)), (.long (p2.toInt64))]))
    refine go (fun _ k => XS.land X45.here hx rfl (hb hby at_130) rfl k) ?_
    show G (T45.setTop (mkF m 131 #[.val (.int p1), .val (.int p2), .val (.int p3), .val (.int p4), .val (.int (3 : Int32)), .val (.ref b36), .unset, .unset] [(.long ((p2.toInt64) &&& (2097151 : Int64)))]))
    refine go (fun _ k => XS.lstore X45.here hx rfl (hb hby at_131) rfl (l' := #[.val (.int p1), .val (.int p2), .val (.int p3), .val (.int p4), .val (.int (3 : Int32)), .val (.ref b36), .val (.long ((p2.toInt64) &&& (2097151 : Int64))), .second]) rfl k) ?_
    show G (T45.setTop (mkF m 133 #[.val (.int p1), .val (.int p2), .val (.int p3), .val (.int p4), .val (.int (3 : Int32)), .val (.ref b36), .val (.long ((p2.toInt64) &&& (2097151 : Int64))), .second] []))
    refine go (fun _ k => XS.aload X45.here hx rfl (hb hby at_133) rfl rfl k) ?_
    show G (T45.setTop (mkF m 135 #[.val (.int p1), .val (.int p2), .val (.int p3), .val (.int p4), .val (.int (3 : Int32)), .val (.ref b36), .val (.long ((p2.toInt64) &&& (2097151 : Int64))), .second] [(.ref b36)]))
    refine go (fun _ k => XS.iconst X45.here hx rfl (hb hby at_135) k) ?_
    show G (T45.setTop (mkF m 136 #[.val (.int p1), .val (.int p2), .val (.int p3), .val (.int p4), .val (.int (3 : Int32)), .val (.ref b36), .val (.long ((p2.toInt64) &&& (2097151 : Int64))), .second] [(.int (0 : Int32)), (.ref b36)]))
    refine go (X45.ldc2Long hx hown (mvT hZ (hw _ (List.mem_of_getElem? (i := 8) rfl))) (g := (mkF m 136 #[.val (.int p1), .val (.int p2), .val (.int p3), .val (.int p4), .val (.int (3 : Int32)), .val (.ref b36), .val (.long ((p2.toInt64) &&& (2097151 : Int64))), .second] [(.int (0 : Int32)), (.ref b36)])) rfl (hb hby at_136)) ?_
    show G (T45.setTop (mkF m 139 #[.val (.int p1), .val (.int p2), .val (.int p3), .val (.int p4), .val (.int (3 : Int32)), .val (.ref b36), .val (.long ((p2.toInt64) &&& (2097151 : Int64))), .second] [(.long (192 : Int64)), (.int (0 : Int32)), (.ref b36)]))
    refine go (fun _ k => XS.lload X45.here hx rfl (hb hby at_139) rfl k) ?_
    show G (T45.setTop (mkF m 141 #[.val (.int p1), .val (.int p2), .val (.int p3), .val (.int p4), .val (.int (3 : Int32)), .val (.ref b36), .val (.long ((p2.toInt64) &&& (2097151 : Int64))), .second] [(.long ((p2.toInt64) &&& (2097151 : Int64))), (.long (192 : Int64)), (.int (0 : Int32)), (.ref b36)]))
    refine go (fun _ k => XS.bipush X45.here hx rfl (hb hby at_141) k) ?_
    show G (T45.setTop (mkF m 143 #[.val (.int p1), .val (.int p2), .val (.int p3), .val (.int p4), .val (.int (3 : Int32)), .val (.ref b36), .val (.long ((p2.toInt64) &&& (2097151 : Int64))), .second] [(.int (16 : Int32)), (.long ((p2.toInt64) &&& (2097151 : Int64))), (.long (192 : Int64)), (.int (0 : Int32)), (.ref b36)]))
    refine go (fun _ k => XS.lushr X45.here hx rfl (hb hby at_143) rfl k) ?_
    show G (T45.setTop (mkF m 144 #[.val (.int p1), .val (.int p2), .val (.int p3), .val (.int p4), .val (.int (3 : Int32)), .val (.ref b36), .val (.long ((p2.toInt64) &&& (2097151 : Int64))), .second] [(.long ((((p2.toInt64) &&& (2097151 : Int64)).toUInt64 >>> ((16 : Int32) &&& 0x3f).toInt64.toUInt64).toInt64)), (.long (192 : Int64)), (.int (0 : Int32)), (.ref b36)]))
    refine go (fun _ k => XS.lor X45.here hx rfl (hb hby at_144) rfl k) ?_
    show G (T45.setTop (mkF m 145 #[.val (.int p1), .val (.int p2), .val (.int p3), .val (.int p4), .val (.int (3 : Int32)), .val (.ref b36), .val (.long ((p2.toInt64) &&& (2097151 : Int64))), .second] [(.long ((192 : Int64) ||| ((((p2.toInt64) &&& (2097151 : Int64)).toUInt64 >>> ((16 : Int32) &&& 0x3f).toInt64.toUInt64).toInt64))), (.int (0 : Int32)), (.ref b36)]))
    refine go (fun _ k => XS.l2i X45.here hx rfl (hb hby at_145) rfl k) ?_
    show G (T45.setTop (mkF m 146 #[.val (.int p1), .val (.int p2), .val (.int p3), .val (.int p4), .val (.int (3 : Int32)), .val (.ref b36), .val (.long ((p2.toInt64) &&& (2097151 : Int64))), .second] [(.int (((192 : Int64) ||| ((((p2.toInt64) &&& (2097151 : Int64)).toUInt64 >>> ((16 : Int32) &&& 0x3f).toInt64.toUInt64).toInt64)).toInt32)), (.int (0 : Int32)), (.ref b36)]))
    refine go (fun _ k => XS.i2b X45.here hx rfl (hb hby at_146) rfl k) ?_
    show G (T45.setTop (mkF m 147 #[.val (.int p1), .val (.int p2), .val (.int p3), .val (.int p4), .val (.int (3 : Int32)), .val (.ref b36), .val (.long ((p2.toInt64) &&& (2097151 : Int64))), .second] [(.int ((((192 : Int64) ||| ((((p2.toInt64) &&& (2097151 : Int64)).toUInt64 >>> ((16 : Int32) &&& 0x3f).toInt64.toUInt64).toInt64)).toInt32).toInt8.toInt32)), (.int (0 : Int32)), (.ref b36)]))
    obtain ⟨cl50, Ar50, qk50, qs50, qn50, qh50, qg50⟩ := id V45
    obtain ⟨T50, h50, X50, e50, W50, st50⟩ := stB X45 hx hZ e45 Ar50 (j := (0 : Int32)) (inb_of qs50 ⟨by decide, by decide⟩) (g := (mkF m 147 #[.val (.int p1), .val (.int p2), .val (.int p3), .val (.int p4), .val (.int (3 : Int32)), .val (.ref b36), .val (.long ((p2.toInt64) &&& (2097151 : Int64))), .second] [(.int ((((192 : Int64) ||| ((((p2.toInt64) &&& (2097151 : Int64)).toUInt64 >>> ((16 : Int32) &&& 0x3f).toInt64.toUInt64).toInt64)).toInt32).toInt8.toInt32)), (.int (0 : Int32)), (.ref b36)])) rfl rfl (hb hby at_147)
    have V50 : Arv Z h50 b36 k36 .byte (5 : Int32) [(.int (nar .byte ((((192 : Int64) ||| ((((p2.toInt64) &&& (2097151 : Int64)).toUInt64 >>> ((16 : Int32) &&& 0x3f).toInt64.toUInt64).toInt64)).toInt32).toInt8.toInt32))), (.int (nar .byte (((p3.toUInt32 >>> ((8 : Int32) &&& 31).toUInt32).toInt32).toInt8.toInt32))), (.int (nar .byte (((p3.toUInt32 >>> ((16 : Int32) &&& 31).toUInt32).toInt32).toInt8.toInt32))), (.int (nar .byte (((p3.toUInt32 >>> ((24 : Int32) &&& 31).toUInt32).toInt32).toInt8.toInt32))), (.int (nar .byte (p4.toInt8.toInt32)))] (.int (0 : Int32)) := Arv.set Ar50 qk50 qs50 qn50 qh50 qg50 (fits_nar_byte _) W50 0 rfl (Nat.le_of_ble_eq_true rfl)
    have f51 := f46.wr W50
    have Zs50 : n0 ≤ h50.size := Nat.le_trans Zs45 (Keep.of_wr W50).1
    have N50 := Fr.snoc X50 N45 g_b36
    refine go st50 ?_
    show G (T50.setTop (mkF m 148 #[.val (.int p1), .val (.int p2), .val (.int p3), .val (.int p4), .val (.int (3 : Int32)), .val (.ref b36), .val (.long ((p2.toInt64) &&& (2097151 : Int64))), .second] []))
    refine go (fun _ k => XS.aload X50.here hx rfl (hb hby at_148) rfl rfl k) ?_
    show G (T50.setTop (mkF m 150 #[.val (.int p1), .val (.int p2), .val (.int p3), .val (.int p4), .val (.int (3 : Int32)), .val (.ref b36), .val (.long ((p2.toInt64) &&& (2097151 : Int64))), .second] [(.ref b36)]))
    refine go (fun _ k => XS.iconst X50.here hx rfl (hb hby at_150) k) ?_
    show G (T50.setTop (mkF m 151 #[.val (.int p1), .val (.int p2), .val (.int p3), .val (.int p4), .val (.int (3 : Int32)), .val (.ref b36), .val (.long ((p2.toInt64) &&& (2097151 : Int64))), .second] [(.int (1 : Int32)), (.ref b36)]))
    refine go (fun _ k => XS.lload X50.here hx rfl (hb hby at_151) rfl k) ?_
    show G (T50.setTop (mkF m 153 #[.val (.int p1), .val (.int p2), .val (.int p3), .val (.int p4), .val (.int (3 : Int32)), .val (.ref b36), .val (.long ((p2.toInt64) &&& (2097151 : Int64))), .second] [(.long ((p2.toInt64) &&& (2097151 : Int64))), (.int (1 : Int32)), (.ref b36)]))
    refine go (fun _ k => XS.bipush X50.here hx rfl (hb hby at_153) k) ?_
    show G (T50.setTop (mkF m 155 #[.val (.int p1), .val (.int p2), .val (.int p3), .val (.int p4), .val (.int (3 : Int32)), .val (.ref b36), .val (.long ((p2.toInt64) &&& (2097151 : Int64))), .second] [(.int (8 : Int32)), (.long ((p2.toInt64) &&& (2097151 : Int64))), (.int (1 : Int32)), (.ref b36)]))
    refine go (fun _ k => XS.lushr X50.here hx rfl (hb hby at_155) rfl k) ?_
    show G (T50.setTop (mkF m 156 #[.val (.int p1), .val (.int p2), .val (.int p3), .val (.int p4), .val (.int (3 : Int32)), .val (.ref b36), .val (.long ((p2.toInt64) &&& (2097151 : Int64))), .second] [(.long ((((p2.toInt64) &&& (2097151 : Int64)).toUInt64 >>> ((8 : Int32) &&& 0x3f).toInt64.toUInt64).toInt64)), (.int (1 : Int32)), (.ref b36)]))
    refine go (fun _ k => XS.l2i X50.here hx rfl (hb hby at_156) rfl k) ?_
    show G (T50.setTop (mkF m 157 #[.val (.int p1), .val (.int p2), .val (.int p3), .val (.int p4), .val (.int (3 : Int32)), .val (.ref b36), .val (.long ((p2.toInt64) &&& (2097151 : Int64))), .second] [(.int (((((p2.toInt64) &&& (2097151 : Int64)).toUInt64 >>> ((8 : Int32) &&& 0x3f).toInt64.toUInt64).toInt64).toInt32)), (.int (1 : Int32)), (.ref b36)]))
    refine go (fun _ k => XS.i2b X50.here hx rfl (hb hby at_157) rfl k) ?_
    show G (T50.setTop (mkF m 158 #[.val (.int p1), .val (.int p2), .val (.int p3), .val (.int p4), .val (.int (3 : Int32)), .val (.ref b36), .val (.long ((p2.toInt64) &&& (2097151 : Int64))), .second] [(.int ((((((p2.toInt64) &&& (2097151 : Int64)).toUInt64 >>> ((8 : Int32) &&& 0x3f).toInt64.toUInt64).toInt64).toInt32).toInt8.toInt32)), (.int (1 : Int32)), (.ref b36)]))
    obtain ⟨cl52, Ar52, qk52, qs52, qn52, qh52, qg52⟩ := id V50
    obtain ⟨T52, h52, X52, e52, W52, st52⟩ := stB X50 hx hZ e50 Ar52 (j := (1 : Int32)) (inb_of qs52 ⟨by decide, by decide⟩) (g := (mkF m 158 #[.val (.int p1), .val (.int p2), .val (.int p3), .val (.int p4), .val (.int (3 : Int32)), .val (.ref b36), .val (.long ((p2.toInt64) &&& (2097151 : Int64))), .second] [(.int ((((((p2.toInt64) &&& (2097151 : Int64)).toUInt64 >>> ((8 : Int32) &&& 0x3f).toInt64.toUInt64).toInt64).toInt32).toInt8.toInt32)), (.int (1 : Int32)), (.ref b36)])) rfl rfl (hb hby at_158)
    have V52 : Arv Z h52 b36 k36 .byte (5 : Int32) [(.int (nar .byte ((((192 : Int64) ||| ((((p2.toInt64) &&& (2097151 : Int64)).toUInt64 >>> ((16 : Int32) &&& 0x3f).toInt64.toUInt64).toInt64)).toInt32).toInt8.toInt32))), (.int (nar .byte ((((((p2.toInt64) &&& (2097151 : Int64)).toUInt64 >>> ((8 : Int32) &&& 0x3f).toInt64.toUInt64).toInt64).toInt32).toInt8.toInt32))), (.int (nar .byte (((p3.toUInt32 >>> ((16 : Int32) &&& 31).toUInt32).toInt32).toInt8.toInt32))), (.int (nar .byte (((p3.toUInt32 >>> ((24 : Int32) &&& 31).toUInt32).toInt32).toInt8.toInt32))), (.int (nar .byte (p4.toInt8.toInt32)))] (.int (0 : Int32)) := Arv.set Ar52 qk52 qs52 qn52 qh52 qg52 (fits_nar_byte _) W52 1 rfl (Nat.le_of_ble_eq_true rfl)
    have f53 := f51.wr W52
    have Zs52 : n0 ≤ h52.size := Nat.le_trans Zs50 (Keep.of_wr W52).1
    have N52 := Fr.snoc X52 N50 g_b36
    refine go st52 ?_
    show G (T52.setTop (mkF m 159 #[.val (.int p1), .val (.int p2), .val (.int p3), .val (.int p4), .val (.int (3 : Int32)), .val (.ref b36), .val (.long ((p2.toInt64) &&& (2097151 : Int64))), .second] []))
    refine go (fun _ k => XS.aload X52.here hx rfl (hb hby at_159) rfl rfl k) ?_
    show G (T52.setTop (mkF m 161 #[.val (.int p1), .val (.int p2), .val (.int p3), .val (.int p4), .val (.int (3 : Int32)), .val (.ref b36), .val (.long ((p2.toInt64) &&& (2097151 : Int64))), .second] [(.ref b36)]))
    refine go (fun _ k => XS.iconst X52.here hx rfl (hb hby at_161) k) ?_
    show G (T52.setTop (mkF m 162 #[.val (.int p1), .val (.int p2), .val (.int p3), .val (.int p4), .val (.int (3 : Int32)), .val (.ref b36), .val (.long ((p2.toInt64) &&& (2097151 : Int64))), .second] [(.int (2 : Int32)), (.ref b36)]))
    refine go (fun _ k => XS.lload X52.here hx rfl (hb hby at_162) rfl k) ?_
    show G (T52.setTop (mkF m 164 #[.val (.int p1), .val (.int p2), .val (.int p3), .val (.int p4), .val (.int (3 : Int32)), .val (.ref b36), .val (.long ((p2.toInt64) &&& (2097151 : Int64))), .second] [(.long ((p2.toInt64) &&& (2097151 : Int64))), (.int (2 : Int32)), (.ref b36)]))
    refine go (fun _ k => XS.l2i X52.here hx rfl (hb hby at_164) rfl k) ?_
    show G (T52.setTop (mkF m 165 #[.val (.int p1), .val (.int p2), .val (.int p3), .val (.int p4), .val (.int (3 : Int32)), .val (.ref b36), .val (.long ((p2.toInt64) &&& (2097151 : Int64))), .second] [(.int (((p2.toInt64) &&& (2097151 : Int64)).toInt32)), (.int (2 : Int32)), (.ref b36)]))
    refine go (fun _ k => XS.i2b X52.here hx rfl (hb hby at_165) rfl k) ?_
    show G (T52.setTop (mkF m 166 #[.val (.int p1), .val (.int p2), .val (.int p3), .val (.int p4), .val (.int (3 : Int32)), .val (.ref b36), .val (.long ((p2.toInt64) &&& (2097151 : Int64))), .second] [(.int ((((p2.toInt64) &&& (2097151 : Int64)).toInt32).toInt8.toInt32)), (.int (2 : Int32)), (.ref b36)]))
    obtain ⟨cl54, Ar54, qk54, qs54, qn54, qh54, qg54⟩ := id V52
    obtain ⟨T54, h54, X54, e54, W54, st54⟩ := stB X52 hx hZ e52 Ar54 (j := (2 : Int32)) (inb_of qs54 ⟨by decide, by decide⟩) (g := (mkF m 166 #[.val (.int p1), .val (.int p2), .val (.int p3), .val (.int p4), .val (.int (3 : Int32)), .val (.ref b36), .val (.long ((p2.toInt64) &&& (2097151 : Int64))), .second] [(.int ((((p2.toInt64) &&& (2097151 : Int64)).toInt32).toInt8.toInt32)), (.int (2 : Int32)), (.ref b36)])) rfl rfl (hb hby at_166)
    have V54 : Arv Z h54 b36 k36 .byte (5 : Int32) [(.int (nar .byte ((((192 : Int64) ||| ((((p2.toInt64) &&& (2097151 : Int64)).toUInt64 >>> ((16 : Int32) &&& 0x3f).toInt64.toUInt64).toInt64)).toInt32).toInt8.toInt32))), (.int (nar .byte ((((((p2.toInt64) &&& (2097151 : Int64)).toUInt64 >>> ((8 : Int32) &&& 0x3f).toInt64.toUInt64).toInt64).toInt32).toInt8.toInt32))), (.int (nar .byte ((((p2.toInt64) &&& (2097151 : Int64)).toInt32).toInt8.toInt32))), (.int (nar .byte (((p3.toUInt32 >>> ((24 : Int32) &&& 31).toUInt32).toInt32).toInt8.toInt32))), (.int (nar .byte (p4.toInt8.toInt32)))] (.int (0 : Int32)) := Arv.set Ar54 qk54 qs54 qn54 qh54 qg54 (fits_nar_byte _) W54 2 rfl (Nat.le_of_ble_eq_true rfl)
    have f55 := f53.wr W54
    have Zs54 : n0 ≤ h54.size := Nat.le_trans Zs52 (Keep.of_wr W54).1
    have N54 := Fr.snoc X54 N52 g_b36
    refine go st54 ?_
    show G (T54.setTop (mkF m 167 #[.val (.int p1), .val (.int p2), .val (.int p3), .val (.int p4), .val (.int (3 : Int32)), .val (.ref b36), .val (.long ((p2.toInt64) &&& (2097151 : Int64))), .second] []))
    refine go (fun _ k => XS.goto X54.here hx rfl (pc0 := 167) (pc' := 287) rfl (hb hby at_167) (by decide) (by decide) k) ?_
    show G (T54.setTop (mkF m 287 #[.val (.int p1), .val (.int p2), .val (.int p3), .val (.int p4), .val (.int (3 : Int32)), .val (.ref b36), .val (.long ((p2.toInt64) &&& (2097151 : Int64))), .second] []))
    refine go (fun _ k => XS.aload X54.here hx rfl (hb hby at_287) rfl rfl k) ?_
    show G (T54.setTop (mkF m 289 #[.val (.int p1), .val (.int p2), .val (.int p3), .val (.int p4), .val (.int (3 : Int32)), .val (.ref b36), .val (.long ((p2.toInt64) &&& (2097151 : Int64))), .second] [(.ref b36)]))
    refine go (fun _ k => XS.iload X54.here hx rfl (hb hby at_289) rfl k) ?_
    show G (T54.setTop (mkF m 291 #[.val (.int p1), .val (.int p2), .val (.int p3), .val (.int p4), .val (.int (3 : Int32)), .val (.ref b36), .val (.long ((p2.toInt64) &&& (2097151 : Int64))), .second] [(.int (3 : Int32)), (.ref b36)]))
    obtain ⟨_, _, ⟨T56, L56, k56, n56⟩, -, X56, ⟨Lc56, hQ56, l56, y56, z56⟩, st56⟩ := Jvm.LawKit.callS X54 hx (y := (⟨"com/example/parley/parley/sentence/WordLength", "decode", "([BI)J"⟩ : MethodName)) hown (mvT hZ (hw _ (List.mem_of_getElem? (i := 3) rfl))) (mvT hZ (hw _ (List.mem_of_getElem? (i := 4) rfl))) (mvT hZ (hw _ (List.mem_of_getElem? (i := 5) rfl))) (mvT hZ (hw _ (List.mem_of_getElem? (i := 6) rfl))) (by decide) (backOf (W := 0) (rm1n3 l Z a0 hw [] b36 k36 (nar .byte ((((192 : Int64) ||| ((((p2.toInt64) &&& (2097151 : Int64)).toUInt64 >>> ((16 : Int32) &&& 0x3f).toInt64.toUInt64).toInt64)).toInt32).toInt8.toInt32)) (nar .byte ((((((p2.toInt64) &&& (2097151 : Int64)).toUInt64 >>> ((8 : Int32) &&& 0x3f).toInt64.toUInt64).toInt64).toInt32).toInt8.toInt32)) (nar .byte ((((p2.toInt64) &&& (2097151 : Int64)).toInt32).toInt8.toInt32)) (nar .byte (((p3.toUInt32 >>> ((24 : Int32) &&& 31).toUInt32).toInt32).toInt8.toInt32)) (nar .byte (p4.toInt8.toInt32)) h54 n0 Zs54 V54) hZ (hw _ (List.mem_of_getElem? (i := 6) rfl)) (hw _ (List.mem_of_getElem? (i := 5) rfl)) (by decide) (by decide)) (g := (mkF m 291 #[.val (.int p1), .val (.int p2), .val (.int p3), .val (.int p4), .val (.int (3 : Int32)), .val (.ref b36), .val (.long ((p2.toInt64) &&& (2097151 : Int64))), .second] [(.int (3 : Int32)), (.ref b36)])) rfl (by rw [hml]; rfl) (argsL := [(.ref b36), (.int (3 : Int32))]) (rest := []) (lenOf pd_0_0 rfl) rfl (by show 2 * 0 + _ ≤ _; exact Nat.le_of_eq rfl) (hb hby at_291) (fun _ _ => ⟨rfl, e54, (by decide : 1 + 0 ≤ _), (by decide : 5 + 0 ≤ _)⟩)
    dsimp only [Pt.U, Pt.locs, Pt.cells, Pt.slots] at X56 l56 y56 z56 st56 hQ56
    subst l56 y56 z56
    obtain ⟨rfl, N56q, e56⟩ := hQ56
    have N56 := Fr.app N54 N56q
    refine go st56 ?_
    show G (T56.setTop (mkF m 294 #[.val (.int p1), .val (.int p2), .val (.int p3), .val (.int p4), .val (.int (3 : Int32)), .val (.ref b36), .val (.long ((p2.toInt64) &&& (2097151 : Int64))), .second] [(.long (dS (dS (d0 (3 : Int32) (nar .byte ((((192 : Int64) ||| ((((p2.toInt64) &&& (2097151 : Int64)).toUInt64 >>> ((16 : Int32) &&& 0x3f).toInt64.toUInt64).toInt64)).toInt32).toInt8.toInt32))) (nar .byte ((((((p2.toInt64) &&& (2097151 : Int64)).toUInt64 >>> ((8 : Int32) &&& 0x3f).toInt64.toUInt64).toInt64).toInt32).toInt8.toInt32))) (nar .byte ((((p2.toInt64) &&& (2097151 : Int64)).toInt32).toInt8.toInt32))))]))
    refine go (fun _ k => XS.lload X56.here hx rfl (hb hby at_294) rfl k) ?_
    show G (T56.setTop (mkF m 296 #[.val (.int p1), .val (.int p2), .val (.int p3), .val (.int p4), .val (.int (3 : Int32)), .val (.ref b36), .val (.long ((p2.toInt64) &&& (2097151 : Int64))), .second] [(.long ((p2.toInt64) &&& (2097151 : Int64))), (.long (dS (dS (d0 (3 : Int32) (nar .byte ((((192 : Int64) ||| ((((p2.toInt64) &&& (2097151 : Int64)).toUInt64 >>> ((16 : Int32) &&& 0x3f).toInt64.toUInt64).toInt64)).toInt32).toInt8.toInt32))) (nar .byte ((((((p2.toInt64) &&& (2097151 : Int64)).toUInt64 >>> ((8 : Int32) &&& 0x3f).toInt64.toUInt64).toInt64).toInt32).toInt8.toInt32))) (nar .byte ((((p2.toInt64) &&& (2097151 : Int64)).toInt32).toInt8.toInt32))))]))
    refine go (fun _ k => XS.lcmp X56.here hx rfl (hb hby at_296) rfl k) ?_
    show G (T56.setTop (mkF m 297 #[.val (.int p1), .val (.int p2), .val (.int p3), .val (.int p4), .val (.int (3 : Int32)), .val (.ref b36), .val (.long ((p2.toInt64) &&& (2097151 : Int64))), .second] [(.int (lcmpW (dS (dS (d0 (3 : Int32) (nar .byte ((((192 : Int64) ||| ((((p2.toInt64) &&& (2097151 : Int64)).toUInt64 >>> ((16 : Int32) &&& 0x3f).toInt64.toUInt64).toInt64)).toInt32).toInt8.toInt32))) (nar .byte ((((((p2.toInt64) &&& (2097151 : Int64)).toUInt64 >>> ((8 : Int32) &&& 0x3f).toInt64.toUInt64).toInt64).toInt32).toInt8.toInt32))) (nar .byte ((((p2.toInt64) &&& (2097151 : Int64)).toInt32).toInt8.toInt32))) ((p2.toInt64) &&& (2097151 : Int64))))]))
    have hc57 : (dS (dS (d0 (3 : Int32) (nar .byte ((((192 : Int64) ||| ((((p2.toInt64) &&& (2097151 : Int64)).toUInt64 >>> ((16 : Int32) &&& 0x3f).toInt64.toUInt64).toInt64)).toInt32).toInt8.toInt32))) (nar .byte ((((((p2.toInt64) &&& (2097151 : Int64)).toUInt64 >>> ((8 : Int32) &&& 0x3f).toInt64.toUInt64).toInt64).toInt32).toInt8.toInt32))) (nar .byte ((((p2.toInt64) &&& (2097151 : Int64)).toInt32).toInt8.toInt32))) = ((p2.toInt64) &&& (2097151 : Int64)) := own_dec3 _ (own_L p2 2097151 (by decide)).1 (own_L p2 2097151 (by decide)).2
    refine go (fun _ k => XS.ifNo X56.here hx rfl (hb hby at_297) rfl ((if0 _ _).trans (teq (own_lceq.mpr hc57)).2) k) ?_
    show G (T56.setTop (mkF m 300 #[.val (.int p1), .val (.int p2), .val (.int p3), .val (.int p4), .val (.int (3 : Int32)), .val (.ref b36), .val (.long ((p2.toInt64) &&& (2097151 : Int64))), .second] []))
    refine go (fun _ k => XS.iconst X56.here hx rfl (hb hby at_300) k) ?_
    show G (T56.setTop (mkF m 301 #[.val (.int p1), .val (.int p2), .val (.int p3), .val (.int p4), .val (.int (3 : Int32)), .val (.ref b36), .val (.long ((p2.toInt64) &&& (2097151 : Int64))), .second] [(.int (1 : Int32))]))
    refine go (fun _ k => XS.goto X56.here hx rfl (pc0 := 301) (pc' := 305) rfl (hb hby at_301) (by decide) (by decide) k) ?_
    show G (T56.setTop (mkF m 305 #[.val (.int p1), .val (.int p2), .val (.int p3), .val (.int p4), .val (.int (3 : Int32)), .val (.ref b36), .val (.long ((p2.toInt64) &&& (2097151 : Int64))), .second] [(.int (1 : Int32))]))
    rw [hG]
    refine own_fin X56 Bd.notSynchronized (v := some (.int (1 : Int32))) (fun h => by rw [Bd.returns] at h; cases h) (fun fs hr => retOut X56 hx Bd.returns rfl (by simp [FieldType.isReference, Value.isRef]) (hb hby at_305) hr) ?_ (by decide) (by decide)
    show Q0 Z p1 p2 p3 p4 h0 n0 (some (.int (1 : Int32))) T56.heap _
    rw [e56]
    exact ⟨rfl, N56⟩
  · show G (s₁.setTop (mkF m 10 #[.val (.int p1), .val (.int p2), .val (.int p3), .val (.int p4), .val (.int (4 : Int32)), .unset, .unset, .unset] []))
    refine go (fun _ k => XS.iconst X0.here hx rfl (hb hby at_10) k) ?_
    show G (s₁.setTop (mkF m 11 #[.val (.int p1), .val (.int p2), .val (.int p3), .val (.int p4), .val (.int (4 : Int32)), .unset, .unset, .unset] [(.int (5 : Int32))]))
    obtain ⟨T58, h58, k58, X58, e58, E58, A58, B58, st58⟩ := newPE X0 hx hZ (hw _ (List.mem_of_getElem? (i := 1) rfl)) e0 (g := (mkF m 11 #[.val (.int p1), .val (.int p2), .val (.int p3), .val (.int p4), .val (.int (4 : Int32)), .unset, .unset, .unset] [(.int (5 : Int32))])) rfl (hb hby at_11) rfl (by decide) (cap := 5) (by decide) (by decide) (by decide) (by decide) (ad := "[B") (by decide)
    obtain ⟨b58, ga58⟩ : ∃ z, z = h0.size := ⟨_, rfl⟩
    have g_b58 : n0 ≤ b58 := Nat.le_trans Z0 (Nat.le_of_eq ga58.symm)
    rw [← ga58] at A58 B58 st58
    have Zs58 : n0 ≤ h58.size := Nat.le_trans Z0 E58.1
    have V58 : Arv Z h58 b58 k58 .byte (5 : Int32) [(.int (0 : Int32)), (.int (0 : Int32)), (.int (0 : Int32)), (.int (0 : Int32)), (.int (0 : Int32))] (.int (0 : Int32)) := (Arv.new A58 (by decide)).pad (pad_rep [] (.int (0 : Int32)) 5)
    refine go st58 ?_
    show G (T58.setTop (mkF m 13 #[.val (.int p1), .val (.int p2), .val (.int p3), .val (.int p4), .val (.int (4 : Int32)), .unset, .unset, .unset] [(.ref b58)]))
    refine go (fun _ k => XS.astore X58.here hx rfl (hb hby at_13) rfl rfl (l' := #[.val (.int p1), .val (.int p2), .val (.int p3), .val (.int p4), .val (.int (4 : Int32)), .val (.ref b58), .unset, .unset]) rfl k) ?_
    show G (T58.setTop (mkF m 15 #[.val (.int p1), .val (.int p2), .val (.int p3), .val (.int p4), .val (.int (4 : Int32)), .val (.ref b58), .unset, .unset] []))
    refine go (fun _ k => XS.aload X58.here hx rfl (hb hby at_15) rfl rfl k) ?_
    show G (T58.setTop (mkF m 17 #[.val (.int p1), .val (.int p2), .val (.int p3), .val (.int p4), .val (.int (4 : Int32)), .val (.ref b58), .unset, .unset] [(.ref b58)]))
    refine go (fun _ k => XS.iconst X58.here hx rfl (hb hby at_17) k) ?_
    show G (T58.setTop (mkF m 18 #[.val (.int p1), .val (.int p2), .val (.int p3), .val (.int p4), .val (.int (4 : Int32)), .val (.ref b58), .unset, .unset] [(.int (0 : Int32)), (.ref b58)]))
    refine go (fun _ k => XS.iloadN X58.here hx rfl (hb hby at_18) rfl k) ?_
    show G (T58.setTop (mkF m 19 #[.val (.int p1), .val (.int p2), .val (.int p3), .val (.int p4), .val (.int (4 : Int32)), .val (.ref b58), .unset, .unset] [(.int p3), (.int (0 : Int32)), (.ref b58)]))
    refine go (fun _ k => XS.i2b X58.here hx rfl (hb hby at_19) rfl k) ?_
    show G (T58.setTop (mkF m 20 #[.val (.int p1), .val (.int p2), .val (.int p3), .val (.int p4), .val (.int (4 : Int32)), .val (.ref b58), .unset, .unset] [(.int (p3.toInt8.toInt32)), (.int (0 : Int32)), (.ref b58)]))
    obtain ⟨cl59, Ar59, qk59, qs59, qn59, qh59, qg59⟩ := id V58
    obtain ⟨T59, h59, X59, e59, W59, st59⟩ := stB X58 hx hZ e58 Ar59 (j := (0 : Int32)) (inb_of qs59 ⟨by decide, by decide⟩) (g := (mkF m 20 #[.val (.int p1), .val (.int p2), .val (.int p3), .val (.int p4), .val (.int (4 : Int32)), .val (.ref b58), .unset, .unset] [(.int (p3.toInt8.toInt32)), (.int (0 : Int32)), (.ref b58)])) rfl rfl (hb hby at_20)
    have V59 : Arv Z h59 b58 k58 .byte (5 : Int32) [(.int (nar .byte (p3.toInt8.toInt32))), (.int (0 : Int32)), (.int (0 : Int32)), (.int (0 : Int32)), (.int (0 : Int32))] (.int (0 : Int32)) := Arv.set Ar59 qk59 qs59 qn59 qh59 qg59 (fits_nar_byte _) W59 0 rfl (Nat.le_of_ble_eq_true rfl)
    have f60 := B58.wr W59
    have Zs59 : n0 ≤ h59.size := Nat.le_trans Zs58 (Keep.of_wr W59).1
    have N59 := Fr.snoc X59 N0 g_b58
    refine go st59 ?_
    show G (T59.setTop (mkF m 21 #[.val (.int p1), .val (.int p2), .val (.int p3), .val (.int p4), .val (.int (4 : Int32)), .val (.ref b58), .unset, .unset] []))
    refine go (fun _ k => XS.aload X59.here hx rfl (hb hby at_21) rfl rfl k) ?_
    show G (T59.setTop (mkF m 23 #[.val (.int p1), .val (.int p2), .val (.int p3), .val (.int p4), .val (.int (4 : Int32)), .val (.ref b58), .unset, .unset] [(.ref b58)]))
    refine go (fun _ k => XS.iconst X59.here hx rfl (hb hby at_23) k) ?_
    show G (T59.setTop (mkF m 24 #[.val (.int p1), .val (.int p2), .val (.int p3), .val (.int p4), .val (.int (4 : Int32)), .val (.ref b58), .unset, .unset] [(.int (1 : Int32)), (.ref b58)]))
    refine go (fun _ k => XS.iloadN X59.here hx rfl (hb hby at_24) rfl k) ?_
    show G (T59.setTop (mkF m 25 #[.val (.int p1), .val (.int p2), .val (.int p3), .val (.int p4), .val (.int (4 : Int32)), .val (.ref b58), .unset, .unset] [(.int p3), (.int (1 : Int32)), (.ref b58)]))
    refine go (fun _ k => XS.bipush X59.here hx rfl (hb hby at_25) k) ?_
    show G (T59.setTop (mkF m 27 #[.val (.int p1), .val (.int p2), .val (.int p3), .val (.int p4), .val (.int (4 : Int32)), .val (.ref b58), .unset, .unset] [(.int (8 : Int32)), (.int p3), (.int (1 : Int32)), (.ref b58)]))
    refine go (fun _ k => XS.iushr X59.here hx rfl (hb hby at_27) rfl k) ?_
    show G (T59.setTop (mkF m 28 #[.val (.int p1), .val (.int p2), .val (.int p3), .val (.int p4), .val (.int (4 : Int32)), .val (.ref b58), .unset, .unset] [(.int ((p3.toUInt32 >>> ((8 : Int32) &&& 31).toUInt32).toInt32)), (.int (1 : Int32)), (.ref b58)]))
    refine go (fun _ k => XS.i2b X59.here hx rfl (hb hby at_28) rfl k) ?_
    show G (T59.setTop (mkF m 29 #[.val (.int p1), .val (.int p2), .val (.int p3), .val (.int p4), .val (.int (4 : Int32)), .val (.ref b58), .unset, .unset] [(.int (((p3.toUInt32 >>> ((8 : Int32) &&& 31).toUInt32).toInt32).toInt8.toInt32)), (.int (1 : Int32)), (.ref b58)]))
    obtain ⟨cl61, Ar61, qk61, qs61, qn61, qh61, qg61⟩ := id V59
    obtain ⟨T61, h61, X61, e61, W61, st61⟩ := stB X59 hx hZ e59 Ar61 (j := (1 : Int32)) (inb_of qs61 ⟨by decide, by decide⟩) (g := (mkF m 29 #[.val (.int p1), .val (.int p2), .val (.int p3), .val (.int p4), .val (.int (4 : Int32)), .val (.ref b58), .unset, .unset] [(.int (((p3.toUInt32 >>> ((8 : Int32) &&& 31).toUInt32).toInt32).toInt8.toInt32)), (.int (1 : Int32)), (.ref b58)])) rfl rfl (hb hby at_29)
    have V61 : Arv Z h61 b58 k58 .byte (5 : Int32) [(.int (nar .byte (p3.toInt8.toInt32))), (.int (nar .byte (((p3.toUInt32 >>> ((8 : Int32) &&& 31).toUInt32).toInt32).toInt8.toInt32))), (.int (0 : Int32)), (.int (0 : Int32)), (.int (0 : Int32))] (.int (0 : Int32)) := Arv.set Ar61 qk61 qs61 qn61 qh61 qg61 (fits_nar_byte _) W61 1 rfl (Nat.le_of_ble_eq_true rfl)
    have f62 := f60.wr W61
    have Zs61 : n0 ≤ h61.size := Nat.le_trans Zs59 (Keep.of_wr W61).1
    have N61 := Fr.snoc X61 N59 g_b58
    refine go st61 ?_
    show G (T61.setTop (mkF m 30 #[.val (.int p1), .val (.int p2), .val (.int p3), .val (.int p4), .val (.int (4 : Int32)), .val (.ref b58), .unset, .unset] []))
    refine go (fun _ k => XS.aload X61.here hx rfl (hb hby at_30) rfl rfl k) ?_
    show G (T61.setTop (mkF m 32 #[.val (.int p1), .val (.int p2), .val (.int p3), .val (.int p4), .val (.int (4 : Int32)), .val (.ref b58), .unset, .unset] [(.ref b58)]))
    refine go (fun _ k => XS.iconst X61.here hx rfl (hb hby at_32) k) ?_
    show G (T61.setTop (mkF m 33 #[.val (.int p1), .val (.int p2), .val (.int p3), .val (.int p4), .val (.int (4 : Int32)), .val (.ref b58), .unset, .unset] [(.int (2 : Int32)), (.ref b58)]))
    refine go (fun _ k => XS.iloadN X61.here hx rfl (hb hby at_33) rfl k) ?_
    show G (T61.setTop (mkF m 34 #[.val (.int p1), .val (.int p2), .val (.int p3), .val (.int p4), .val (.int (4 : Int32)), .val (.ref b58), .unset, .unset] [(.int p3), (.int (2 : Int32)), (.ref b58)]))
    refine go (fun _ k => XS.bipush X61.here hx rfl (hb hby at_34) k) ?_
    show G (T61.setTop (mkF m 36 #[.val (.int p1), .val (.int p2), .val (.int p3), .val (.int p4), .val (.int (4 : Int32)), .val (.ref b58), .unset, .unset] [(.int (16 : Int32)), (.int p3), (.int (2 : Int32)), (.ref b58)]))
    refine go (fun _ k => XS.iushr X61.here hx rfl (hb hby at_36) rfl k) ?_
    show G (T61.setTop (mkF m 37 #[.val (.int p1), .val (.int p2), .val (.int p3), .val (.int p4), .val (.int (4 : Int32)), .val (.ref b58), .unset, .unset] [(.int ((p3.toUInt32 >>> ((16 : Int32) &&& 31).toUInt32).toInt32)), (.int (2 : Int32)), (.ref b58)]))
    refine go (fun _ k => XS.i2b X61.here hx rfl (hb hby at_37) rfl k) ?_
    show G (T61.setTop (mkF m 38 #[.val (.int p1), .val (.int p2), .val (.int p3), .val (.int p4), .val (.int (4 : Int32)), .val (.ref b58), .unset, .unset] [(.int (((p3.toUInt32 >>> ((16 : Int32) &&& 31).toUInt32).toInt32).toInt8.toInt32)), (.int (2 : Int32)), (.ref b58)]))
    obtain ⟨cl63, Ar63, qk63, qs63, qn63, qh63, qg63⟩ := id V61
    obtain ⟨T63, h63, X63, e63, W63, st63⟩ := stB X61 hx hZ e61 Ar63 (j := (2 : Int32)) (inb_of qs63 ⟨by decide, by decide⟩) (g := (mkF m 38 #[.val (.int p1), .val (.int p2), .val (.int p3), .val (.int p4), .val (.int (4 : Int32)), .val (.ref b58), .unset, .unset] [(.int (((p3.toUInt32 >>> ((16 : Int32) &&& 31).toUInt32).toInt32).toInt8.toInt32)), (.int (2 : Int32)), (.ref b58)])) rfl rfl (hb hby at_38)
    have V63 : Arv Z h63 b58 k58 .byte (5 : Int32) [(.int (nar .byte (p3.toInt8.toInt32))), (.int (nar .byte (((p3.toUInt32 >>> ((8 : Int32) &&& 31).toUInt32).toInt32).toInt8.toInt32))), (.int (nar .byte (((p3.toUInt32 >>> ((16 : Int32) &&& 31).toUInt32).toInt32).toInt8.toInt32))), (.int (0 : Int32)), (.int (0 : Int32))] (.int (0 : Int32)) := Arv.set Ar63 qk63 qs63 qn63 qh63 qg63 (fits_nar_byte _) W63 2 rfl (Nat.le_of_ble_eq_true rfl)
    have f64 := f62.wr W63
    have Zs63 : n0 ≤ h63.size := Nat.le_trans Zs61 (Keep.of_wr W63).1
    have N63 := Fr.snoc X63 N61 g_b58
    refine go st63 ?_
    show G (T63.setTop (mkF m 39 #[.val (.int p1), .val (.int p2), .val (.int p3), .val (.int p4), .val (.int (4 : Int32)), .val (.ref b58), .unset, .unset] []))
    refine go (fun _ k => XS.aload X63.here hx rfl (hb hby at_39) rfl rfl k) ?_
    show G (T63.setTop (mkF m 41 #[.val (.int p1), .val (.int p2), .val (.int p3), .val (.int p4), .val (.int (4 : Int32)), .val (.ref b58), .unset, .unset] [(.ref b58)]))
    refine go (fun _ k => XS.iconst X63.here hx rfl (hb hby at_41) k) ?_
    show G (T63.setTop (mkF m 42 #[.val (.int p1), .val (.int p2), .val (.int p3), .val (.int p4), .val (.int (4 : Int32)), .val (.ref b58), .unset, .unset] [(.int (3 : Int32)), (.ref b58)]))
    refine go (fun _ k => XS.iloadN X63.here hx rfl (hb hby at_42) rfl k) ?_
    show G (T63.setTop (mkF m 43 #[.val (.int p1), .val (.int p2), .val (.int p3), .val (.int p4), .val (.int (4 : Int32)), .val (.ref b58), .unset, .unset] [(.int p3), (.int (3 : Int32)), (.ref b58)]))
    refine go (fun _ k => XS.bipush X63.here hx rfl (hb hby at_43) k) ?_
    show G (T63.setTop (mkF m 45 #[.val (.int p1), .val (.int p2), .val (.int p3), .val (.int p4), .val (.int (4 : Int32)), .val (.ref b58), .unset, .unset] [(.int (24 : Int32)), (.int p3), (.int (3 : Int32)), (.ref b58)]))
    refine go (fun _ k => XS.iushr X63.here hx rfl (hb hby at_45) rfl k) ?_
    show G (T63.setTop (mkF m 46 #[.val (.int p1), .val (.int p2), .val (.int p3), .val (.int p4), .val (.int (4 : Int32)), .val (.ref b58), .unset, .unset] [(.int ((p3.toUInt32 >>> ((24 : Int32) &&& 31).toUInt32).toInt32)), (.int (3 : Int32)), (.ref b58)]))
    refine go (fun _ k => XS.i2b X63.here hx rfl (hb hby at_46) rfl k) ?_
    show G (T63.setTop (mkF m 47 #[.val (.int p1), .val (.int p2), .val (.int p3), .val (.int p4), .val (.int (4 : Int32)), .val (.ref b58), .unset, .unset] [(.int (((p3.toUInt32 >>> ((24 : Int32) &&& 31).toUInt32).toInt32).toInt8.toInt32)), (.int (3 : Int32)), (.ref b58)]))
    obtain ⟨cl65, Ar65, qk65, qs65, qn65, qh65, qg65⟩ := id V63
    obtain ⟨T65, h65, X65, e65, W65, st65⟩ := stB X63 hx hZ e63 Ar65 (j := (3 : Int32)) (inb_of qs65 ⟨by decide, by decide⟩) (g := (mkF m 47 #[.val (.int p1), .val (.int p2), .val (.int p3), .val (.int p4), .val (.int (4 : Int32)), .val (.ref b58), .unset, .unset] [(.int (((p3.toUInt32 >>> ((24 : Int32) &&& 31).toUInt32).toInt32).toInt8.toInt32)), (.int (3 : Int32)), (.ref b58)])) rfl rfl (hb hby at_47)
    have V65 : Arv Z h65 b58 k58 .byte (5 : Int32) [(.int (nar .byte (p3.toInt8.toInt32))), (.int (nar .byte (((p3.toUInt32 >>> ((8 : Int32) &&& 31).toUInt32).toInt32).toInt8.toInt32))), (.int (nar .byte (((p3.toUInt32 >>> ((16 : Int32) &&& 31).toUInt32).toInt32).toInt8.toInt32))), (.int (nar .byte (((p3.toUInt32 >>> ((24 : Int32) &&& 31).toUInt32).toInt32).toInt8.toInt32))), (.int (0 : Int32))] (.int (0 : Int32)) := Arv.set Ar65 qk65 qs65 qn65 qh65 qg65 (fits_nar_byte _) W65 3 rfl (Nat.le_of_ble_eq_true rfl)
    have f66 := f64.wr W65
    have Zs65 : n0 ≤ h65.size := Nat.le_trans Zs63 (Keep.of_wr W65).1
    have N65 := Fr.snoc X65 N63 g_b58
    refine go st65 ?_
    show G (T65.setTop (mkF m 48 #[.val (.int p1), .val (.int p2), .val (.int p3), .val (.int p4), .val (.int (4 : Int32)), .val (.ref b58), .unset, .unset] []))
    refine go (fun _ k => XS.aload X65.here hx rfl (hb hby at_48) rfl rfl k) ?_
    show G (T65.setTop (mkF m 50 #[.val (.int p1), .val (.int p2), .val (.int p3), .val (.int p4), .val (.int (4 : Int32)), .val (.ref b58), .unset, .unset] [(.ref b58)]))
    refine go (fun _ k => XS.iconst X65.here hx rfl (hb hby at_50) k) ?_
    show G (T65.setTop (mkF m 51 #[.val (.int p1), .val (.int p2), .val (.int p3), .val (.int p4), .val (.int (4 : Int32)), .val (.ref b58), .unset, .unset] [(.int (4 : Int32)), (.ref b58)]))
    refine go (fun _ k => XS.iloadN X65.here hx rfl (hb hby at_51) rfl k) ?_
    show G (T65.setTop (mkF m 52 #[.val (.int p1), .val (.int p2), .val (.int p3), .val (.int p4), .val (.int (4 : Int32)), .val (.ref b58), .unset, .unset] [(.int p4), (.int (4 : Int32)), (.ref b58)]))
    refine go (fun _ k => XS.i2b X65.here hx rfl (hb hby at_52) rfl k) ?_
    show G (T65.setTop (mkF m 53 #[.val (.int p1), .val (.int p2), .val (.int p3), .val (.int p4), .val (.int (4 : Int32)), .val (.ref b58), .unset, .unset] [(.int (p4.toInt8.toInt32)), (.int (4 : Int32)), (.ref b58)]))
    obtain ⟨cl67, Ar67, qk67, qs67, qn67, qh67, qg67⟩ := id V65
    obtain ⟨T67, h67, X67, e67, W67, st67⟩ := stB X65 hx hZ e65 Ar67 (j := (4 : Int32)) (inb_of qs67 ⟨by decide, by decide⟩) (g := (mkF m 53 #[.val (.int p1), .val (.int p2), .val (.int p3), .val (.int p4), .val (.int (4 : Int32)), .val (.ref b58), .unset, .unset] [(.int (p4.toInt8.toInt32)), (.int (4 : Int32)), (.ref b58)])) rfl rfl (hb hby at_53)
    have V67 : Arv Z h67 b58 k58 .byte (5 : Int32) [(.int (nar .byte (p3.toInt8.toInt32))), (.int (nar .byte (((p3.toUInt32 >>> ((8 : Int32) &&& 31).toUInt32).toInt32).toInt8.toInt32))), (.int (nar .byte (((p3.toUInt32 >>> ((16 : Int32) &&& 31).toUInt32).toInt32).toInt8.toInt32))), (.int (nar .byte (((p3.toUInt32 >>> ((24 : Int32) &&& 31).toUInt32).toInt32).toInt8.toInt32))), (.int (nar .byte (p4.toInt8.toInt32)))] (.int (0 : Int32)) := Arv.set Ar67 qk67 qs67 qn67 qh67 qg67 (fits_nar_byte _) W67 4 rfl (Nat.le_of_ble_eq_true rfl)
    have f68 := f66.wr W67
    have Zs67 : n0 ≤ h67.size := Nat.le_trans Zs65 (Keep.of_wr W67).1
    have N67 := Fr.snoc X67 N65 g_b58
    refine go st67 ?_
    show G (T67.setTop (mkF m 54 #[.val (.int p1), .val (.int p2), .val (.int p3), .val (.int p4), .val (.int (4 : Int32)), .val (.ref b58), .unset, .unset] []))
    refine go (fun _ k => XS.iload X67.here hx rfl (hb hby at_54) rfl k) ?_
    show G (T67.setTop (mkF m 56 #[.val (.int p1), .val (.int p2), .val (.int p3), .val (.int p4), .val (.int (4 : Int32)), .val (.ref b58), .unset, .unset] [(.int (4 : Int32))]))
    refine go (fun _ k => XS.iconst X67.here hx rfl (hb hby at_56) k) ?_
    show G (T67.setTop (mkF m 57 #[.val (.int p1), .val (.int p2), .val (.int p3), .val (.int p4), .val (.int (4 : Int32)), .val (.ref b58), .unset, .unset] [(.int (1 : Int32)), (.int (4 : Int32))]))
    have hc69 : ¬ ((4 : Int32) = (1 : Int32)) := (by decide)
    refine go (fun _ k => XS.icmpYes X67.here hx rfl (pc0 := 57) (pc' := 79) rfl (hb hby at_57) rfl (feq hc69).2 (by decide) (by decide) k) ?_
    show G (T67.setTop (mkF m 79 #[.val (.int p1), .val (.int p2), .val (.int p3), .val (.int p4), .val (.int (4 : Int32)), .val (.ref b58), .unset, .unset] []))
    refine go (fun _ k => XS.iload X67.here hx rfl (hb hby at_79) rfl k) ?_
    show G (T67.setTop (mkF m 81 #[.val (.int p1), .val (.int p2), .val (.int p3), .val (.int p4), .val (.int (4 : Int32)), .val (.ref b58), .unset, .unset] [(.int (4 : Int32))]))
    refine go (fun _ k => XS.iconst X67.here hx rfl (hb hby at_81) k) ?_
    show G (T67.setTop (mkF m 82 #[.val (.int p1), .val (.int p2), .val (.int p3), .val (.int p4), .val (.int (4 : Int32)), .val (.ref b58), .unset, .unset] [(.int (2 : Int32)), (.int (4 : Int32))]))
    have hc70 : ¬ ((4 : Int32) = (2 : Int32)) := (by decide)
    refine go (fun _ k => XS.icmpYes X67.here hx rfl (pc0 := 82) (pc' := 119) rfl (hb hby at_82) rfl (feq hc70).2 (by decide) (by decide) k) ?_
    show G (T67.setTop (mkF m 119 #[.val (.int p1), .val (.int p2), .val (.int p3), .val (.int p4), .val (.int (4 : Int32)), .val (.ref b58), .unset, .unset] []))
    refine go (fun _ k => XS.iload X67.here hx rfl (hb hby at_119) rfl k) ?_
    show G (T67.setTop (mkF m 121 #[.val (.int p1), .val (.int p2), .val (.int p3), .val (.int p4), .val (.int (4 : Int32)), .val (.ref b58), .unset, .unset] [(.int (4 : Int32))]))
    refine go (fun _ k => XS.iconst X67.here hx rfl (hb hby at_121) k) ?_
    show G (T67.setTop (mkF m 122 #[.val (.int p1), .val (.int p2), .val (.int p3), .val (.int p4), .val (.int (4 : Int32)), .val (.ref b58), .unset, .unset] [(.int (3 : Int32)), (.int (4 : Int32))]))
    have hc71 : ¬ ((4 : Int32) = (3 : Int32)) := (by decide)
    refine go (fun _ k => XS.icmpYes X67.here hx rfl (pc0 := 122) (pc' := 170) rfl (hb hby at_122) rfl (feq hc71).2 (by decide) (by decide) k) ?_
    show G (T67.setTop (mkF m 170 #[.val (.int p1), .val (.int p2), .val (.int p3), .val (.int p4), .val (.int (4 : Int32)), .val (.ref b58), .unset, .unset] []))
    refine go (fun _ k => XS.iload X67.here hx rfl (hb hby at_170) rfl k) ?_
    show G (T67.setTop (mkF m 172 #[.val (.int p1), .val (.int p2), .val (.int p3), .val (.int p4), .val (.int (4 : Int32)), .val (.ref b58), .unset, .unset] [(.int (4 : Int32))]))
    refine go (fun _ k => XS.iconst X67.here hx rfl (hb hby at_172) k) ?_
    show G (T67.setTop (mkF m 173 #[.val (.int p1), .val (.int p2), .val (.int p3), .val (.int p4), .val (.int (4 : Int32)), .val (.ref b58), .unset, .unset] [(.int (4 : Int32)), (.int (4 : Int32))]))
    have hc72 : (4 : Int32) = (4 : Int32) := rfl
    refine go (fun _ k => XS.icmpNo X67.here hx rfl (hb hby at_173) rfl (teq hc72).2 k) ?_
    show G (T67.setTop (mkF m 176 #[.val (.int p1), .val (.int p2), .val (.int p3), .val (.int p4), .val (.int (4 : Int32)), .val (.ref b58), .unset, .unset] []))
    refine go (fun _ k => XS.iloadN X67.here hx rfl (hb hby at_176) rfl k) ?_
    show G (T67.setTop (mkF m 177 #[.val (.int p1), .val (.int p2), .val (.int p3), .val (.int p4), .val (.int (4 : Int32)), .val (.ref b58), .unset, .unset] [(.int p2)]))
    refine go (fun _ k => XS.i2l X67.here hx rfl (hb hby at_177) rfl k) ?_
    show G (T67.setTop (mkF m 178 #[.val (.int p1), .val (.int p2), .val (.int p3), .val (.int p4), .val (.int (4 : Int32)), .val (.ref b58), .unset, .unset] [(.long (p2.toInt64))]))
    refine go (X67.ldc2Long hx hown (mvT hZ (hw _ (List.mem_of_getElem? (i := 12) rfl))) (g := (mkF m 178 #[.val (.int p1), .val (.int p2), .val (.int p3), .val (.int p4), .val (.int (4 : Int32)), .val (.ref b58), .unset, .unset] [(.long (p2.toInt64))])) rfl (hb hby at_178)) ?_
    show G (T67.setTop (mkF m 181 #[.val (.int p1), .val (.int p2), .val (.int p3), .val (.int p4), .val (.int (4 : Int32)), .val (.ref b58), .unset, .unset] [(.long (268435455 : Int64)), (.long (p2.toInt64))]))
    refine go (fun _ k => XS.land X67.here hx rfl (hb hby at_181) rfl k) ?_
    show G (T67.setTop (mkF m 182 #[.val (.int p1), .val (.int p2), .val (.int p3), .val (.int p4), .val (.int (4 : Int32)), .val (.ref b58), .unset, .unset] [(.long ((p2.toInt64) &&& (268435455 : Int64)))]))
    refine go (fun _ k => XS.lstore X67.here hx rfl (hb hby at_182) rfl (l' := #[.val (.int p1), .val (.int p2), .val (.int p3), .val (.int p4), .val (.int (4 : Int32)), .val (.ref b58), .val (.long ((p2.toInt64) &&& (268435455 : Int64))), .second]) rfl k) ?_
    show G (T67.setTop (mkF m 184 #[.val (.int p1), .val (.int p2), .val (.int p3), .val (.int p4), .val (.int (4 : Int32)), .val (.ref b58), .val (.long ((p2.toInt64) &&& (268435455 : Int64))), .second] []))
    refine go (fun _ k => XS.aload X67.here hx rfl (hb hby at_184) rfl rfl k) ?_
    show G (T67.setTop (mkF m 186 #[.val (.int p1), .val (.int p2), .val (.int p3), .val (.int p4), .val (.int (4 : Int32)), .val (.ref b58), .val (.long ((p2.toInt64) &&& (268435455 : Int64))), .second] [(.ref b58)]))
    refine go (fun _ k => XS.iconst X67.here hx rfl (hb hby at_186) k) ?_
    show G (T67.setTop (mkF m 187 #[.val (.int p1), .val (.int p2), .val (.int p3), .val (.int p4), .val (.int (4 : Int32)), .val (.ref b58), .val (.long ((p2.toInt64) &&& (268435455 : Int64))), .second] [(.int (0 : Int32)), (.ref b58)]))
    refine go (X67.ldc2Long hx hown (mvT hZ (hw _ (List.mem_of_getElem? (i := 13) rfl))) (g := (mkF m 187 #[.val (.int p1), .val (.int p2), .val (.int p3), .val (.int p4), .val (.int (4 : Int32)), .val (.ref b58), .val (.long ((p2.toInt64) &&& (268435455 : Int64))), .second] [(.int (0 : Int32)), (.ref b58)])) rfl (hb hby at_187)) ?_
    show G (T67.setTop (mkF m 190 #[.val (.int p1), .val (.int p2), .val (.int p3), .val (.int p4), .val (.int (4 : Int32)), .val (.ref b58), .val (.long ((p2.toInt64) &&& (268435455 : Int64))), .second] [(.long (224 : Int64)), (.int (0 : Int32)), (.ref b58)]))
    refine go (fun _ k => XS.lload X67.here hx rfl (hb hby at_190) rfl k) ?_
    show G (T67.setTop (mkF m 192 #[.val (.int p1), .val (.int p2), .val (.int p3), .val (.int p4), .val (.int (4 : Int32)), .val (.ref b58), .val (.long ((p2.toInt64) &&& (268435455 : Int64))), .second] [(.long ((p2.toInt64) &&& (268435455 : Int64))), (.long (224 : Int64)), (.int (0 : Int32)), (.ref b58)]))
    refine go (fun _ k => XS.bipush X67.here hx rfl (hb hby at_192) k) ?_
    show G (T67.setTop (mkF m 194 #[.val (.int p1), .val (.int p2), .val (.int p3), .val (.int p4), .val (.int (4 : Int32)), .val (.ref b58), .val (.long ((p2.toInt64) &&& (268435455 : Int64))), .second] [(.int (24 : Int32)), (.long ((p2.toInt64) &&& (268435455 : Int64))), (.long (224 : Int64)), (.int (0 : Int32)), (.ref b58)]))
    refine go (fun _ k => XS.lushr X67.here hx rfl (hb hby at_194) rfl k) ?_
    show G (T67.setTop (mkF m 195 #[.val (.int p1), .val (.int p2), .val (.int p3), .val (.int p4), .val (.int (4 : Int32)), .val (.ref b58), .val (.long ((p2.toInt64) &&& (268435455 : Int64))), .second] [(.long ((((p2.toInt64) &&& (268435455 : Int64)).toUInt64 >>> ((24 : Int32) &&& 0x3f).toInt64.toUInt64).toInt64)), (.long (224 : Int64)), (.int (0 : Int32)), (.ref b58)]))
    refine go (fun _ k => XS.lor X67.here hx rfl (hb hby at_195) rfl k) ?_
    show G (T67.setTop (mkF m 196 #[.val (.int p1), .val (.int p2), .val (.int p3), .val (.int p4), .val (.int (4 : Int32)), .val (.ref b58), .val (.long ((p2.toInt64) &&& (268435455 : Int64))), .second] [(.long ((224 : Int64) ||| ((((p2.toInt64) &&& (268435455 : Int64)).toUInt64 >>> ((24 : Int32) &&& 0x3f).toInt64.toUInt64).toInt64))), (.int (0 : Int32)), (.ref b58)]))
    refine go (fun _ k => XS.l2i X67.here hx rfl (hb hby at_196) rfl k) ?_
    show G (T67.setTop (mkF m 197 #[.val (.int p1), .val (.int p2), .val (.int p3), .val (.int p4), .val (.int (4 : Int32)), .val (.ref b58), .val (.long ((p2.toInt64) &&& (268435455 : Int64))), .second] [(.int (((224 : Int64) ||| ((((p2.toInt64) &&& (268435455 : Int64)).toUInt64 >>> ((24 : Int32) &&& 0x3f).toInt64.toUInt64).toInt64)).toInt32)), (.int (0 : Int32)), (.ref b58)]))
    refine go (fun _ k => XS.i2b X67.here hx rfl (hb hby at_197) rfl k) ?_
    show G (T67.setTop (mkF m 198 #[.val (.int p1), .val (.int p2), .val (.int p3), .val (.int p4), .val (.int (4 : Int32)), .val (.ref b58), .val (.long ((p2.toInt64) &&& (268435455 : Int64))), .second] [(.int ((((224 : Int64) ||| ((((p2.toInt64) &&& (268435455 : Int64)).toUInt64 >>> ((24 : Int32) &&& 0x3f).toInt64.toUInt64).toInt64)).toInt32).toInt8.toInt32)), (.int (0 : Int32)), (.ref b58)]))
    obtain ⟨cl73, Ar73, qk73, qs73, qn73, qh73, qg73⟩ := id V67
    obtain ⟨T73, h73, X73, e73, W73, st73⟩ := stB X67 hx hZ e67 Ar73 (j := (0 : Int32)) (inb_of qs73 ⟨by decide, by decide⟩) (g := (mkF m 198 #[.val (.int p1), .val (.int p2), .val (.int p3), .val (.int p4), .val (.int (4 : Int32)), .val (.ref b58), .val (.long ((p2.toInt64) &&& (268435455 : Int64))), .second] [(.int ((((224 : Int64) ||| ((((p2.toInt64) &&& (268435455 : Int64)).toUInt64 >>> ((24 : Int32) &&& 0x3f).toInt64.toUInt64).toInt64)).toInt32).toInt8.toInt32)), (.int (0 : Int32)), (.ref b58)])) rfl rfl (hb hby at_198)
    have V73 : Arv Z h73 b58 k58 .byte (5 : Int32) [(.int (nar .byte ((((224 : Int64) ||| ((((p2.toInt64) &&& (268435455 : Int64)).toUInt64 >>> ((24 : Int32) &&& 0x3f).toInt64.toUInt64).toInt64)).toInt32).toInt8.toInt32))), (.int (nar .byte (((p3.toUInt32 >>> ((8 : Int32) &&& 31).toUInt32).toInt32).toInt8.toInt32))), (.int (nar .byte (((p3.toUInt32 >>> ((16 : Int32) &&& 31).toUInt32).toInt32).toInt8.toInt32))), (.int (nar .byte (((p3.toUInt32 >>> ((24 : Int32) &&& 31).toUInt32).toInt32).toInt8.toInt32))), (.int (nar .byte (p4.toInt8.toInt32)))] (.int (0 : Int32)) := Arv.set Ar73 qk73 qs73 qn73 qh73 qg73 (fits_nar_byte _) W73 0 rfl (Nat.le_of_ble_eq_true rfl)
    have f74 := f68.wr W73
    have Zs73 : n0 ≤ h73.size := Nat.le_trans Zs67 (Keep.of_wr W73).1
    have N73 := Fr.snoc X73 N67 g_b58
    refine go st73 ?_
    show G (T73.setTop (mkF m 199 #[.val (.int p1), .val (.int p2), .val (.int p3), .val (.int p4), .val (.int (4 : Int32)), .val (.ref b58), .val (.long ((p2.toInt64) &&& (268435455 : Int64))), .second] []))
    refine go (fun _ k => XS.aload X73.here hx rfl (hb hby at_199) rfl rfl k) ?_
    show G (T73.setTop (mkF m 201 #[.val (.int p1), .val (.int p2), .val (.int p3), .val (.int p4), .val (.int (4 : Int32)), .val (.ref b58), .val (.long ((p2.toInt64) &&& (268435455 : Int64))), .second] [(.ref b58)]))
    refine go (fun _ k => XS.iconst X73.here hx rfl (hb hby at_201) k) ?_
    show G (T73.setTop (mkF m 202 #[.val (.int p1), .val (.int p2), .val (.int p3), .val (.int p4), .val (.int (4 : Int32)), .val (.ref b58), .val (.long ((p2.toInt64) &&& (268435455 : Int64))), .second] [(.int (1 : Int32)), (.ref b58)]))
    refine go (fun _ k => XS.lload X73.here hx rfl (hb hby at_202) rfl k) ?_
    show G (T73.setTop (mkF m 204 #[.val (.int p1), .val (.int p2), .val (.int p3), .val (.int p4), .val (.int (4 : Int32)), .val (.ref b58), .val (.long ((p2.toInt64) &&& (268435455 : Int64))), .second] [(.long ((p2.toInt64) &&& (268435455 : Int64))), (.int (1 : Int32)), (.ref b58)]))
    refine go (fun _ k => XS.bipush X73.here hx rfl (hb hby at_204) k) ?_
    show G (T73.setTop (mkF m 206 #[.val (.int p1), .val (.int p2), .val (.int p3), .val (.int p4), .val (.int (4 : Int32)), .val (.ref b58), .val (.long ((p2.toInt64) &&& (268435455 : Int64))), .second] [(.int (16 : Int32)), (.long ((p2.toInt64) &&& (268435455 : Int64))), (.int (1 : Int32)), (.ref b58)]))
    refine go (fun _ k => XS.lushr X73.here hx rfl (hb hby at_206) rfl k) ?_
    show G (T73.setTop (mkF m 207 #[.val (.int p1), .val (.int p2), .val (.int p3), .val (.int p4), .val (.int (4 : Int32)), .val (.ref b58), .val (.long ((p2.toInt64) &&& (268435455 : Int64))), .second] [(.long ((((p2.toInt64) &&& (268435455 : Int64)).toUInt64 >>> ((16 : Int32) &&& 0x3f).toInt64.toUInt64).toInt64)), (.int (1 : Int32)), (.ref b58)]))
    refine go (fun _ k => XS.l2i X73.here hx rfl (hb hby at_207) rfl k) ?_
    show G (T73.setTop (mkF m 208 #[.val (.int p1), .val (.int p2), .val (.int p3), .val (.int p4), .val (.int (4 : Int32)), .val (.ref b58), .val (.long ((p2.toInt64) &&& (268435455 : Int64))), .second] [(.int (((((p2.toInt64) &&& (268435455 : Int64)).toUInt64 >>> ((16 : Int32) &&& 0x3f).toInt64.toUInt64).toInt64).toInt32)), (.int (1 : Int32)), (.ref b58)]))
    refine go (fun _ k => XS.i2b X73.here hx rfl (hb hby at_208) rfl k) ?_
    show G (T73.setTop (mkF m 209 #[.val (.int p1), .val (.int p2), .val (.int p3), .val (.int p4), .val (.int (4 : Int32)), .val (.ref b58), .val (.long ((p2.toInt64) &&& (268435455 : Int64))), .second] [(.int ((((((p2.toInt64) &&& (268435455 : Int64)).toUInt64 >>> ((16 : Int32) &&& 0x3f).toInt64.toUInt64).toInt64).toInt32).toInt8.toInt32)), (.int (1 : Int32)), (.ref b58)]))
    obtain ⟨cl75, Ar75, qk75, qs75, qn75, qh75, qg75⟩ := id V73
    obtain ⟨T75, h75, X75, e75, W75, st75⟩ := stB X73 hx hZ e73 Ar75 (j := (1 : Int32)) (inb_of qs75 ⟨by decide, by decide⟩) (g := (mkF m 209 #[.val (.int p1), .val (.int p2), .val (.int p3), .val (.int p4), .val (.int (4 : Int32)), .val (.ref b58), .val (.long ((p2.toInt64) &&& (268435455 : Int64))), .second] [(.int ((((((p2.toInt64) &&& (268435455 : Int64)).toUInt64 >>> ((16 : Int32) &&& 0x3f).toInt64.toUInt64).toInt64).toInt32).toInt8.toInt32)), (.int (1 : Int32)), (.ref b58)])) rfl rfl (hb hby at_209)
    have V75 : Arv Z h75 b58 k58 .byte (5 : Int32) [(.int (nar .byte ((((224 : Int64) ||| ((((p2.toInt64) &&& (268435455 : Int64)).toUInt64 >>> ((24 : Int32) &&& 0x3f).toInt64.toUInt64).toInt64)).toInt32).toInt8.toInt32))), (.int (nar .byte ((((((p2.toInt64) &&& (268435455 : Int64)).toUInt64 >>> ((16 : Int32) &&& 0x3f).toInt64.toUInt64).toInt64).toInt32).toInt8.toInt32))), (.int (nar .byte (((p3.toUInt32 >>> ((16 : Int32) &&& 31).toUInt32).toInt32).toInt8.toInt32))), (.int (nar .byte (((p3.toUInt32 >>> ((24 : Int32) &&& 31).toUInt32).toInt32).toInt8.toInt32))), (.int (nar .byte (p4.toInt8.toInt32)))] (.int (0 : Int32)) := Arv.set Ar75 qk75 qs75 qn75 qh75 qg75 (fits_nar_byte _) W75 1 rfl (Nat.le_of_ble_eq_true rfl)
    have f76 := f74.wr W75
    have Zs75 : n0 ≤ h75.size := Nat.le_trans Zs73 (Keep.of_wr W75).1
    have N75 := Fr.snoc X75 N73 g_b58
    refine go st75 ?_
    show G (T75.setTop (mkF m 210 #[.val (.int p1), .val (.int p2), .val (.int p3), .val (.int p4), .val (.int (4 : Int32)), .val (.ref b58), .val (.long ((p2.toInt64) &&& (268435455 : Int64))), .second] []))
    refine go (fun _ k => XS.aload X75.here hx rfl (hb hby at_210) rfl rfl k) ?_
    show G (T75.setTop (mkF m 212 #[.val (.int p1), .val (.int p2), .val (.int p3), .val (.int p4), .val (.int (4 : Int32)), .val (.ref b58), .val (.long ((p2.toInt64) &&& (268435455 : Int64))), .second] [(.ref b58)]))
    refine go (fun _ k => XS.iconst X75.here hx rfl (hb hby at_212) k) ?_
    show G (T75.setTop (mkF m 213 #[.val (.int p1), .val (.int p2), .val (.int p3), .val (.int p4), .val (.int (4 : Int32)), .val (.ref b58), .val (.long ((p2.toInt64) &&& (268435455 : Int64))), .second] [(.int (2 : Int32)), (.ref b58)]))
    refine go (fun _ k => XS.lload X75.here hx rfl (hb hby at_213) rfl k) ?_
    show G (T75.setTop (mkF m 215 #[.val (.int p1), .val (.int p2), .val (.int p3), .val (.int p4), .val (.int (4 : Int32)), .val (.ref b58), .val (.long ((p2.toInt64) &&& (268435455 : Int64))), .second] [(.long ((p2.toInt64) &&& (268435455 : Int64))), (.int (2 : Int32)), (.ref b58)]))
    refine go (fun _ k => XS.bipush X75.here hx rfl (hb hby at_215) k) ?_
    show G (T75.setTop (mkF m 217 #[.val (.int p1), .val (.int p2), .val (.int p3), .val (.int p4), .val (.int (4 : Int32)), .val (.ref b58), .val (.long ((p2.toInt64) &&& (268435455 : Int64))), .second] [(.int (8 : Int32)), (.long ((p2.toInt64) &&& (268435455 : Int64))), (.int (2 : Int32)), (.ref b58)]))
    refine go (fun _ k => XS.lushr X75.here hx rfl (hb hby at_217) rfl k) ?_
    show G (T75.setTop (mkF m 218 #[.val (.int p1), .val (.int p2), .val (.int p3), .val (.int p4), .val (.int (4 : Int32)), .val (.ref b58), .val (.long ((p2.toInt64) &&& (268435455 : Int64))), .second] [(.long ((((p2.toInt64) &&& (268435455 : Int64)).toUInt64 >>> ((8 : Int32) &&& 0x3f).toInt64.toUInt64).toInt64)), (.int (2 : Int32)), (.ref b58)]))
    refine go (fun _ k => XS.l2i X75.here hx rfl (hb hby at_218) rfl k) ?_
    show G (T75.setTop (mkF m 219 #[.val (.int p1), .val (.int p2), .val (.int p3), .val (.int p4), .val (.int (4 : Int32)), .val (.ref b58), .val (.long ((p2.toInt64) &&& (268435455 : Int64))), .second] [(.int (((((p2.toInt64) &&& (268435455 : Int64)).toUInt64 >>> ((8 : Int32) &&& 0x3f).toInt64.toUInt64).toInt64).toInt32)), (.int (2 : Int32)), (.ref b58)]))
    refine go (fun _ k => XS.i2b X75.here hx rfl (hb hby at_219) rfl k) ?_
    show G (T75.setTop (mkF m 220 #[.val (.int p1), .val (.int p2), .val (.int p3), .val (.int p4), .val (.int (4 : Int32)), .val (.ref b58), .val (.long ((p2.toInt64) &&& (268435455 : Int64))), .second] [(.int ((((((p2.toInt64) &&& (268435455 : Int64)).toUInt64 >>> ((8 : Int32) &&& 0x3f).toInt64.toUInt64).toInt64).toInt32).toInt8.toInt32)), (.int (2 : Int32)), (.ref b58)]))
    obtain ⟨cl77, Ar77, qk77, qs77, qn77, qh77, qg77⟩ := id V75
    obtain ⟨T77, h77, X77, e77, W77, st77⟩ := stB X75 hx hZ e75 Ar77 (j := (2 : Int32)) (inb_of qs77 ⟨by decide, by decide⟩) (g := (mkF m 220 #[.val (.int p1), .val (.int p2), .val (.int p3), .val (.int p4), .val (.int (4 : Int32)), .val (.ref b58), .val (.long ((p2.toInt64) &&& (268435455 : Int64))), .second] [(.int ((((((p2.toInt64) &&& (268435455 : Int64)).toUInt64 >>> ((8 : Int32) &&& 0x3f).toInt64.toUInt64).toInt64).toInt32).toInt8.toInt32)), (.int (2 : Int32)), (.ref b58)])) rfl rfl (hb hby at_220)
    have V77 : Arv Z h77 b58 k58 .byte (5 : Int32) [(.int (nar .byte ((((224 : Int64) ||| ((((p2.toInt64) &&& (268435455 : Int64)).toUInt64 >>> ((24 : Int32) &&& 0x3f).toInt64.toUInt64).toInt64)).toInt32).toInt8.toInt32))), (.int (nar .byte ((((((p2.toInt64) &&& (268435455 : Int64)).toUInt64 >>> ((16 : Int32) &&& 0x3f).toInt64.toUInt64).toInt64).toInt32).toInt8.toInt32))), (.int (nar .byte ((((((p2.toInt64) &&& (268435455 : Int64)).toUInt64 >>> ((8 : Int32) &&& 0x3f).toInt64.toUInt64).toInt64).toInt32).toInt8.toInt32))), (.int (nar .byte (((p3.toUInt32 >>> ((24 : Int32) &&& 31).toUInt32).toInt32).toInt8.toInt32))), (.int (nar .byte (p4.toInt8.toInt32)))] (.int (0 : Int32)) := Arv.set Ar77 qk77 qs77 qn77 qh77 qg77 (fits_nar_byte _) W77 2 rfl (Nat.le_of_ble_eq_true rfl)
    have f78 := f76.wr W77
    have Zs77 : n0 ≤ h77.size := Nat.le_trans Zs75 (Keep.of_wr W77).1
    have N77 := Fr.snoc X77 N75 g_b58
    refine go st77 ?_
    show G (T77.setTop (mkF m 221 #[.val (.int p1), .val (.int p2), .val (.int p3), .val (.int p4), .val (.int (4 : Int32)), .val (.ref b58), .val (.long ((p2.toInt64) &&& (268435455 : Int64))), .second] []))
    refine go (fun _ k => XS.aload X77.here hx rfl (hb hby at_221) rfl rfl k) ?_
    show G (T77.setTop (mkF m 223 #[.val (.int p1), .val (.int p2), .val (.int p3), .val (.int p4), .val (.int (4 : Int32)), .val (.ref b58), .val (.long ((p2.toInt64) &&& (268435455 : Int64))), .second] [(.ref b58)]))
    refine go (fun _ k => XS.iconst X77.here hx rfl (hb hby at_223) k) ?_
    show G (T77.setTop (mkF m 224 #[.val (.int p1), .val (.int p2), .val (.int p3), .val (.int p4), .val (.int (4 : Int32)), .val (.ref b58), .val (.long ((p2.toInt64) &&& (268435455 : Int64))), .second] [(.int (3 : Int32)), (.ref b58)]))
    refine go (fun _ k => XS.lload X77.here hx rfl (hb hby at_224) rfl k) ?_
    show G (T77.setTop (mkF m 226 #[.val (.int p1), .val (.int p2), .val (.int p3), .val (.int p4), .val (.int (4 : Int32)), .val (.ref b58), .val (.long ((p2.toInt64) &&& (268435455 : Int64))), .second] [(.long ((p2.toInt64) &&& (268435455 : Int64))), (.int (3 : Int32)), (.ref b58)]))
    refine go (fun _ k => XS.l2i X77.here hx rfl (hb hby at_226) rfl k) ?_
    show G (T77.setTop (mkF m 227 #[.val (.int p1), .val (.int p2), .val (.int p3), .val (.int p4), .val (.int (4 : Int32)), .val (.ref b58), .val (.long ((p2.toInt64) &&& (268435455 : Int64))), .second] [(.int (((p2.toInt64) &&& (268435455 : Int64)).toInt32)), (.int (3 : Int32)), (.ref b58)]))
    refine go (fun _ k => XS.i2b X77.here hx rfl (hb hby at_227) rfl k) ?_
    show G (T77.setTop (mkF m 228 #[.val (.int p1), .val (.int p2), .val (.int p3), .val (.int p4), .val (.int (4 : Int32)), .val (.ref b58), .val (.long ((p2.toInt64) &&& (268435455 : Int64))), .second] [(.int ((((p2.toInt64) &&& (268435455 : Int64)).toInt32).toInt8.toInt32)), (.int (3 : Int32)), (.ref b58)]))
    obtain ⟨cl79, Ar79, qk79, qs79, qn79, qh79, qg79⟩ := id V77
    obtain ⟨T79, h79, X79, e79, W79, st79⟩ := stB X77 hx hZ e77 Ar79 (j := (3 : Int32)) (inb_of qs79 ⟨by decide, by decide⟩) (g := (mkF m 228 #[.val (.int p1), .val (.int p2), .val (.int p3), .val (.int p4), .val (.int (4 : Int32)), .val (.ref b58), .val (.long ((p2.toInt64) &&& (268435455 : Int64))), .second] [(.int ((((p2.toInt64) &&& (268435455 : Int64)).toInt32).toInt8.toInt32)), (.int (3 : Int32)), (.ref b58)])) rfl rfl (hb hby at_228)
    have V79 : Arv Z h79 b58 k58 .byte (5 : Int32) [(.int (nar .byte ((((224 : Int64) ||| ((((p2.toInt64) &&& (268435455 : Int64)).toUInt64 >>> ((24 : Int32) &&& 0x3f).toInt64.toUInt64).toInt64)).toInt32).toInt8.toInt32))), (.int (nar .byte ((((((p2.toInt64) &&& (268435455 : Int64)).toUInt64 >>> ((16 : Int32) &&& 0x3f).toInt64.toUInt64).toInt64).toInt32).toInt8.toInt32))), (.int (nar .byte ((((((p2.toInt64) &&& (268435455 : Int64)).toUInt64 >>> ((8 : Int32) &&& 0x3f).toInt64.toUInt64).toInt64).toInt32).toInt8.toInt32))), (.int (nar .byte ((((p2.toInt64) &&& (268435455 : Int64)).toInt32).toInt8.toInt32))), (.int (nar .byte (p4.toInt8.toInt32)))] (.int (0 : Int32)) := Arv.set Ar79 qk79 qs79 qn79 qh79 qg79 (fits_nar_byte _) W79 3 rfl (Nat.le_of_ble_eq_true rfl)
    have f80 := f78.wr W79
    have Zs79 : n0 ≤ h79.size := Nat.le_trans Zs77 (Keep.of_wr W79).1
    have N79 := Fr.snoc X79 N77 g_b58
    refine go st79 ?_
    show G (T79.setTop (mkF m 229 #[.val (.int p1), .val (.int p2), .val (.int p3), .val (.int p4), .val (.int (4 : Int32)), .val (.ref b58), .val (.long ((p2.toInt64) &&& (268435455 : Int64))), .second] []))
    refine go (fun _ k => XS.goto X79.here hx rfl (pc0 := 229) (pc' := 287) rfl (hb hby at_229) (by decide) (by decide) k) ?_
    show G (T79.setTop (mkF m 287 #[.val (.int p1), .val (.int p2), .val (.int p3), .val (.int p4), .val (.int (4 : Int32)), .val (.ref b58), .val (.long ((p2.toInt64) &&& (268435455 : Int64))), .second] []))
    refine go (fun _ k => XS.aload X79.here hx rfl (hb hby at_287) rfl rfl k) ?_
    show G (T79.setTop (mkF m 289 #[.val (.int p1), .val (.int p2), .val (.int p3), .val (.int p4), .val (.int (4 : Int32)), .val (.ref b58), .val (.long ((p2.toInt64) &&& (268435455 : Int64))), .second] [(.ref b58)]))
    refine go (fun _ k => XS.iload X79.here hx rfl (hb hby at_289) rfl k) ?_
    show G (T79.setTop (mkF m 291 #[.val (.int p1), .val (.int p2), .val (.int p3), .val (.int p4), .val (.int (4 : Int32)), .val (.ref b58), .val (.long ((p2.toInt64) &&& (268435455 : Int64))), .second] [(.int (4 : Int32)), (.ref b58)]))
    obtain ⟨_, _, ⟨T81, L81, k81, n81⟩, -, X81, ⟨Lc81, hQ81, l81, y81, z81⟩, st81⟩ := Jvm.LawKit.callS X79 hx (y := (⟨"com/example/parley/parley/sentence/WordLength", "decode", "([BI)J"⟩ : MethodName)) hown (mvT hZ (hw _ (List.mem_of_getElem? (i := 3) rfl))) (mvT hZ (hw _ (List.mem_of_getElem? (i := 4) rfl))) (mvT hZ (hw _ (List.mem_of_getElem? (i := 5) rfl))) (mvT hZ (hw _ (List.mem_of_getElem? (i := 6) rfl))) (by decide) (backOf (W := 0) (rm1n4 l Z a0 hw [] b58 k58 (nar .byte ((((224 : Int64) ||| ((((p2.toInt64) &&& (268435455 : Int64)).toUInt64 >>> ((24 : Int32) &&& 0x3f).toInt64.toUInt64).toInt64)).toInt32).toInt8.toInt32)) (nar .byte ((((((p2.toInt64) &&& (268435455 : Int64)).toUInt64 >>> ((16 : Int32) &&& 0x3f).toInt64.toUInt64).toInt64).toInt32).toInt8.toInt32)) (nar .byte ((((((p2.toInt64) &&& (268435455 : Int64)).toUInt64 >>> ((8 : Int32) &&& 0x3f).toInt64.toUInt64).toInt64).toInt32).toInt8.toInt32)) (nar .byte ((((p2.toInt64) &&& (268435455 : Int64)).toInt32).toInt8.toInt32)) (nar .byte (p4.toInt8.toInt32)) h79 n0 Zs79 V79) hZ (hw _ (List.mem_of_getElem? (i := 6) rfl)) (hw _ (List.mem_of_getElem? (i := 5) rfl)) (by decide) (by decide)) (g := (mkF m 291 #[.val (.int p1), .val (.int p2), .val (.int p3), .val (.int p4), .val (.int (4 : Int32)), .val (.ref b58), .val (.long ((p2.toInt64) &&& (268435455 : Int64))), .second] [(.int (4 : Int32)), (.ref b58)])) rfl (by rw [hml]; rfl) (argsL := [(.ref b58), (.int (4 : Int32))]) (rest := []) (lenOf pd_0_0 rfl) rfl (by show 2 * 0 + _ ≤ _; exact Nat.le_of_eq rfl) (hb hby at_291) (fun _ _ => ⟨rfl, e79, (by decide : 1 + 0 ≤ _), (by decide : 5 + 0 ≤ _)⟩)
    dsimp only [Pt.U, Pt.locs, Pt.cells, Pt.slots] at X81 l81 y81 z81 st81 hQ81
    subst l81 y81 z81
    obtain ⟨rfl, N81q, e81⟩ := hQ81
    have N81 := Fr.app N79 N81q
    refine go st81 ?_
    show G (T81.setTop (mkF m 294 #[.val (.int p1), .val (.int p2), .val (.int p3), .val (.int p4), .val (.int (4 : Int32)), .val (.ref b58), .val (.long ((p2.toInt64) &&& (268435455 : Int64))), .second] [(.long (dS (dS (dS (d0 (4 : Int32) (nar .byte ((((224 : Int64) ||| ((((p2.toInt64) &&& (268435455 : Int64)).toUInt64 >>> ((24 : Int32) &&& 0x3f).toInt64.toUInt64).toInt64)).toInt32).toInt8.toInt32))) (nar .byte ((((((p2.toInt64) &&& (268435455 : Int64)).toUInt64 >>> ((16 : Int32) &&& 0x3f).toInt64.toUInt64).toInt64).toInt32).toInt8.toInt32))) (nar .byte ((((((p2.toInt64) &&& (268435455 : Int64)).toUInt64 >>> ((8 : Int32) &&& 0x3f).toInt64.toUInt64).toInt64).toInt32).toInt8.toInt32))) (nar .byte ((((p2.toInt64) &&& (268435455 : Int64)).toInt32).toInt8.toInt32))))]))
    refine go (fun _ k => XS.lload X81.here hx rfl (hb hby at_294) rfl k) ?_
    show G (T81.setTop (mkF m 296 #[.val (.int p1), .val (.int p2), .val (.int p3), .val (.int p4), .val (.int (4 : Int32)), .val (.ref b58), .val (.long ((p2.toInt64) &&& (268435455 : Int64))), .second] [(.long ((p2.toInt64) &&& (268435455 : Int64))), (.long (dS (dS (dS (d0 (4 : Int32) (nar .byte ((((224 : Int64) ||| ((((p2.toInt64) &&& (268435455 : Int64)).toUInt64 >>> ((24 : Int32) &&& 0x3f).toInt64.toUInt64).toInt64)).toInt32).toInt8.toInt32))) (nar .byte ((((((p2.toInt64) &&& (268435455 : Int64)).toUInt64 >>> ((16 : Int32) &&& 0x3f).toInt64.toUInt64).toInt64).toInt32).toInt8.toInt32))) (nar .byte ((((((p2.toInt64) &&& (268435455 : Int64)).toUInt64 >>> ((8 : Int32) &&& 0x3f).toInt64.toUInt64).toInt64).toInt32).toInt8.toInt32))) (nar .byte ((((p2.toInt64) &&& (268435455 : Int64)).toInt32).toInt8.toInt32))))]))
    refine go (fun _ k => XS.lcmp X81.here hx rfl (hb hby at_296) rfl k) ?_
    show G (T81.setTop (mkF m 297 #[.val (.int p1), .val (.int p2), .val (.int p3), .val (.int p4), .val (.int (4 : Int32)), .val (.ref b58), .val (.long ((p2.toInt64) &&& (268435455 : Int64))), .second] [(.int (lcmpW (dS (dS (dS (d0 (4 : Int32) (nar .byte ((((224 : Int64) ||| ((((p2.toInt64) &&& (268435455 : Int64)).toUInt64 >>> ((24 : Int32) &&& 0x3f).toInt64.toUInt64).toInt64)).toInt32).toInt8.toInt32))) (nar .byte ((((((p2.toInt64) &&& (268435455 : Int64)).toUInt64 >>> ((16 : Int32) &&& 0x3f).toInt64.toUInt64).toInt64).toInt32).toInt8.toInt32))) (nar .byte ((((((p2.toInt64) &&& (268435455 : Int64)).toUInt64 >>> ((8 : Int32) &&& 0x3f).toInt64.toUInt64).toInt64).toInt32).toInt8.toInt32))) (nar .byte ((((p2.toInt64) &&& (268435455 : Int64)).toInt32).toInt8.toInt32))) ((p2.toInt64) &&& (268435455 : Int64))))]))
    have hc82 : (dS (dS (dS (d0 (4 : Int32) (nar .byte ((((224 : Int64) ||| ((((p2.toInt64) &&& (268435455 : Int64)).toUInt64 >>> ((24 : Int32) &&& 0x3f).toInt64.toUInt64).toInt64)).toInt32).toInt8.toInt32))) (nar .byte ((((((p2.toInt64) &&& (268435455 : Int64)).toUInt64 >>> ((16 : Int32) &&& 0x3f).toInt64.toUInt64).toInt64).toInt32).toInt8.toInt32))) (nar .byte ((((((p2.toInt64) &&& (268435455 : Int64)).toUInt64 >>> ((8 : Int32) &&& 0x3f).toInt64.toUInt64).toInt64).toInt32).toInt8.toInt32))) (nar .byte ((((p2.toInt64) &&& (268435455 : Int64)).toInt32).toInt8.toInt32))) = ((p2.toInt64) &&& (268435455 : Int64)) := own_dec4 _ (own_L p2 268435455 (by decide)).1 (own_L p2 268435455 (by decide)).2
    refine go (fun _ k => XS.ifNo X81.here hx rfl (hb hby at_297) rfl ((if0 _ _).trans (teq (own_lceq.mpr hc82)).2) k) ?_
    show G (T81.setTop (mkF m 300 #[.val (.int p1), .val (.int p2), .val (.int p3), .val (.int p4), .val (.int (4 : Int32)), .val (.ref b58), .val (.long ((p2.toInt64) &&& (268435455 : Int64))), .second] []))
    refine go (fun _ k => XS.iconst X81.here hx rfl (hb hby at_300) k) ?_
    show G (T81.setTop (mkF m 301 #[.val (.int p1), .val (.int p2), .val (.int p3), .val (.int p4), .val (.int (4 : Int32)), .val (.ref b58), .val (.long ((p2.toInt64) &&& (268435455 : Int64))), .second] [(.int (1 : Int32))]))
    refine go (fun _ k => XS.goto X81.here hx rfl (pc0 := 301) (pc' := 305) rfl (hb hby at_301) (by decide) (by decide) k) ?_
    show G (T81.setTop (mkF m 305 #[.val (.int p1), .val (.int p2), .val (.int p3), .val (.int p4), .val (.int (4 : Int32)), .val (.ref b58), .val (.long ((p2.toInt64) &&& (268435455 : Int64))), .second] [(.int (1 : Int32))]))
    rw [hG]
    refine own_fin X81 Bd.notSynchronized (v := some (.int (1 : Int32))) (fun h => by rw [Bd.returns] at h; cases h) (fun fs hr => retOut X81 hx Bd.returns rfl (by simp [FieldType.isReference, Value.isRef]) (hb hby at_305) hr) ?_ (by decide) (by decide)
    show Q0 Z p1 p2 p3 p4 h0 n0 (some (.int (1 : Int32))) T81.heap _
    rw [e81]
    exact ⟨rfl, N81⟩
  · show G (s₁.setTop (mkF m 10 #[.val (.int p1), .val (.int p2), .val (.int p3), .val (.int p4), .val (.int (5 : Int32)), .unset, .unset, .unset] []))
    refine go (fun _ k => XS.iconst X0.here hx rfl (hb hby at_10) k) ?_
    show G (s₁.setTop (mkF m 11 #[.val (.int p1), .val (.int p2), .val (.int p3), .val (.int p4), .val (.int (5 : Int32)), .unset, .unset, .unset] [(.int (5 : Int32))]))
    obtain ⟨T83, h83, k83, X83, e83, E83, A83, B83, st83⟩ := newPE X0 hx hZ (hw _ (List.mem_of_getElem? (i := 1) rfl)) e0 (g := (mkF m 11 #[.val (.int p1), .val (.int p2), .val (.int p3), .val (.int p4), .val (.int (5 : Int32)), .unset, .unset, .unset] [(.int (5 : Int32))])) rfl (hb hby at_11) rfl (by decide) (cap := 5) (by decide) (by decide) (by decide) (by decide) (ad := "[B") (by decide)
    obtain ⟨b83, ga83⟩ : ∃ z, z = h0.size := ⟨_, rfl⟩
    have g_b83 : n0 ≤ b83 := Nat.le_trans Z0 (Nat.le_of_eq ga83.symm)
    rw [← ga83] at A83 B83 st83
    have Zs83 : n0 ≤ h83.size := Nat.le_trans Z0 E83.1
    have V83 : Arv Z h83 b83 k83 .byte (5 : Int32) [(.int (0 : Int32)), (.int (0 : Int32)), (.int (0 : Int32)), (.int (0 : Int32)), (.int (0 : Int32))] (.int (0 : Int32)) := (Arv.new A83 (by decide)).pad (pad_rep [] (.int (0 : Int32)) 5)
    refine go st83 ?_
    show G (T83.setTop (mkF m 13 #[.val (.int p1), .val (.int p2), .val (.int p3), .val (.int p4), .val (.int (5 : Int32)), .unset, .unset, .unset] [(.ref b83)]))
    refine go (fun _ k => XS.astore X83.here hx rfl (hb hby at_13) rfl rfl (l' := #[.val (.int p1), .val (.int p2), .val (.int p3), .val (.int p4), .val (.int (5 : Int32)), .val (.ref b83), .unset, .unset]) rfl k) ?_
    show G (T83.setTop (mkF m 15 #[.val (.int p1), .val (.int p2), .val (.int p3), .val (.int p4), .val (.int (5 : Int32)), .val (.ref b83), .unset, .unset] []))
    refine go (fun _ k => XS.aload X83.here hx rfl (hb hby at_15) rfl rfl k) ?_
    show G (T83.setTop (mkF m 17 #[.val (.int p1), .val (.int p2), .val (.int p3), .val (.int p4), .val (.int (5 : Int32)), .val (.ref b83), .unset, .unset] [(.ref b83)]))
    refine go (fun _ k => XS.iconst X83.here hx rfl (hb hby at_17) k) ?_
    show G (T83.setTop (mkF m 18 #[.val (.int p1), .val (.int p2), .val (.int p3), .val (.int p4), .val (.int (5 : Int32)), .val (.ref b83), .unset, .unset] [(.int (0 : Int32)), (.ref b83)]))
    refine go (fun _ k => XS.iloadN X83.here hx rfl (hb hby at_18) rfl k) ?_
    show G (T83.setTop (mkF m 19 #[.val (.int p1), .val (.int p2), .val (.int p3), .val (.int p4), .val (.int (5 : Int32)), .val (.ref b83), .unset, .unset] [(.int p3), (.int (0 : Int32)), (.ref b83)]))
    refine go (fun _ k => XS.i2b X83.here hx rfl (hb hby at_19) rfl k) ?_
    show G (T83.setTop (mkF m 20 #[.val (.int p1), .val (.int p2), .val (.int p3), .val (.int p4), .val (.int (5 : Int32)), .val (.ref b83), .unset, .unset] [(.int (p3.toInt8.toInt32)), (.int (0 : Int32)), (.ref b83)]))
    obtain ⟨cl84, Ar84, qk84, qs84, qn84, qh84, qg84⟩ := id V83
    obtain ⟨T84, h84, X84, e84, W84, st84⟩ := stB X83 hx hZ e83 Ar84 (j := (0 : Int32)) (inb_of qs84 ⟨by decide, by decide⟩) (g := (mkF m 20 #[.val (.int p1), .val (.int p2), .val (.int p3), .val (.int p4), .val (.int (5 : Int32)), .val (.ref b83), .unset, .unset] [(.int (p3.toInt8.toInt32)), (.int (0 : Int32)), (.ref b83)])) rfl rfl (hb hby at_20)
    have V84 : Arv Z h84 b83 k83 .byte (5 : Int32) [(.int (nar .byte (p3.toInt8.toInt32))), (.int (0 : Int32)), (.int (0 : Int32)), (.int (0 : Int32)), (.int (0 : Int32))] (.int (0 : Int32)) := Arv.set Ar84 qk84 qs84 qn84 qh84 qg84 (fits_nar_byte _) W84 0 rfl (Nat.le_of_ble_eq_true rfl)
    have f85 := B83.wr W84
    have Zs84 : n0 ≤ h84.size := Nat.le_trans Zs83 (Keep.of_wr W84).1
    have N84 := Fr.snoc X84 N0 g_b83
    refine go st84 ?_
    show G (T84.setTop (mkF m 21 #[.val (.int p1), .val (.int p2), .val (.int p3), .val (.int p4), .val (.int (5 : Int32)), .val (.ref b83), .unset, .unset] []))
    refine go (fun _ k => XS.aload X84.here hx rfl (hb hby at_21) rfl rfl k) ?_
    show G (T84.setTop (mkF m 23 #[.val (.int p1), .val (.int p2), .val (.int p3), .val (.int p4), .val (.int (5 : Int32)), .val (.ref b83), .unset, .unset] [(.ref b83)]))
    refine go (fun _ k => XS.iconst X84.here hx rfl (hb hby at_23) k) ?_
    show G (T84.setTop (mkF m 24 #[.val (.int p1), .val (.int p2), .val (.int p3), .val (.int p4), .val (.int (5 : Int32)), .val (.ref b83), .unset, .unset] [(.int (1 : Int32)), (.ref b83)]))
    refine go (fun _ k => XS.iloadN X84.here hx rfl (hb hby at_24) rfl k) ?_
    show G (T84.setTop (mkF m 25 #[.val (.int p1), .val (.int p2), .val (.int p3), .val (.int p4), .val (.int (5 : Int32)), .val (.ref b83), .unset, .unset] [(.int p3), (.int (1 : Int32)), (.ref b83)]))
    refine go (fun _ k => XS.bipush X84.here hx rfl (hb hby at_25) k) ?_
    show G (T84.setTop (mkF m 27 #[.val (.int p1), .val (.int p2), .val (.int p3), .val (.int p4), .val (.int (5 : Int32)), .val (.ref b83), .unset, .unset] [(.int (8 : Int32)), (.int p3), (.int (1 : Int32)), (.ref b83)]))
    refine go (fun _ k => XS.iushr X84.here hx rfl (hb hby at_27) rfl k) ?_
    show G (T84.setTop (mkF m 28 #[.val (.int p1), .val (.int p2), .val (.int p3), .val (.int p4), .val (.int (5 : Int32)), .val (.ref b83), .unset, .unset] [(.int ((p3.toUInt32 >>> ((8 : Int32) &&& 31).toUInt32).toInt32)), (.int (1 : Int32)), (.ref b83)]))
    refine go (fun _ k => XS.i2b X84.here hx rfl (hb hby at_28) rfl k) ?_
    show G (T84.setTop (mkF m 29 #[.val (.int p1), .val (.int p2), .val (.int p3), .val (.int p4), .val (.int (5 : Int32)), .val (.ref b83), .unset, .unset] [(.int (((p3.toUInt32 >>> ((8 : Int32) &&& 31).toUInt32).toInt32).toInt8.toInt32)), (.int (1 : Int32)), (.ref b83)]))
    obtain ⟨cl86, Ar86, qk86, qs86, qn86, qh86, qg86⟩ := id V84
    obtain ⟨T86, h86, X86, e86, W86, st86⟩ := stB X84 hx hZ e84 Ar86 (j := (1 : Int32)) (inb_of qs86 ⟨by decide, by decide⟩) (g := (mkF m 29 #[.val (.int p1), .val (.int p2), .val (.int p3), .val (.int p4), .val (.int (5 : Int32)), .val (.ref b83), .unset, .unset] [(.int (((p3.toUInt32 >>> ((8 : Int32) &&& 31).toUInt32).toInt32).toInt8.toInt32)), (.int (1 : Int32)), (.ref b83)])) rfl rfl (hb hby at_29)
    have V86 : Arv Z h86 b83 k83 .byte (5 : Int32) [(.int (nar .byte (p3.toInt8.toInt32))), (.int (nar .byte (((p3.toUInt32 >>> ((8 : Int32) &&& 31).toUInt32).toInt32).toInt8.toInt32))), (.int (0 : Int32)), (.int (0 : Int32)), (.int (0 : Int32))] (.int (0 : Int32)) := Arv.set Ar86 qk86 qs86 qn86 qh86 qg86 (fits_nar_byte _) W86 1 rfl (Nat.le_of_ble_eq_true rfl)
    have f87 := f85.wr W86
    have Zs86 : n0 ≤ h86.size := Nat.le_trans Zs84 (Keep.of_wr W86).1
    have N86 := Fr.snoc X86 N84 g_b83
    refine go st86 ?_
    show G (T86.setTop (mkF m 30 #[.val (.int p1), .val (.int p2), .val (.int p3), .val (.int p4), .val (.int (5 : Int32)), .val (.ref b83), .unset, .unset] []))
    refine go (fun _ k => XS.aload X86.here hx rfl (hb hby at_30) rfl rfl k) ?_
    show G (T86.setTop (mkF m 32 #[.val (.int p1), .val (.int p2), .val (.int p3), .val (.int p4), .val (.int (5 : Int32)), .val (.ref b83), .unset, .unset] [(.ref b83)]))
    refine go (fun _ k => XS.iconst X86.here hx rfl (hb hby at_32) k) ?_
    show G (T86.setTop (mkF m 33 #[.val (.int p1), .val (.int p2), .val (.int p3), .val (.int p4), .val (.int (5 : Int32)), .val (.ref b83), .unset, .unset] [(.int (2 : Int32)), (.ref b83)]))
    refine go (fun _ k => XS.iloadN X86.here hx rfl (hb hby at_33) rfl k) ?_
    show G (T86.setTop (mkF m 34 #[.val (.int p1), .val (.int p2), .val (.int p3), .val (.int p4), .val (.int (5 : Int32)), .val (.ref b83), .unset, .unset] [(.int p3), (.int (2 : Int32)), (.ref b83)]))
    refine go (fun _ k => XS.bipush X86.here hx rfl (hb hby at_34) k) ?_
    show G (T86.setTop (mkF m 36 #[.val (.int p1), .val (.int p2), .val (.int p3), .val (.int p4), .val (.int (5 : Int32)), .val (.ref b83), .unset, .unset] [(.int (16 : Int32)), (.int p3), (.int (2 : Int32)), (.ref b83)]))
    refine go (fun _ k => XS.iushr X86.here hx rfl (hb hby at_36) rfl k) ?_
    show G (T86.setTop (mkF m 37 #[.val (.int p1), .val (.int p2), .val (.int p3), .val (.int p4), .val (.int (5 : Int32)), .val (.ref b83), .unset, .unset] [(.int ((p3.toUInt32 >>> ((16 : Int32) &&& 31).toUInt32).toInt32)), (.int (2 : Int32)), (.ref b83)]))
    refine go (fun _ k => XS.i2b X86.here hx rfl (hb hby at_37) rfl k) ?_
    show G (T86.setTop (mkF m 38 #[.val (.int p1), .val (.int p2), .val (.int p3), .val (.int p4), .val (.int (5 : Int32)), .val (.ref b83), .unset, .unset] [(.int (((p3.toUInt32 >>> ((16 : Int32) &&& 31).toUInt32).toInt32).toInt8.toInt32)), (.int (2 : Int32)), (.ref b83)]))
    obtain ⟨cl88, Ar88, qk88, qs88, qn88, qh88, qg88⟩ := id V86
    obtain ⟨T88, h88, X88, e88, W88, st88⟩ := stB X86 hx hZ e86 Ar88 (j := (2 : Int32)) (inb_of qs88 ⟨by decide, by decide⟩) (g := (mkF m 38 #[.val (.int p1), .val (.int p2), .val (.int p3), .val (.int p4), .val (.int (5 : Int32)), .val (.ref b83), .unset, .unset] [(.int (((p3.toUInt32 >>> ((16 : Int32) &&& 31).toUInt32).toInt32).toInt8.toInt32)), (.int (2 : Int32)), (.ref b83)])) rfl rfl (hb hby at_38)
    have V88 : Arv Z h88 b83 k83 .byte (5 : Int32) [(.int (nar .byte (p3.toInt8.toInt32))), (.int (nar .byte (((p3.toUInt32 >>> ((8 : Int32) &&& 31).toUInt32).toInt32).toInt8.toInt32))), (.int (nar .byte (((p3.toUInt32 >>> ((16 : Int32) &&& 31).toUInt32).toInt32).toInt8.toInt32))), (.int (0 : Int32)), (.int (0 : Int32))] (.int (0 : Int32)) := Arv.set Ar88 qk88 qs88 qn88 qh88 qg88 (fits_nar_byte _) W88 2 rfl (Nat.le_of_ble_eq_true rfl)
    have f89 := f87.wr W88
    have Zs88 : n0 ≤ h88.size := Nat.le_trans Zs86 (Keep.of_wr W88).1
    have N88 := Fr.snoc X88 N86 g_b83
    refine go st88 ?_
    show G (T88.setTop (mkF m 39 #[.val (.int p1), .val (.int p2), .val (.int p3), .val (.int p4), .val (.int (5 : Int32)), .val (.ref b83), .unset, .unset] []))
    refine go (fun _ k => XS.aload X88.here hx rfl (hb hby at_39) rfl rfl k) ?_
    show G (T88.setTop (mkF m 41 #[.val (.int p1), .val (.int p2), .val (.int p3), .val (.int p4), .val (.int (5 : Int32)), .val (.ref b83), .unset, .unset] [(.ref b83)]))
    refine go (fun _ k => XS.iconst X88.here hx rfl (hb hby at_41) k) ?_
    show G (T88.setTop (mkF m 42 #[.val (.int p1), .val (.int p2), .val (.int p3), .val (.int p4), .val (.int (5 : Int32)), .val (.ref b83), .unset, .unset] [(.int (3 : Int32)), (.ref b83)]))
    refine go (fun _ k => XS.iloadN X88.here hx rfl (hb hby at_42) rfl k) ?_
    show G (T88.setTop (mkF m 43 #[.val (.int p1), .val (.int p2), .val (.int p3), .val (.int p4), .val (.int (5 : Int32)), .val (.ref b83), .unset, .unset] [(.int p3), (.int (3 : Int32)), (.ref b83)]))
    refine go (fun _ k => XS.bipush X88.here hx rfl (hb hby at_43) k) ?_
    show G (T88.setTop (mkF m 45 #[.val (.int p1), .val (.int p2), .val (.int p3), .val (.int p4), .val (.int (5 : Int32)), .val (.ref b83), .unset, .unset] [(.int (24 : Int32)), (.int p3), (.int (3 : Int32)), (.ref b83)]))
    refine go (fun _ k => XS.iushr X88.here hx rfl (hb hby at_45) rfl k) ?_
    show G (T88.setTop (mkF m 46 #[.val (.int p1), .val (.int p2), .val (.int p3), .val (.int p4), .val (.int (5 : Int32)), .val (.ref b83), .unset, .unset] [(.int ((p3.toUInt32 >>> ((24 : Int32) &&& 31).toUInt32).toInt32)), (.int (3 : Int32)), (.ref b83)]))
    refine go (fun _ k => XS.i2b X88.here hx rfl (hb hby at_46) rfl k) ?_
    show G (T88.setTop (mkF m 47 #[.val (.int p1), .val (.int p2), .val (.int p3), .val (.int p4), .val (.int (5 : Int32)), .val (.ref b83), .unset, .unset] [(.int (((p3.toUInt32 >>> ((24 : Int32) &&& 31).toUInt32).toInt32).toInt8.toInt32)), (.int (3 : Int32)), (.ref b83)]))
    obtain ⟨cl90, Ar90, qk90, qs90, qn90, qh90, qg90⟩ := id V88
    obtain ⟨T90, h90, X90, e90, W90, st90⟩ := stB X88 hx hZ e88 Ar90 (j := (3 : Int32)) (inb_of qs90 ⟨by decide, by decide⟩) (g := (mkF m 47 #[.val (.int p1), .val (.int p2), .val (.int p3), .val (.int p4), .val (.int (5 : Int32)), .val (.ref b83), .unset, .unset] [(.int (((p3.toUInt32 >>> ((24 : Int32) &&& 31).toUInt32).toInt32).toInt8.toInt32)), (.int (3 : Int32)), (.ref b83)])) rfl rfl (hb hby at_47)
    have V90 : Arv Z h90 b83 k83 .byte (5 : Int32) [(.int (nar .byte (p3.toInt8.toInt32))), (.int (nar .byte (((p3.toUInt32 >>> ((8 : Int32) &&& 31).toUInt32).toInt32).toInt8.toInt32))), (.int (nar .byte (((p3.toUInt32 >>> ((16 : Int32) &&& 31).toUInt32).toInt32).toInt8.toInt32))), (.int (nar .byte (((p3.toUInt32 >>> ((24 : Int32) &&& 31).toUInt32).toInt32).toInt8.toInt32))), (.int (0 : Int32))] (.int (0 : Int32)) := Arv.set Ar90 qk90 qs90 qn90 qh90 qg90 (fits_nar_byte _) W90 3 rfl (Nat.le_of_ble_eq_true rfl)
    have f91 := f89.wr W90
    have Zs90 : n0 ≤ h90.size := Nat.le_trans Zs88 (Keep.of_wr W90).1
    have N90 := Fr.snoc X90 N88 g_b83
    refine go st90 ?_
    show G (T90.setTop (mkF m 48 #[.val (.int p1), .val (.int p2), .val (.int p3), .val (.int p4), .val (.int (5 : Int32)), .val (.ref b83), .unset, .unset] []))
    refine go (fun _ k => XS.aload X90.here hx rfl (hb hby at_48) rfl rfl k) ?_
    show G (T90.setTop (mkF m 50 #[.val (.int p1), .val (.int p2), .val (.int p3), .val (.int p4), .val (.int (5 : Int32)), .val (.ref b83), .unset, .unset] [(.ref b83)]))
    refine go (fun _ k => XS.iconst X90.here hx rfl (hb hby at_50) k) ?_
    show G (T90.setTop (mkF m 51 #[.val (.int p1), .val (.int p2), .val (.int p3), .val (.int p4), .val (.int (5 : Int32)), .val (.ref b83), .unset, .unset] [(.int (4 : Int32)), (.ref b83)]))
    refine go (fun _ k => XS.iloadN X90.here hx rfl (hb hby at_51) rfl k) ?_
    show G (T90.setTop (mkF m 52 #[.val (.int p1), .val (.int p2), .val (.int p3), .val (.int p4), .val (.int (5 : Int32)), .val (.ref b83), .unset, .unset] [(.int p4), (.int (4 : Int32)), (.ref b83)]))
    refine go (fun _ k => XS.i2b X90.here hx rfl (hb hby at_52) rfl k) ?_
    show G (T90.setTop (mkF m 53 #[.val (.int p1), .val (.int p2), .val (.int p3), .val (.int p4), .val (.int (5 : Int32)), .val (.ref b83), .unset, .unset] [(.int (p4.toInt8.toInt32)), (.int (4 : Int32)), (.ref b83)]))
    obtain ⟨cl92, Ar92, qk92, qs92, qn92, qh92, qg92⟩ := id V90
    obtain ⟨T92, h92, X92, e92, W92, st92⟩ := stB X90 hx hZ e90 Ar92 (j := (4 : Int32)) (inb_of qs92 ⟨by decide, by decide⟩) (g := (mkF m 53 #[.val (.int p1), .val (.int p2), .val (.int p3), .val (.int p4), .val (.int (5 : Int32)), .val (.ref b83), .unset, .unset] [(.int (p4.toInt8.toInt32)), (.int (4 : Int32)), (.ref b83)])) rfl rfl (hb hby at_53)
    have V92 : Arv Z h92 b83 k83 .byte (5 : Int32) [(.int (nar .byte (p3.toInt8.toInt32))), (.int (nar .byte (((p3.toUInt32 >>> ((8 : Int32) &&& 31).toUInt32).toInt32).toInt8.toInt32))), (.int (nar .byte (((p3.toUInt32 >>> ((16 : Int32) &&& 31).toUInt32).toInt32).toInt8.toInt32))), (.int (nar .byte (((p3.toUInt32 >>> ((24 : Int32) &&& 31).toUInt32).toInt32).toInt8.toInt32))), (.int (nar .byte (p4.toInt8.toInt32)))] (.int (0 : Int32)) := Arv.set Ar92 qk92 qs92 qn92 qh92 qg92 (fits_nar_byte _) W92 4 rfl (Nat.le_of_ble_eq_true rfl)
    have f93 := f91.wr W92
    have Zs92 : n0 ≤ h92.size := Nat.le_trans Zs90 (Keep.of_wr W92).1
    have N92 := Fr.snoc X92 N90 g_b83
    refine go st92 ?_
    show G (T92.setTop (mkF m 54 #[.val (.int p1), .val (.int p2), .val (.int p3), .val (.int p4), .val (.int (5 : Int32)), .val (.ref b83), .unset, .unset] []))
    refine go (fun _ k => XS.iload X92.here hx rfl (hb hby at_54) rfl k) ?_
    show G (T92.setTop (mkF m 56 #[.val (.int p1), .val (.int p2), .val (.int p3), .val (.int p4), .val (.int (5 : Int32)), .val (.ref b83), .unset, .unset] [(.int (5 : Int32))]))
    refine go (fun _ k => XS.iconst X92.here hx rfl (hb hby at_56) k) ?_
    show G (T92.setTop (mkF m 57 #[.val (.int p1), .val (.int p2), .val (.int p3), .val (.int p4), .val (.int (5 : Int32)), .val (.ref b83), .unset, .unset] [(.int (1 : Int32)), (.int (5 : Int32))]))
    have hc94 : ¬ ((5 : Int32) = (1 : Int32)) := (by decide)
    refine go (fun _ k => XS.icmpYes X92.here hx rfl (pc0 := 57) (pc' := 79) rfl (hb hby at_57) rfl (feq hc94).2 (by decide) (by decide) k) ?_
    show G (T92.setTop (mkF m 79 #[.val (.int p1), .val (.int p2), .val (.int p3), .val (.int p4), .val (.int (5 : Int32)), .val (.ref b83), .unset, .unset] []))
    refine go (fun _ k => XS.iload X92.here hx rfl (hb hby at_79) rfl k) ?_
    show G (T92.setTop (mkF m 81 #[.val (.int p1), .val (.int p2), .val (.int p3), .val (.int p4), .val (.int (5 : Int32)), .val (.ref b83), .unset, .unset] [(.int (5 : Int32))]))
    refine go (fun _ k => XS.iconst X92.here hx rfl (hb hby at_81) k) ?_
    show G (T92.setTop (mkF m 82 #[.val (.int p1), .val (.int p2), .val (.int p3), .val (.int p4), .val (.int (5 : Int32)), .val (.ref b83), .unset, .unset] [(.int (2 : Int32)), (.int (5 : Int32))]))
    have hc95 : ¬ ((5 : Int32) = (2 : Int32)) := (by decide)
    refine go (fun _ k => XS.icmpYes X92.here hx rfl (pc0 := 82) (pc' := 119) rfl (hb hby at_82) rfl (feq hc95).2 (by decide) (by decide) k) ?_
    show G (T92.setTop (mkF m 119 #[.val (.int p1), .val (.int p2), .val (.int p3), .val (.int p4), .val (.int (5 : Int32)), .val (.ref b83), .unset, .unset] []))
    refine go (fun _ k => XS.iload X92.here hx rfl (hb hby at_119) rfl k) ?_
    show G (T92.setTop (mkF m 121 #[.val (.int p1), .val (.int p2), .val (.int p3), .val (.int p4), .val (.int (5 : Int32)), .val (.ref b83), .unset, .unset] [(.int (5 : Int32))]))
    refine go (fun _ k => XS.iconst X92.here hx rfl (hb hby at_121) k) ?_
    show G (T92.setTop (mkF m 122 #[.val (.int p1), .val (.int p2), .val (.int p3), .val (.int p4), .val (.int (5 : Int32)), .val (.ref b83), .unset, .unset] [(.int (3 : Int32)), (.int (5 : Int32))]))
    have hc96 : ¬ ((5 : Int32) = (3 : Int32)) := (by decide)
    refine go (fun _ k => XS.icmpYes X92.here hx rfl (pc0 := 122) (pc' := 170) rfl (hb hby at_122) rfl (feq hc96).2 (by decide) (by decide) k) ?_
    show G (T92.setTop (mkF m 170 #[.val (.int p1), .val (.int p2), .val (.int p3), .val (.int p4), .val (.int (5 : Int32)), .val (.ref b83), .unset, .unset] []))
    refine go (fun _ k => XS.iload X92.here hx rfl (hb hby at_170) rfl k) ?_
    show G (T92.setTop (mkF m 172 #[.val (.int p1), .val (.int p2), .val (.int p3), .val (.int p4), .val (.int (5 : Int32)), .val (.ref b83), .unset, .unset] [(.int (5 : Int32))]))
    refine go (fun _ k => XS.iconst X92.here hx rfl (hb hby at_172) k) ?_
    show G (T92.setTop (mkF m 173 #[.val (.int p1), .val (.int p2), .val (.int p3), .val (.int p4), .val (.int (5 : Int32)), .val (.ref b83), .unset, .unset] [(.int (4 : Int32)), (.int (5 : Int32))]))
    have hc97 : ¬ ((5 : Int32) = (4 : Int32)) := (by decide)
    refine go (fun _ k => XS.icmpYes X92.here hx rfl (pc0 := 173) (pc' := 232) rfl (hb hby at_173) rfl (feq hc97).2 (by decide) (by decide) k) ?_
    show G (T92.setTop (mkF m 232 #[.val (.int p1), .val (.int p2), .val (.int p3), .val (.int p4), .val (.int (5 : Int32)), .val (.ref b83), .unset, .unset] []))
    refine go (fun _ k => XS.iloadN X92.here hx rfl (hb hby at_232) rfl k) ?_
    show G (T92.setTop (mkF m 233 #[.val (.int p1), .val (.int p2), .val (.int p3), .val (.int p4), .val (.int (5 : Int32)), .val (.ref b83), .unset, .unset] [(.int p2)]))
    refine go (fun _ k => XS.i2l X92.here hx rfl (hb hby at_233) rfl k) ?_
    show G (T92.setTop (mkF m 234 #[.val (.int p1), .val (.int p2), .val (.int p3), .val (.int p4), .val (.int (5 : Int32)), .val (.ref b83), .unset, .unset] [(.long (p2.toInt64))]))
    refine go (X92.ldc2Long hx hown (mvT hZ (hw _ (List.mem_of_getElem? (i := 9) rfl))) (g := (mkF m 234 #[.val (.int p1), .val (.int p2), .val (.int p3), .val (.int p4), .val (.int (5 : Int32)), .val (.ref b83), .unset, .unset] [(.long (p2.toInt64))])) rfl (hb hby at_234)) ?_
    show G (T92.setTop (mkF m 237 #[.val (.int p1), .val (.int p2), .val (.int p3), .val (.int p4), .val (.int (5 : Int32)), .val (.ref b83), .unset, .unset] [(.long (4294967295 : Int64)), (.long (p2.toInt64))]))
    refine go (fun _ k => XS.land X92.here hx rfl (hb hby at_237) rfl k) ?_
    show G (T92.setTop (mkF m 238 #[.val (.int p1), .val (.int p2), .val (.int p3), .val (.int p4), .val (.int (5 : Int32)), .val (.ref b83), .unset, .unset] [(.long ((p2.toInt64) &&& (4294967295 : Int64)))]))
    refine go (fun _ k => XS.lstore X92.here hx rfl (hb hby at_238) rfl (l' := #[.val (.int p1), .val (.int p2), .val (.int p3), .val (.int p4), .val (.int (5 : Int32)), .val (.ref b83), .val (.long ((p2.toInt64) &&& (4294967295 : Int64))), .second]) rfl k) ?_
    show G (T92.setTop (mkF m 240 #[.val (.int p1), .val (.int p2), .val (.int p3), .val (.int p4), .val (.int (5 : Int32)), .val (.ref b83), .val (.long ((p2.toInt64) &&& (4294967295 : Int64))), .second] []))
    refine go (fun _ k => XS.aload X92.here hx rfl (hb hby at_240) rfl rfl k) ?_
    show G (T92.setTop (mkF m 242 #[.val (.int p1), .val (.int p2), .val (.int p3), .val (.int p4), .val (.int (5 : Int32)), .val (.ref b83), .val (.long ((p2.toInt64) &&& (4294967295 : Int64))), .second] [(.ref b83)]))
    refine go (fun _ k => XS.iconst X92.here hx rfl (hb hby at_242) k) ?_
    show G (T92.setTop (mkF m 243 #[.val (.int p1), .val (.int p2), .val (.int p3), .val (.int p4), .val (.int (5 : Int32)), .val (.ref b83), .val (.long ((p2.toInt64) &&& (4294967295 : Int64))), .second] [(.int (0 : Int32)), (.ref b83)]))
    refine go (fun _ k => XS.bipush X92.here hx rfl (hb hby at_243) k) ?_
    show G (T92.setTop (mkF m 245 #[.val (.int p1), .val (.int p2), .val (.int p3), .val (.int p4), .val (.int (5 : Int32)), .val (.ref b83), .val (.long ((p2.toInt64) &&& (4294967295 : Int64))), .second] [(.int (-16 : Int32)), (.int (0 : Int32)), (.ref b83)]))
    obtain ⟨cl98, Ar98, qk98, qs98, qn98, qh98, qg98⟩ := id V92
    obtain ⟨T98, h98, X98, e98, W98, st98⟩ := stB X92 hx hZ e92 Ar98 (j := (0 : Int32)) (inb_of qs98 ⟨by decide, by decide⟩) (g := (mkF m 245 #[.val (.int p1), .val (.int p2), .val (.int p3), .val (.int p4), .val (.int (5 : Int32)), .val (.ref b83), .val (.long ((p2.toInt64) &&& (4294967295 : Int64))), .second] [(.int (-16 : Int32)), (.int (0 : Int32)), (.ref b83)])) rfl rfl (hb hby at_245)
    have V98 : Arv Z h98 b83 k83 .byte (5 : Int32) [(.int (nar .byte (-16 : Int32))), (.int (nar .byte (((p3.toUInt32 >>> ((8 : Int32) &&& 31).toUInt32).toInt32).toInt8.toInt32))), (.int (nar .byte (((p3.toUInt32 >>> ((16 : Int32) &&& 31).toUInt32).toInt32).toInt8.toInt32))), (.int (nar .byte (((p3.toUInt32 >>> ((24 : Int32) &&& 31).toUInt32).toInt32).toInt8.toInt32))), (.int (nar .byte (p4.toInt8.toInt32)))] (.int (0 : Int32)) := Arv.set Ar98 qk98 qs98 qn98 qh98 qg98 (fits_nar_byte _) W98 0 rfl (Nat.le_of_ble_eq_true rfl)
    have f99 := f93.wr W98
    have Zs98 : n0 ≤ h98.size := Nat.le_trans Zs92 (Keep.of_wr W98).1
    have N98 := Fr.snoc X98 N92 g_b83
    refine go st98 ?_
    show G (T98.setTop (mkF m 246 #[.val (.int p1), .val (.int p2), .val (.int p3), .val (.int p4), .val (.int (5 : Int32)), .val (.ref b83), .val (.long ((p2.toInt64) &&& (4294967295 : Int64))), .second] []))
    refine go (fun _ k => XS.aload X98.here hx rfl (hb hby at_246) rfl rfl k) ?_
    show G (T98.setTop (mkF m 248 #[.val (.int p1), .val (.int p2), .val (.int p3), .val (.int p4), .val (.int (5 : Int32)), .val (.ref b83), .val (.long ((p2.toInt64) &&& (4294967295 : Int64))), .second] [(.ref b83)]))
    refine go (fun _ k => XS.iconst X98.here hx rfl (hb hby at_248) k) ?_
    show G (T98.setTop (mkF m 249 #[.val (.int p1), .val (.int p2), .val (.int p3), .val (.int p4), .val (.int (5 : Int32)), .val (.ref b83), .val (.long ((p2.toInt64) &&& (4294967295 : Int64))), .second] [(.int (1 : Int32)), (.ref b83)]))
    refine go (fun _ k => XS.lload X98.here hx rfl (hb hby at_249) rfl k) ?_
    show G (T98.setTop (mkF m 251 #[.val (.int p1), .val (.int p2), .val (.int p3), .val (.int p4), .val (.int (5 : Int32)), .val (.ref b83), .val (.long ((p2.toInt64) &&& (4294967295 : Int64))), .second] [(.long ((p2.toInt64) &&& (4294967295 : Int64))), (.int (1 : Int32)), (.ref b83)]))
    refine go (fun _ k => XS.bipush X98.here hx rfl (hb hby at_251) k) ?_
    show G (T98.setTop (mkF m 253 #[.val (.int p1), .val (.int p2), .val (.int p3), .val (.int p4), .val (.int (5 : Int32)), .val (.ref b83), .val (.long ((p2.toInt64) &&& (4294967295 : Int64))), .second] [(.int (24 : Int32)), (.long ((p2.toInt64) &&& (4294967295 : Int64))), (.int (1 : Int32)), (.ref b83)]))
    refine go (fun _ k => XS.lushr X98.here hx rfl (hb hby at_253) rfl k) ?_
    show G (T98.setTop (mkF m 254 #[.val (.int p1), .val (.int p2), .val (.int p3), .val (.int p4), .val (.int (5 : Int32)), .val (.ref b83), .val (.long ((p2.toInt64) &&& (4294967295 : Int64))), .second] [(.long ((((p2.toInt64) &&& (4294967295 : Int64)).toUInt64 >>> ((24 : Int32) &&& 0x3f).toInt64.toUInt64).toInt64)), (.int (1 : Int32)), (.ref b83)]))
    refine go (fun _ k => XS.l2i X98.here hx rfl (hb hby at_254) rfl k) ?_
    show G (T98.setTop (mkF m 255 #[.val (.int p1), .val (.int p2), .val (.int p3), .val (.int p4), .val (.int (5 : Int32)), .val (.ref b83), .val (.long ((p2.toInt64) &&& (4294967295 : Int64))), .second] [(.int (((((p2.toInt64) &&& (4294967295 : Int64)).toUInt64 >>> ((24 : Int32) &&& 0x3f).toInt64.toUInt64).toInt64).toInt32)), (.int (1 : Int32)), (.ref b83)]))
    refine go (fun _ k => XS.i2b X98.here hx rfl (hb hby at_255) rfl k) ?_
    show G (T98.setTop (mkF m 256 #[.val (.int p1), .val (.int p2), .val (.int p3), .val (.int p4), .val (.int (5 : Int32)), .val (.ref b83), .val (.long ((p2.toInt64) &&& (4294967295 : Int64))), .second] [(.int ((((((p2.toInt64) &&& (4294967295 : Int64)).toUInt64 >>> ((24 : Int32) &&& 0x3f).toInt64.toUInt64).toInt64).toInt32).toInt8.toInt32)), (.int (1 : Int32)), (.ref b83)]))
    obtain ⟨cl100, Ar100, qk100, qs100, qn100, qh100, qg100⟩ := id V98
    obtain ⟨T100, h100, X100, e100, W100, st100⟩ := stB X98 hx hZ e98 Ar100 (j := (1 : Int32)) (inb_of qs100 ⟨by decide, by decide⟩) (g := (mkF m 256 #[.val (.int p1), .val (.int p2), .val (.int p3), .val (.int p4), .val (.int (5 : Int32)), .val (.ref b83), .val (.long ((p2.toInt64) &&& (4294967295 : Int64))), .second] [(.int ((((((p2.toInt64) &&& (4294967295 : Int64)).toUInt64 >>> ((24 : Int32) &&& 0x3f).toInt64.toUInt64).toInt64).toInt32).toInt8.toInt32)), (.int (1 : Int32)), (.ref b83)])) rfl rfl (hb hby at_256)
    have V100 : Arv Z h100 b83 k83 .byte (5 : Int32) [(.int (nar .byte (-16 : Int32))), (.int (nar .byte ((((((p2.toInt64) &&& (4294967295 : Int64)).toUInt64 >>> ((24 : Int32) &&& 0x3f).toInt64.toUInt64).toInt64).toInt32).toInt8.toInt32))), (.int (nar .byte (((p3.toUInt32 >>> ((16 : Int32) &&& 31).toUInt32).toInt32).toInt8.toInt32))), (.int (nar .byte (((p3.toUInt32 >>> ((24 : Int32) &&& 31).toUInt32).toInt32).toInt8.toInt32))), (.int (nar .byte (p4.toInt8.toInt32)))] (.int (0 : Int32)) := Arv.set Ar100 qk100 qs100 qn100 qh100 qg100 (fits_nar_byte _) W100 1 rfl (Nat.le_of_ble_eq_true rfl)
    have f101 := f99.wr W100
    have Zs100 : n0 ≤ h100.size := Nat.le_trans Zs98 (Keep.of_wr W100).1
    have N100 := Fr.snoc X100 N98 g_b83
    refine go st100 ?_
    show G (T100.setTop (mkF m 257 #[.val (.int p1), .val (.int p2), .val (.int p3), .val (.int p4), .val (.int (5 : Int32)), .val (.ref b83), .val (.long ((p2.toInt64) &&& (4294967295 : Int64))), .second] []))
    refine go (fun _ k => XS.aload X100.here hx rfl (hb hby at_257) rfl rfl k) ?_
    show G (T100.setTop (mkF m 259 #[.val (.int p1), .val (.int p2), .val (.int p3), .val (.int p4), .val (.int (5 : Int32)), .val (.ref b83), .val (.long ((p2.toInt64) &&& (4294967295 : Int64))), .second] [(.ref b83)]))
    refine go (fun _ k => XS.iconst X100.here hx rfl (hb hby at_259) k) ?_
    show G (T100.setTop (mkF m 260 #[.val (.int p1), .val (.int p2), .val (.int p3), .val (.int p4), .val (.int (5 : Int32)), .val (.ref b83), .val (.long ((p2.toInt64) &&& (4294967295 : Int64))), .second] [(.int (2 : Int32)), (.ref b83)]))
    refine go (fun _ k => XS.lload X100.here hx rfl (hb hby at_260) rfl k) ?_
    show G (T100.setTop (mkF m 262 #[.val (.int p1), .val (.int p2), .val (.int p3), .val (.int p4), .val (.int (5 : Int32)), .val (.ref b83), .val (.long ((p2.toInt64) &&& (4294967295 : Int64))), .second] [(.long ((p2.toInt64) &&& (4294967295 : Int64))), (.int (2 : Int32)), (.ref b83)]))
    refine go (fun _ k => XS.bipush X100.here hx rfl (hb hby at_262) k) ?_
    show G (T100.setTop (mkF m 264 #[.val (.int p1), .val (.int p2), .val (.int p3), .val (.int p4), .val (.int (5 : Int32)), .val (.ref b83), .val (.long ((p2.toInt64) &&& (4294967295 : Int64))), .second] [(.int (16 : Int32)), (.long ((p2.toInt64) &&& (4294967295 : Int64))), (.int (2 : Int32)), (.ref b83)]))
    refine go (fun _ k => XS.lushr X100.here hx rfl (hb hby at_264) rfl k) ?_
    show G (T100.setTop (mkF m 265 #[.val (.int p1), .val (.int p2), .val (.int p3), .val (.int p4), .val (.int (5 : Int32)), .val (.ref b83), .val (.long ((p2.toInt64) &&& (4294967295 : Int64))), .second] [(.long ((((p2.toInt64) &&& (4294967295 : Int64)).toUInt64 >>> ((16 : Int32) &&& 0x3f).toInt64.toUInt64).toInt64)), (.int (2 : Int32)), (.ref b83)]))
    refine go (fun _ k => XS.l2i X100.here hx rfl (hb hby at_265) rfl k) ?_
    show G (T100.setTop (mkF m 266 #[.val (.int p1), .val (.int p2), .val (.int p3), .val (.int p4), .val (.int (5 : Int32)), .val (.ref b83), .val (.long ((p2.toInt64) &&& (4294967295 : Int64))), .second] [(.int (((((p2.toInt64) &&& (4294967295 : Int64)).toUInt64 >>> ((16 : Int32) &&& 0x3f).toInt64.toUInt64).toInt64).toInt32)), (.int (2 : Int32)), (.ref b83)]))
    refine go (fun _ k => XS.i2b X100.here hx rfl (hb hby at_266) rfl k) ?_
    show G (T100.setTop (mkF m 267 #[.val (.int p1), .val (.int p2), .val (.int p3), .val (.int p4), .val (.int (5 : Int32)), .val (.ref b83), .val (.long ((p2.toInt64) &&& (4294967295 : Int64))), .second] [(.int ((((((p2.toInt64) &&& (4294967295 : Int64)).toUInt64 >>> ((16 : Int32) &&& 0x3f).toInt64.toUInt64).toInt64).toInt32).toInt8.toInt32)), (.int (2 : Int32)), (.ref b83)]))
    obtain ⟨cl102, Ar102, qk102, qs102, qn102, qh102, qg102⟩ := id V100
    obtain ⟨T102, h102, X102, e102, W102, st102⟩ := stB X100 hx hZ e100 Ar102 (j := (2 : Int32)) (inb_of qs102 ⟨by decide, by decide⟩) (g := (mkF m 267 #[.val (.int p1), .val (.int p2), .val (.int p3), .val (.int p4), .val (.int (5 : Int32)), .val (.ref b83), .val (.long ((p2.toInt64) &&& (4294967295 : Int64))), .second] [(.int ((((((p2.toInt64) &&& (4294967295 : Int64)).toUInt64 >>> ((16 : Int32) &&& 0x3f).toInt64.toUInt64).toInt64).toInt32).toInt8.toInt32)), (.int (2 : Int32)), (.ref b83)])) rfl rfl (hb hby at_267)
    have V102 : Arv Z h102 b83 k83 .byte (5 : Int32) [(.int (nar .byte (-16 : Int32))), (.int (nar .byte ((((((p2.toInt64) &&& (4294967295 : Int64)).toUInt64 >>> ((24 : Int32) &&& 0x3f).toInt64.toUInt64).toInt64).toInt32).toInt8.toInt32))), (.int (nar .byte ((((((p2.toInt64) &&& (4294967295 : Int64)).toUInt64 >>> ((16 : Int32) &&& 0x3f).toInt64.toUInt64).toInt64).toInt32).toInt8.toInt32))), (.int (nar .byte (((p3.toUInt32 >>> ((24 : Int32) &&& 31).toUInt32).toInt32).toInt8.toInt32))), (.int (nar .byte (p4.toInt8.toInt32)))] (.int (0 : Int32)) := Arv.set Ar102 qk102 qs102 qn102 qh102 qg102 (fits_nar_byte _) W102 2 rfl (Nat.le_of_ble_eq_true rfl)
    have f103 := f101.wr W102
    have Zs102 : n0 ≤ h102.size := Nat.le_trans Zs100 (Keep.of_wr W102).1
    have N102 := Fr.snoc X102 N100 g_b83
    refine go st102 ?_
    show G (T102.setTop (mkF m 268 #[.val (.int p1), .val (.int p2), .val (.int p3), .val (.int p4), .val (.int (5 : Int32)), .val (.ref b83), .val (.long ((p2.toInt64) &&& (4294967295 : Int64))), .second] []))
    refine go (fun _ k => XS.aload X102.here hx rfl (hb hby at_268) rfl rfl k) ?_
    show G (T102.setTop (mkF m 270 #[.val (.int p1), .val (.int p2), .val (.int p3), .val (.int p4), .val (.int (5 : Int32)), .val (.ref b83), .val (.long ((p2.toInt64) &&& (4294967295 : Int64))), .second] [(.ref b83)]))
    refine go (fun _ k => XS.iconst X102.here hx rfl (hb hby at_270) k) ?_
    show G (T102.setTop (mkF m 271 #[.val (.int p1), .val (.int p2), .val (.int p3), .val (.int p4), .val (.int (5 : Int32)), .val (.ref b83), .val (.long ((p2.toInt64) &&& (4294967295 : Int64))), .second] [(.int (3 : Int32)), (.ref b83)]))
    refine go (fun _ k => XS.lload X102.here hx rfl (hb hby at_271) rfl k) ?_
    show G (T102.setTop (mkF m 273 #[.val (.int p1), .val (.int p2), .val (.int p3), .val (.int p4), .val (.int (5 : Int32)), .val (.ref b83), .val (.long ((p2.toInt64) &&& (4294967295 : Int64))), .second] [(.long ((p2.toInt64) &&& (4294967295 : Int64))), (.int (3 : Int32)), (.ref b83)]))
    refine go (fun _ k => XS.bipush X102.here hx rfl (hb hby at_273) k) ?_
    show G (T102.setTop (mkF m 275 #[.val (.int p1), .val (.int p2), .val (.int p3), .val (.int p4), .val (.int (5 : Int32)), .val (.ref b83), .val (.long ((p2.toInt64) &&& (4294967295 : Int64))), .second] [(.int (8 : Int32)), (.long ((p2.toInt64) &&& (4294967295 : Int64))), (.int (3 : Int32)), (.ref b83)]))
    refine go (fun _ k => XS.lushr X102.here hx rfl (hb hby at_275) rfl k) ?_
    show G (T102.setTop (mkF m 276 #[.val (.int p1), .val (.int p2), .val (.int p3), .val (.int p4), .val (.int (5 : Int32)), .val (.ref b83), .val (.long ((p2.toInt64) &&& (4294967295 : Int64))), .second] [(.long ((((p2.toInt64) &&& (4294967295 : Int64)).toUInt64 >>> ((8 : Int32) &&& 0x3f).toInt64.toUInt64).toInt64)), (.int (3 : Int32)), (.ref b83)]))
    refine go (fun _ k => XS.l2i X102.here hx rfl (hb hby at_276) rfl k) ?_
    show G (T102.setTop (mkF m 277 #[.val (.int p1), .val (.int p2), .val (.int p3), .val (.int p4), .val (.int (5 : Int32)), .val (.ref b83), .val (.long ((p2.toInt64) &&& (4294967295 : Int64))), .second] [(.int (((((p2.toInt64) &&& (4294967295 : Int64)).toUInt64 >>> ((8 : Int32) &&& 0x3f).toInt64.toUInt64).toInt64).toInt32)), (.int (3 : Int32)), (.ref b83)]))
    refine go (fun _ k => XS.i2b X102.here hx rfl (hb hby at_277) rfl k) ?_
    show G (T102.setTop (mkF m 278 #[.val (.int p1), .val (.int p2), .val (.int p3), .val (.int p4), .val (.int (5 : Int32)), .val (.ref b83), .val (.long ((p2.toInt64) &&& (4294967295 : Int64))), .second] [(.int ((((((p2.toInt64) &&& (4294967295 : Int64)).toUInt64 >>> ((8 : Int32) &&& 0x3f).toInt64.toUInt64).toInt64).toInt32).toInt8.toInt32)), (.int (3 : Int32)), (.ref b83)]))
    obtain ⟨cl104, Ar104, qk104, qs104, qn104, qh104, qg104⟩ := id V102
    obtain ⟨T104, h104, X104, e104, W104, st104⟩ := stB X102 hx hZ e102 Ar104 (j := (3 : Int32)) (inb_of qs104 ⟨by decide, by decide⟩) (g := (mkF m 278 #[.val (.int p1), .val (.int p2), .val (.int p3), .val (.int p4), .val (.int (5 : Int32)), .val (.ref b83), .val (.long ((p2.toInt64) &&& (4294967295 : Int64))), .second] [(.int ((((((p2.toInt64) &&& (4294967295 : Int64)).toUInt64 >>> ((8 : Int32) &&& 0x3f).toInt64.toUInt64).toInt64).toInt32).toInt8.toInt32)), (.int (3 : Int32)), (.ref b83)])) rfl rfl (hb hby at_278)
    have V104 : Arv Z h104 b83 k83 .byte (5 : Int32) [(.int (nar .byte (-16 : Int32))), (.int (nar .byte ((((((p2.toInt64) &&& (4294967295 : Int64)).toUInt64 >>> ((24 : Int32) &&& 0x3f).toInt64.toUInt64).toInt64).toInt32).toInt8.toInt32))), (.int (nar .byte ((((((p2.toInt64) &&& (4294967295 : Int64)).toUInt64 >>> ((16 : Int32) &&& 0x3f).toInt64.toUInt64).toInt64).toInt32).toInt8.toInt32))), (.int (nar .byte ((((((p2.toInt64) &&& (4294967295 : Int64)).toUInt64 >>> ((8 : Int32) &&& 0x3f).toInt64.toUInt64).toInt64).toInt32).toInt8.toInt32))), (.int (nar .byte (p4.toInt8.toInt32)))] (.int (0 : Int32)) := Arv.set Ar104 qk104 qs104 qn104 qh104 qg104 (fits_nar_byte _) W104 3 rfl (Nat.le_of_ble_eq_true rfl)
    have f105 := f103.wr W104
    have Zs104 : n0 ≤ h104.size := Nat.le_trans Zs102 (Keep.of_wr W104).1
    have N104 := Fr.snoc X104 N102 g_b83
    refine go st104 ?_
    show G (T104.setTop (mkF m 279 #[.val (.int p1), .val (.int p2), .val (.int p3), .val (.int p4), .val (.int (5 : Int32)), .val (.ref b83), .val (.long ((p2.toInt64) &&& (4294967295 : Int64))), .second] []))
    refine go (fun _ k => XS.aload X104.here hx rfl (hb hby at_279) rfl rfl k) ?_
    show G (T104.setTop (mkF m 281 #[.val (.int p1), .val (.int p2), .val (.int p3), .val (.int p4), .val (.int (5 : Int32)), .val (.ref b83), .val (.long ((p2.toInt64) &&& (4294967295 : Int64))), .second] [(.ref b83)]))
    refine go (fun _ k => XS.iconst X104.here hx rfl (hb hby at_281) k) ?_
    show G (T104.setTop (mkF m 282 #[.val (.int p1), .val (.int p2), .val (.int p3), .val (.int p4), .val (.int (5 : Int32)), .val (.ref b83), .val (.long ((p2.toInt64) &&& (4294967295 : Int64))), .second] [(.int (4 : Int32)), (.ref b83)]))
    refine go (fun _ k => XS.lload X104.here hx rfl (hb hby at_282) rfl k) ?_
    show G (T104.setTop (mkF m 284 #[.val (.int p1), .val (.int p2), .val (.int p3), .val (.int p4), .val (.int (5 : Int32)), .val (.ref b83), .val (.long ((p2.toInt64) &&& (4294967295 : Int64))), .second] [(.long ((p2.toInt64) &&& (4294967295 : Int64))), (.int (4 : Int32)), (.ref b83)]))
    refine go (fun _ k => XS.l2i X104.here hx rfl (hb hby at_284) rfl k) ?_
    show G (T104.setTop (mkF m 285 #[.val (.int p1), .val (.int p2), .val (.int p3), .val (.int p4), .val (.int (5 : Int32)), .val (.ref b83), .val (.long ((p2.toInt64) &&& (4294967295 : Int64))), .second] [(.int (((p2.toInt64) &&& (4294967295 : Int64)).toInt32)), (.int (4 : Int32)), (.ref b83)]))
    refine go (fun _ k => XS.i2b X104.here hx rfl (hb hby at_285) rfl k) ?_
    show G (T104.setTop (mkF m 286 #[.val (.int p1), .val (.int p2), .val (.int p3), .val (.int p4), .val (.int (5 : Int32)), .val (.ref b83), .val (.long ((p2.toInt64) &&& (4294967295 : Int64))), .second] [(.int ((((p2.toInt64) &&& (4294967295 : Int64)).toInt32).toInt8.toInt32)), (.int (4 : Int32)), (.ref b83)]))
    obtain ⟨cl106, Ar106, qk106, qs106, qn106, qh106, qg106⟩ := id V104
    obtain ⟨T106, h106, X106, e106, W106, st106⟩ := stB X104 hx hZ e104 Ar106 (j := (4 : Int32)) (inb_of qs106 ⟨by decide, by decide⟩) (g := (mkF m 286 #[.val (.int p1), .val (.int p2), .val (.int p3), .val (.int p4), .val (.int (5 : Int32)), .val (.ref b83), .val (.long ((p2.toInt64) &&& (4294967295 : Int64))), .second] [(.int ((((p2.toInt64) &&& (4294967295 : Int64)).toInt32).toInt8.toInt32)), (.int (4 : Int32)), (.ref b83)])) rfl rfl (hb hby at_286)
    have V106 : Arv Z h106 b83 k83 .byte (5 : Int32) [(.int (nar .byte (-16 : Int32))), (.int (nar .byte ((((((p2.toInt64) &&& (4294967295 : Int64)).toUInt64 >>> ((24 : Int32) &&& 0x3f).toInt64.toUInt64).toInt64).toInt32).toInt8.toInt32))), (.int (nar .byte ((((((p2.toInt64) &&& (4294967295 : Int64)).toUInt64 >>> ((16 : Int32) &&& 0x3f).toInt64.toUInt64).toInt64).toInt32).toInt8.toInt32))), (.int (nar .byte ((((((p2.toInt64) &&& (4294967295 : Int64)).toUInt64 >>> ((8 : Int32) &&& 0x3f).toInt64.toUInt64).toInt64).toInt32).toInt8.toInt32))), (.int (nar .byte ((((p2.toInt64) &&& (4294967295 : Int64)).toInt32).toInt8.toInt32)))] (.int (0 : Int32)) := Arv.set Ar106 qk106 qs106 qn106 qh106 qg106 (fits_nar_byte _) W106 4 rfl (Nat.le_of_ble_eq_true rfl)
    have f107 := f105.wr W106
    have Zs106 : n0 ≤ h106.size := Nat.le_trans Zs104 (Keep.of_wr W106).1
    have N106 := Fr.snoc X106 N104 g_b83
    refine go st106 ?_
    show G (T106.setTop (mkF m 287 #[.val (.int p1), .val (.int p2), .val (.int p3), .val (.int p4), .val (.int (5 : Int32)), .val (.ref b83), .val (.long ((p2.toInt64) &&& (4294967295 : Int64))), .second] []))
    refine go (fun _ k => XS.aload X106.here hx rfl (hb hby at_287) rfl rfl k) ?_
    show G (T106.setTop (mkF m 289 #[.val (.int p1), .val (.int p2), .val (.int p3), .val (.int p4), .val (.int (5 : Int32)), .val (.ref b83), .val (.long ((p2.toInt64) &&& (4294967295 : Int64))), .second] [(.ref b83)]))
    refine go (fun _ k => XS.iload X106.here hx rfl (hb hby at_289) rfl k) ?_
    show G (T106.setTop (mkF m 291 #[.val (.int p1), .val (.int p2), .val (.int p3), .val (.int p4), .val (.int (5 : Int32)), .val (.ref b83), .val (.long ((p2.toInt64) &&& (4294967295 : Int64))), .second] [(.int (5 : Int32)), (.ref b83)]))
    obtain ⟨_, _, ⟨T108, L108, k108, n108⟩, -, X108, ⟨Lc108, hQ108, l108, y108, z108⟩, st108⟩ := Jvm.LawKit.callS X106 hx (y := (⟨"com/example/parley/parley/sentence/WordLength", "decode", "([BI)J"⟩ : MethodName)) hown (mvT hZ (hw _ (List.mem_of_getElem? (i := 3) rfl))) (mvT hZ (hw _ (List.mem_of_getElem? (i := 4) rfl))) (mvT hZ (hw _ (List.mem_of_getElem? (i := 5) rfl))) (mvT hZ (hw _ (List.mem_of_getElem? (i := 6) rfl))) (by decide) (backOf (W := 0) (rm1n5 l Z a0 hw [] b83 k83 (nar .byte (-16 : Int32)) (nar .byte ((((((p2.toInt64) &&& (4294967295 : Int64)).toUInt64 >>> ((24 : Int32) &&& 0x3f).toInt64.toUInt64).toInt64).toInt32).toInt8.toInt32)) (nar .byte ((((((p2.toInt64) &&& (4294967295 : Int64)).toUInt64 >>> ((16 : Int32) &&& 0x3f).toInt64.toUInt64).toInt64).toInt32).toInt8.toInt32)) (nar .byte ((((((p2.toInt64) &&& (4294967295 : Int64)).toUInt64 >>> ((8 : Int32) &&& 0x3f).toInt64.toUInt64).toInt64).toInt32).toInt8.toInt32)) (nar .byte ((((p2.toInt64) &&& (4294967295 : Int64)).toInt32).toInt8.toInt32)) h106 n0 Zs106 V106) hZ (hw _ (List.mem_of_getElem? (i := 6) rfl)) (hw _ (List.mem_of_getElem? (i := 5) rfl)) (by decide) (by decide)) (g := (mkF m 291 #[.val (.int p1), .val (.int p2), .val (.int p3), .val (.int p4), .val (.int (5 : Int32)), .val (.ref b83), .val (.long ((p2.toInt64) &&& (4294967295 : Int64))), .second] [(.int (5 : Int32)), (.ref b83)])) rfl (by rw [hml]; rfl) (argsL := [(.ref b83), (.int (5 : Int32))]) (rest := []) (lenOf pd_0_0 rfl) rfl (by show 2 * 0 + _ ≤ _; exact Nat.le_of_eq rfl) (hb hby at_291) (fun _ _ => ⟨rfl, e106, (by decide : 1 + 0 ≤ _), (by decide : 5 + 0 ≤ _)⟩)
    dsimp only [Pt.U, Pt.locs, Pt.cells, Pt.slots] at X108 l108 y108 z108 st108 hQ108
    subst l108 y108 z108
    obtain ⟨rfl, N108q, e108⟩ := hQ108
    have N108 := Fr.app N106 N108q
    refine go st108 ?_
    show G (T108.setTop (mkF m 294 #[.val (.int p1), .val (.int p2), .val (.int p3), .val (.int p4), .val (.int (5 : Int32)), .val (.ref b83), .val (.long ((p2.toInt64) &&& (4294967295 : Int64))), .second] [(.long (dS (dS (dS (dS (d0 (5 : Int32) (nar .byte (-16 : Int32))) (nar .byte ((((((p2.toInt64) &&& (4294967295 : Int64)).toUInt64 >>> ((24 : Int32) &&& 0x3f).toInt64.toUInt64).toInt64).toInt32).toInt8.toInt32))) (nar .byte ((((((p2.toInt64) &&& (4294967295 : Int64)).toUInt64 >>> ((16 : Int32) &&& 0x3f).toInt64.toUInt64).toInt64).toInt32).toInt8.toInt32))) (nar .byte ((((((p2.toInt64) &&& (4294967295 : Int64)).toUInt64 >>> ((8 : Int32) &&& 0x3f).toInt64.toUInt64).toInt64).toInt32).toInt8.toInt32))) (nar .byte ((((p2.toInt64) &&& (4294967295 : Int64)).toInt32).toInt8.toInt32))))]))
    refine go (fun _ k => XS.lload X108.here hx rfl (hb hby at_294) rfl k) ?_
    show G (T108.setTop (mkF m 296 #[.val (.int p1), .val (.int p2), .val (.int p3), .val (.int p4), .val (.int (5 : Int32)), .val (.ref b83), .val (.long ((p2.toInt64) &&& (4294967295 : Int64))), .second] [(.long ((p2.toInt64) &&& (4294967295 : Int64))), (.long (dS (dS (dS (dS (d0 (5 : Int32) (nar .byte (-16 : Int32))) (nar .byte ((((((p2.toInt64) &&& (4294967295 : Int64)).toUInt64 >>> ((24 : Int32) &&& 0x3f).toInt64.toUInt64).toInt64).toInt32).toInt8.toInt32))) (nar .byte ((((((p2.toInt64) &&& (4294967295 : Int64)).toUInt64 >>> ((16 : Int32) &&& 0x3f).toInt64.toUInt64).toInt64).toInt32).toInt8.toInt32))) (nar .byte ((((((p2.toInt64) &&& (4294967295 : Int64)).toUInt64 >>> ((8 : Int32) &&& 0x3f).toInt64.toUInt64).toInt64).toInt32).toInt8.toInt32))) (nar .byte ((((p2.toInt64) &&& (4294967295 : Int64)).toInt32).toInt8.toInt32))))]))
    refine go (fun _ k => XS.lcmp X108.here hx rfl (hb hby at_296) rfl k) ?_
    show G (T108.setTop (mkF m 297 #[.val (.int p1), .val (.int p2), .val (.int p3), .val (.int p4), .val (.int (5 : Int32)), .val (.ref b83), .val (.long ((p2.toInt64) &&& (4294967295 : Int64))), .second] [(.int (lcmpW (dS (dS (dS (dS (d0 (5 : Int32) (nar .byte (-16 : Int32))) (nar .byte ((((((p2.toInt64) &&& (4294967295 : Int64)).toUInt64 >>> ((24 : Int32) &&& 0x3f).toInt64.toUInt64).toInt64).toInt32).toInt8.toInt32))) (nar .byte ((((((p2.toInt64) &&& (4294967295 : Int64)).toUInt64 >>> ((16 : Int32) &&& 0x3f).toInt64.toUInt64).toInt64).toInt32).toInt8.toInt32))) (nar .byte ((((((p2.toInt64) &&& (4294967295 : Int64)).toUInt64 >>> ((8 : Int32) &&& 0x3f).toInt64.toUInt64).toInt64).toInt32).toInt8.toInt32))) (nar .byte ((((p2.toInt64) &&& (4294967295 : Int64)).toInt32).toInt8.toInt32))) ((p2.toInt64) &&& (4294967295 : Int64))))]))
    have hc109 : (dS (dS (dS (dS (d0 (5 : Int32) (nar .byte (-16 : Int32))) (nar .byte ((((((p2.toInt64) &&& (4294967295 : Int64)).toUInt64 >>> ((24 : Int32) &&& 0x3f).toInt64.toUInt64).toInt64).toInt32).toInt8.toInt32))) (nar .byte ((((((p2.toInt64) &&& (4294967295 : Int64)).toUInt64 >>> ((16 : Int32) &&& 0x3f).toInt64.toUInt64).toInt64).toInt32).toInt8.toInt32))) (nar .byte ((((((p2.toInt64) &&& (4294967295 : Int64)).toUInt64 >>> ((8 : Int32) &&& 0x3f).toInt64.toUInt64).toInt64).toInt32).toInt8.toInt32))) (nar .byte ((((p2.toInt64) &&& (4294967295 : Int64)).toInt32).toInt8.toInt32))) = ((p2.toInt64) &&& (4294967295 : Int64)) := own_dec5 _ (own_L p2 4294967295 (by decide)).1 (own_L p2 4294967295 (by decide)).2
    refine go (fun _ k => XS.ifNo X108.here hx rfl (hb hby at_297) rfl ((if0 _ _).trans (teq (own_lceq.mpr hc109)).2) k) ?_
    show G (T108.setTop (mkF m 300 #[.val (.int p1), .val (.int p2), .val (.int p3), .val (.int p4), .val (.int (5 : Int32)), .val (.ref b83), .val (.long ((p2.toInt64) &&& (4294967295 : Int64))), .second] []))
    refine go (fun _ k => XS.iconst X108.here hx rfl (hb hby at_300) k) ?_
    show G (T108.setTop (mkF m 301 #[.val (.int p1), .val (.int p2), .val (.int p3), .val (.int p4), .val (.int (5 : Int32)), .val (.ref b83), .val (.long ((p2.toInt64) &&& (4294967295 : Int64))), .second] [(.int (1 : Int32))]))
    refine go (fun _ k => XS.goto X108.here hx rfl (pc0 := 301) (pc' := 305) rfl (hb hby at_301) (by decide) (by decide) k) ?_
    show G (T108.setTop (mkF m 305 #[.val (.int p1), .val (.int p2), .val (.int p3), .val (.int p4), .val (.int (5 : Int32)), .val (.ref b83), .val (.long ((p2.toInt64) &&& (4294967295 : Int64))), .second] [(.int (1 : Int32))]))
    rw [hG]
    refine own_fin X108 Bd.notSynchronized (v := some (.int (1 : Int32))) (fun h => by rw [Bd.returns] at h; cases h) (fun fs hr => retOut X108 hx Bd.returns rfl (by simp [FieldType.isReference, Value.isRef]) (hb hby at_305) hr) ?_ (by decide) (by decide)
    show Q0 Z p1 p2 p3 p4 h0 n0 (some (.int (1 : Int32))) T108.heap _
    rw [e108]
    exact ⟨rfl, N108⟩

set_option maxRecDepth 65536 in
set_option maxHeartbeats 40000000 in
theorem comes_1 {Post : Tables → Env → Array Value → State → Outcome → State → Prop} (hpost : ∀ tb e args s v u, (limb_1_1.after args s (.returned v) u = true ∧ limb_1_2.after args s (.returned v) u = true ∧ True) → FrameEnd s (.returned v) u (Jvm.fieldLocs frame_1_writes args s ++ Jvm.arrayLocs frame_1_arrays args s ++ Jvm.staticLocs frame_1_statics s) 16 128 → Post tb e args s (.returned v) u) :
    ArmFor flags0 classFile x code maxLocals ret World_1 tables_1 room_1 Calls_1 rest_1 Pre_1 Post := by
  intro l hfl _ _ p e ha hc hk s m args below hf hA hF happ hP
  obtain ⟨hcalls, hrest, hpre⟩ := hP
  obtain ⟨-, -, -, hnamed, -, -, -, hat⟩ := (Spec.applies_iff hf).mp happ
  obtain ⟨hg, hn⟩ := and_e (Cond.before_iff.mp (show (Jvm.Cond.and given_1 narrow_1).before args s = true from hpre))
  obtain ⟨g2, g3⟩ := and_e hg
  obtain ⟨g4, g5⟩ := and_e g3
  obtain ⟨g6, g7⟩ := and_e g5
  obtain ⟨g8, g9⟩ := and_e g7
  obtain ⟨w0, w1, w2, w3, rfl⟩ : ∃ w0 w1 w2 w3 : Value, args = #[w0, w1, w2, w3] := by
    have hs : args.size = 4 := by simpa [Cond.value, given_1] using g2
    obtain ⟨L⟩ := args
    match L, hs with
    | [w0, w1, w2, w3], _ => exact ⟨w0, w1, w2, w3, rfl⟩
  have hw := fun d (hd : d ∈ tables_1) => atoms_spec (ws := Jvm.Cond.code x code maxLocals ret :: tables_1) hat d (List.mem_cons_of_mem _ hd)
  have hfit : Fit s := fun {y c} hc i hi => by
    obtain ⟨ha, rfl⟩ := Array.getElem?_eq_some_iff.mp hc
    have q := List.all_eq_true.mp ((Array.all_eq_true_iff_forall_mem.mp hF) _ (Array.getElem_mem ha)) i (List.mem_range.mpr hi)
    simpa [Array.getElem?_eq_getElem hi] using q
  obtain ⟨i0, ei0⟩ := is_v g4
  obtain rfl : w0 = (.int i0) := Option.some.inj ei0
  obtain ⟨i1, ei1⟩ := is_v g6
  obtain rfl : w1 = (.int i1) := Option.some.inj ei1
  obtain ⟨i2, ei2⟩ := is_v g8
  obtain rfl : w2 = (.int i2) := Option.some.inj ei2
  obtain ⟨i3, ei3⟩ := is_v g9
  obtain rfl : w3 = (.int i3) := Option.some.inj ei3
  obtain ⟨n, o, h1, h2, h3, _, L, rfl, ⟨rfl, N⟩, hq⟩ := rm0 l s _ hw tables_1 i0 i1 i2 i3 s.heap s.heap.size (Nat.le_refl _)  p e ha hc hk s m _ below hf ((Spec.applies_iff_loose hf).mp happ).1 ⟨rfl, State.Warmed39.refl s, rfl⟩ trivial
  refine ⟨n, _, h1, h2, h3, hpost _ _ _ _ _ _ ⟨Cond.after_iff.mpr rfl, Cond.after_iff.mpr (eq_i res_at (Term.int_eval (1)) rfl), trivial⟩ ⟨hq.1, hq.2.1, (hq.2.2.sift fun y hy => Or.inr (N y hy)).mono (by decide) (by decide)⟩⟩
theorem main_1_1 : Claimed_1_1 := comes_1 fun _ _ _ _ _ _ h hF => ⟨h.1, hF⟩
theorem main_1_2 : Claimed_1_2 := comes_1 fun _ _ _ _ _ _ h hF => ⟨h.2.1, hF⟩
end Jvm.Pilot.@@N@@
namespace Jvm.Pilot.@@N@@
open Jvm Jvm.ClassFile Sem Op Lib Jvm.Free Jvm.Stand Jvm.Pilot.@@N@@.Jvm.D
/-! MADE BY PROGRAM (witnessworld.py) out of the Statement's table words and the real class files: 9 classes; the members and pool entries that the words name. The judged class is class 1, her method 1. -/
namespace start1
open Jvm.ClassFile
def u (s : String) : CpInfo := .utf8 (stringToUtf16 s)
/-- a pool by its gaps: so many unusable entries, then the entry; so many at the end -/
def gap : Nat → List CpInfo → List CpInfo
  | 0, r => r
  | n + 1, r => .unusable :: gap n r
def poolList (es : List (Nat × CpInfo)) (last : Nat) : List CpInfo := es.foldr (fun e r => gap e.1 (e.2 :: r)) (gap last [])
def pool (es : List (Nat × CpInfo)) (last : Nat) : Array CpInfo := ⟨poolList es last⟩
def fileOf (pool : Array CpInfo) (this : Nat) (attrs : Array Attribute := #[]) (ms : Array MethodInfo := #[]) (fl : Nat := 33) (sup : Nat := 0) (ifs : Array Nat := #[]) (fds : Array FieldInfo := #[]) : ClassFile where
  minorVersion := 0
  majorVersion := 65
  constantPool := pool
  accessFlags := fl
  thisClass := this
  superClass := sup
  interfaces := ifs
  fields := fds
  methods := ms
  attributes := attrs
def plain (name : String) (sup : Option ClassId) : Class where
  name := name
  kind := .ordinary
  loader := none
  accessFlags := 33
  super := sup
  interfaces := #[]
  cf := none
  fields := #[]
  methods := #[]
  instanceTypes := #[]
  staticTypes := #[]
  resolved := #[]
  callSites := []
  init := .initialized
  statics := none
  mirror := none

def pool0 : Array CpInfo := pool [(5, u "<init>"), (0, u "()V"), (1, .class_ 10), (1, u "java/lang/Object")] 113

def k0m0 : Method := { name := "<init>", desc := "()V", sig := { parameters := [], returnType := none }, accessFlags := 1, code := none }
/-- java/lang/Object -/
def k0 : Class := { plain "java/lang/Object" none with
  accessFlags := 33
  interfaces := #[]
  cf := some (fileOf pool0 8 #[] #[{ accessFlags := 1, nameIndex := 5, descriptorIndex := 6, attributes := #[] }] 33 0 #[] #[])
  fields := #[]
  methods := #[k0m0]
  instanceTypes := #[]
  staticTypes := #[]
  resolved := Array.replicate 124 none
  statics := none }

def pool1 : Array CpInfo := pool [(2, .class_ 4), (1, u "java/lang/Object"), (0, u "<init>"), (0, u "()V"), (0, .integer 2147483647), (0, .long 127), (1, .long 16383), (1, .long 128), (1, .long 2097151), (1, .long 192), (1, .long 268435455), (1, .long 224), (1, .long 4294967295), (1, .methodref 25 26), (0, .class_ 27), (0, .nameAndType 28 29), (0, u "com/example/parley/parley/sentence/WordLength"), (0, u "decode"), (0, u "([BI)J"), (0, .class_ 31), (0, u "com/example/parley/parley/sentence/WordLengthDecodePinLaw"), (2, u "law"), (0, u "(IIII)Z")] 5

def k1m0 : Method := { name := "<init>", desc := "()V", sig := { parameters := [], returnType := none }, accessFlags := 2, code := none }
def k1c1 : Code := { maxStack := 7, maxLocals := 8, code := code, exceptionTable := #[], attributes := #[] }
def k1m1 : Method := { name := "law", desc := "(IIII)Z", sig := { parameters := [.int, .int, .int, .int], returnType := some .boolean }, accessFlags := 9, code := some k1c1 }
/-- com/example/parley/parley/sentence/WordLengthDecodePinLaw -/
def k1 : Class := { plain "com/example/parley/parley/sentence/WordLengthDecodePinLaw" (some 0) with
  accessFlags := 49
  interfaces := #[]
  cf := some (fileOf pool1 30 #[] #[{ accessFlags := 2, nameIndex := 5, descriptorIndex := 6, attributes := #[] }, { accessFlags := 9, nameIndex := 34, descriptorIndex := 35, attributes := #[] }] 49 2 #[] #[])
  fields := #[]
  methods := #[k1m0, k1m1]
  instanceTypes := #[]
  staticTypes := #[]
  resolved := Array.replicate 41 none
  statics := none }

def pool2 : Array CpInfo := pool [(2, .class_ 4), (1, u "java/lang/Object"), (0, u "<init>"), (0, u "()V"), (2, .class_ 11), (1, u "com/example/parley/parley/sentence/WordLength"), (27, u "MAX_FIELD_SIZE"), (0, u "I"), (2, u "FIVE_BYTE_MARK"), (1, u "FIRST_CONTROL_BYTE"), (9, u "decode"), (0, u "([BI)J")] 2

def k2m0 : Method := { name := "<init>", desc := "()V", sig := { parameters := [], returnType := none }, accessFlags := 2, code := none }
def k2c1 : Code := { maxStack := 4, maxLocals := 5, code := prog_61_method_4_code, exceptionTable := #[], attributes := #[] }
def k2m1 : Method := { name := "decode", desc := "([BI)J", sig := { parameters := [(.array .byte), .int], returnType := some .long }, accessFlags := 8, code := some k2c1 }
/-- com/example/parley/parley/sentence/WordLength -/
def k2 : Class := { plain "com/example/parley/parley/sentence/WordLength" (some 0) with
  accessFlags := 48
  interfaces := #[]
  cf := some (fileOf pool2 9 #[] #[{ accessFlags := 2, nameIndex := 5, descriptorIndex := 6, attributes := #[] }, { accessFlags := 8, nameIndex := 55, descriptorIndex := 56, attributes := #[] }] 48 2 #[] #[{ accessFlags := 24, nameIndex := 39, descriptorIndex := 40, attributes := #[] }, { accessFlags := 26, nameIndex := 43, descriptorIndex := 40, attributes := #[] }, { accessFlags := 26, nameIndex := 45, descriptorIndex := 40, attributes := #[] }])
  fields := #[{ name := "MAX_FIELD_SIZE", type := .int, accessFlags := 24, slot := 0, constantValue := 0 }, { name := "FIVE_BYTE_MARK", type := .int, accessFlags := 26, slot := 1, constantValue := 0 }, { name := "FIRST_CONTROL_BYTE", type := .int, accessFlags := 26, slot := 2, constantValue := 0 }]
  methods := #[k2m0, k2m1]
  instanceTypes := #[]
  staticTypes := #[.int, .int, .int]
  resolved := Array.replicate 59 none
  statics := none }

def pool3 : Array CpInfo := pool [(1, u "java/lang/Cloneable"), (0, .class_ 1), (0, u "java/lang/Object"), (0, .class_ 3)] 3

/-- java/lang/Cloneable -/
def k3 : Class := { plain "java/lang/Cloneable" (some 0) with
  accessFlags := 1537
  interfaces := #[]
  cf := some (fileOf pool3 2 #[] #[] 1537 4 #[] #[])
  fields := #[]
  methods := #[]
  instanceTypes := #[]
  staticTypes := #[]
  resolved := Array.replicate 8 none
  statics := none }

def pool4 : Array CpInfo := pool [(1, u "java/io/Serializable"), (0, .class_ 1), (0, u "java/lang/Object"), (0, .class_ 3)] 3

/-- java/io/Serializable -/
def k4 : Class := { plain "java/io/Serializable" (some 0) with
  accessFlags := 1537
  interfaces := #[]
  cf := some (fileOf pool4 2 #[] #[] 1537 4 #[] #[])
  fields := #[]
  methods := #[]
  instanceTypes := #[]
  staticTypes := #[]
  resolved := Array.replicate 8 none
  statics := none }

/-- the primitive byte -/
def k5 : Class := { plain "byte" none with kind := .primitive 'B', accessFlags := 0x411 }
/-- [B -/
def k6 : Class := { plain "[B" (some 0) with kind := .array 5 .byte, interfaces := #[3, 4], accessFlags := 1041 }

/-- the primitive int -/
def k7 : Class := { plain "int" none with kind := .primitive 'I', accessFlags := 0x411 }
/-- [I -/
def k8 : Class := { plain "[I" (some 0) with kind := .array 7 .int, interfaces := #[3, 4], accessFlags := 1041 }

def heap : Heap := #[]
def classes : Array Class := #[k0, k1, k2, k3, k4, k5, k6, k7, k8]
def interned : List (Array UInt16 × Addr) := []
def slotsUsed : Nat := 0
def theMethod : MethodId := ⟨1, 1⟩
def args0 : Array Value := #[.int 5, .int 3, .int 4, .int 6]
def aboutOver (below : List Frame) : State where
  vm := { classes := classes, interned := interned.toArray }
  heap := heap
  slotsUsed := slotsUsed
  threads := #[{ frames := .invoking theMethod args0 :: below }]
def below0 : List Frame := [.native { method := ⟨0, 0⟩, args := #[] }]
def about1 : State := aboutOver below0
def p0 : Program := .bare "" "" ""
def e0 : Env := launch0.env 0 0 0
theorem w_frames : about1.frames = Frame.invoking theMethod args0 :: below0 := rfl
set_option maxRecDepth 65536 in
theorem w_args : argsFit about1.vm theMethod args0 = true := by decide +kernel
set_option maxRecDepth 65536 in
theorem w_heap : heapFits about1 = true := by decide +kernel
set_option maxRecDepth 65536 in
theorem w_runnable : about1.curStatus? = some .runnable := by decide +kernel
set_option maxRecDepth 65536 in
theorem w_alone : about1.alone = true := by decide +kernel
set_option maxRecDepth 65536 in
theorem w_named : about1.methodNamed? x = some theMethod := by decide +kernel
set_option maxRecDepth 65536 in
theorem w_hears : about1.hears theMethod below0 = true := by decide +kernel
set_option maxRecDepth 65536 in
theorem w_ripe : about1.ripe theMethod args0 below0 = true := by decide +kernel
theorem w_running : about1.status = .running := rfl
set_option maxRecDepth 65536 in
theorem w_room : about1.hasRoom e0.platform room_1 = true :=
  launch0.hasRoom_least _ room_1 (by decide +kernel) (by decide +kernel) (by decide +kernel) (by decide +kernel) (by decide +kernel) (by decide +kernel)
theorem allAtoms_all (ts : List Jvm.Cond) (a : Array Jvm.Value) (st : Jvm.State) : (allAtoms ts).before a st = ts.all (fun c => c.before a st) := by
  induction ts with
  | nil => rfl
  | cons c t ih =>
    show (Jvm.Cond.and c (allAtoms t)).before a st = _
    rw [Jvm.Cond.before_and, ih, List.all_cons]
def words1 : List Jvm.Cond := Jvm.Cond.code x code maxLocals ret :: tables_1
/-- a 'code' word, met by the world's own term for the bytes: nothing is compared byte by byte -/
theorem code_word {y : MethodName} {bytes : ByteArray} {mx : Nat} {rt : Option FieldType} {a : Array Value} {s : State} {m : MethodId} {meth : Method} {c : Code} (h1 : s.methodNamed? y = some m) (h2 : s.vm.method? m = some meth) (h3 : meth.code = some c) (h4 : c.code = bytes)
    (h5 : (c.maxLocals == mx && c.exceptionTable.isEmpty && decide (c.maxStack ≤ mostOperands) && decide (meth.sig.returnType = rt) && !meth.locks && decide (parseMethodDescriptor y.desc = some meth.sig)) = true) : (Jvm.Cond.code y bytes mx rt).before a s = true := by
  simp only [Bool.and_eq_true, beq_iff_eq, Bool.not_eq_true', decide_eq_true_eq] at h5
  obtain ⟨⟨⟨⟨⟨g1, g2⟩, g3⟩, g4⟩, g5⟩, g6⟩ := h5
  simp [Cond.before, Cond.holds, Cond.value, h1, h2, h3, h4, g1, g2, g3, g4, g5, g6]
def isCode : Jvm.Cond → Bool
  | .code _ _ _ _ => true
  | _ => false
theorem all_split {L : List Jvm.Cond} {P : Jvm.Cond → Bool} (h1 : L.all (fun c => isCode c || P c) = true) (h2 : ∀ c ∈ L.filter isCode, P c = true) : L.all P = true := by
  refine List.all_eq_true.mpr fun c hc => ?_
  have h := List.all_eq_true.mp h1 c hc
  rcases Bool.eq_false_or_eq_true (isCode c) with hi | hi
  · exact h2 c (List.mem_filter.mpr ⟨hc, hi⟩)
  · simpa [hi] using h
set_option maxRecDepth 65536 in
theorem w_c0 : (Jvm.Cond.code x code maxLocals ret).before args0 about1 = true := code_word (m := ⟨1, 1⟩) (meth := k1m1) (c := k1c1) (by decide +kernel) rfl rfl rfl (by decide +kernel)
set_option maxRecDepth 65536 in
theorem w_c1 : (Jvm.Cond.code ({ cls := "com/example/parley/parley/sentence/WordLength", name := "decode", desc := "([BI)J" } : Jvm.MethodName) prog_61_method_4_code (5 : Nat) (Option.some Jvm.ClassFile.FieldType.long)).before args0 about1 = true := code_word (m := ⟨2, 1⟩) (meth := k2m1) (c := k2c1) (by decide +kernel) rfl rfl rfl (by decide +kernel)
def codes1 : List Jvm.Cond := [Jvm.Cond.code x code maxLocals ret, Jvm.Cond.code ({ cls := "com/example/parley/parley/sentence/WordLength", name := "decode", desc := "([BI)J" } : Jvm.MethodName) prog_61_method_4_code (5 : Nat) (Option.some Jvm.ClassFile.FieldType.long)]
set_option maxRecDepth 65536 in
theorem codes_eq : words1.filter isCode = codes1 := rfl
theorem w_codes : ∀ c ∈ words1.filter isCode, c.before args0 about1 = true := by
  rw [codes_eq]
  intro c hc
  simp only [codes1, List.mem_cons, List.not_mem_nil, or_false] at hc
  rcases hc with rfl | rfl
  · exact w_c0
  · exact w_c1
set_option maxRecDepth 65536 in
theorem w_t1 : words1.all (fun c => isCode c || c.before args0 about1) = true := by decide +kernel
theorem w_tables : (allAtoms (Jvm.Cond.code x code maxLocals ret :: tables_1)).before args0 about1 = true := by
  rw [allAtoms_all]
  show words1.all (fun c => c.before args0 about1) = true
  refine all_split ?_ w_codes
  rw [w_t1]
set_option maxRecDepth 65536 in
theorem w_case : (Jvm.Cond.and given_1 narrow_1).before args0 about1 = true := by decide +kernel
theorem w_applies : (headSpec (Jvm.Cond.code x code maxLocals ret :: tables_1) room_1).applies x e0.platform about1 = true :=
  (Spec.applies_iff w_frames).mpr ⟨w_running, w_runnable, w_alone, w_named, w_hears, w_ripe, w_room, w_tables⟩
theorem atStart : AtStart classFile x code maxLocals ret World_1 tables_1 room_1 Calls_1 rest_1 Pre_1 launch0 p0 e0 about1 theMethod args0 below0 :=
  ⟨lists_1, trivial, launch0.admits_env _ _ _, launch0.least_env, fairChoices_fair.cas, fairChoices_fair.clock, w_frames, w_args, w_heap, w_applies, trivial, trivial, w_case⟩
end start1
theorem witness_1 : WitnessClaimed_1 := ⟨start1.p0, start1.e0, start1.about1, start1.theMethod, start1.args0, start1.below0, start1.atStart⟩
end Jvm.Pilot.@@N@@
