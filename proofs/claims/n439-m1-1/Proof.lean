import JvmDerived
import JvmDerived.Pilot.@@N@@Statement
import JvmDerived.Pilot.@@N@@Code
set_option linter.unusedVariables false
set_option linter.unusedSimpArgs false
namespace Jvm.Pilot.@@N@@
open Jvm Jvm.ClassFile Sem Op Lib Jvm.Free Jvm.Stand Jvm.LawKit Jvm.RoadKit Bundle Jvm.Pilot.@@N@@.Jvm.D
/-- what a walk must still come to -/
def OwnG (p : Program) (e : Env) (below : List Frame) (s : State) (C S : Nat) (Q : Option Value → Heap → List Loc → Prop) (A : State) : Prop :=
  ∃ s₂ o, Steps p.tables e below A s₂ ∧ s₂.status = .running ∧ Ended s₂ below o ∧ ∃ v L, o = .returned v ∧ Q v s₂.heap L ∧ FrameEnd s o s₂ L C S
theorem OwnG.go {p : Program} {e : Env} {below : List Frame} {s : State} {C S : Nat} {Q : Option Value → Heap → List Loc → Prop} {A B : State} (h : ∀ t, Steps p.tables e below A t → Steps p.tables e below B t) (k : OwnG p e below s C S Q A) : OwnG p e below s C S Q B := by
  obtain ⟨s₂, o, k1, k2⟩ := k
  exact ⟨s₂, o, h _ k1, k2⟩
theorem own_fin {p : Program} {l : Launch} {e : Env} {R : Room} {s : State} {m : MethodId} {args : Array Value} {below : List Frame} {meth : Method} {c : Code} {T : State} {locs : List Loc} {cells slots : Nat}
    (X : Stand p l e R s m args below meth c T locs cells slots) {C S : Nat} {Q : Option Value → Heap → List Loc → Prop} (hlocks : meth.locks = false) {v : Option Value} (hv : meth.sig.returnType = none → v = none) {A : State}
    (hst : ∀ fs, (∀ (f : JFrame) (acts : List Action), f.method = m → f.locked = none → f.entered = [] → (doReturn e (T.setTop f) acts v).1 = T.setFrames fs) → Steps p.tables e below A (T.setFrames fs))
    (hQ : Q v T.heap locs) (hc : cells ≤ C) (hs : slots ≤ S) : OwnG p e below s C S Q A := by
  obtain ⟨fs, hr, hrun, hended, hW, hsame⟩ := X.leave (v := v) hv hlocks
  exact ⟨_, _, hst fs hr, hrun, hended, v, locs, rfl, hQ, ⟨_, rfl⟩, hW, hsame.mono hc hs⟩
theorem own_lrem {p : Program} {l : Launch} {e : Env} {R : Room} {s : State} {m : MethodId} {args : Array Value} {below : List Frame} {meth : Method} {c : Code} {T : State} {locs : List Loc} {cells slots : Nat} {g : JFrame} {target : State}
    (X : Stand p l e R s m args below meth c T locs cells slots) (hx : p.tables.exec = Jvm.exec) (hg : g.method = m) {x y : Int64} {rest : List Value} (hd : decode c.code g.pc = .ok (.lrem, 1)) (hs : g.stack = .long y :: .long x :: rest) (hy : y ≠ 0)
    (hr : Steps p.tables e below (T.setTop { g with pc := g.pc + 1, stack := .long (x % y) :: rest }) target) : Steps p.tables e below (T.setTop g) target := by
  have q : x - x / y * y = x % y := lrem_mod x y
  exact XS.lrem X.here hx hg hd hs hy (by rw [q]; exact hr)
theorem own_lclt {a b : Int64} : lcmpW a b < 0 ↔ a < b := by
  unfold lcmpW
  by_cases h1 : a > b
  · simp only [h1, if_true]
    refine ⟨fun h => absurd h (by decide), fun h => ?_⟩
    rw [Int64.lt_iff_toInt_lt] at h; rw [gt_iff_lt, Int64.lt_iff_toInt_lt] at h1; omega
  · by_cases h2 : a = b
    · subst h2; simp [h1]
    · simp only [h1, h2, if_false]
      refine ⟨fun _ => ?_, fun _ => by decide⟩
      rw [gt_iff_lt, Int64.lt_iff_toInt_lt] at h1; rw [Int64.lt_iff_toInt_lt]
      have : a.toInt ≠ b.toInt := fun q => h2 (Int64.toInt_inj.mp q)
      omega
theorem own_lceq {a b : Int64} : lcmpW a b = 0 ↔ a = b := by
  unfold lcmpW
  by_cases h1 : a > b
  · simp only [h1, if_true]
    refine ⟨fun h => absurd h (by decide), fun h => ?_⟩
    subst h; rw [gt_iff_lt, Int64.lt_iff_toInt_lt] at h1; omega
  · by_cases h2 : a = b
    · subst h2; simp [h1]
    · simp only [h1, h2, if_false]
      exact ⟨fun h => absurd h (by decide), fun h => h.elim⟩
theorem own_lcgt {a b : Int64} : 0 < lcmpW a b ↔ b < a := by
  unfold lcmpW
  by_cases h1 : a > b
  · rw [if_pos h1]
    exact ⟨fun _ => h1, fun _ => by decide⟩
  · rw [if_neg h1]
    refine ⟨fun h => ?_, fun h => absurd h h1⟩
    by_cases h2 : a = b
    · rw [if_pos h2] at h; exact absurd h (by decide)
    · rw [if_neg h2] at h; exact absurd h (by decide)

theorem own_mask32 (x m : Int32) (h : 0 ≤ m.toInt) : 0 ≤ (x &&& m).toInt ∧ (x &&& m).toInt ≤ m.toInt := by
  have e : (x &&& m).toInt = (x.toBitVec &&& m.toBitVec).toInt := rfl
  have em : m.toInt = m.toBitVec.toInt := rfl
  have h1 : (x.toBitVec &&& m.toBitVec).toNat ≤ m.toBitVec.toNat := by rw [BitVec.toNat_and]; exact Nat.and_le_right
  have h2 := m.toBitVec.isLt
  rw [BitVec.toInt_eq_toNat_cond] at e em
  rw [em] at h
  rw [e, em]
  generalize (x.toBitVec &&& m.toBitVec).toNat = u at *
  generalize m.toBitVec.toNat = w at *
  split at h <;> split <;> omega
theorem own_mask64 (x m : Int64) (h : 0 ≤ m.toInt) : 0 ≤ (x &&& m).toInt ∧ (x &&& m).toInt ≤ m.toInt := by
  have e : (x &&& m).toInt = (x.toBitVec &&& m.toBitVec).toInt := rfl
  have em : m.toInt = m.toBitVec.toInt := rfl
  have h1 : (x.toBitVec &&& m.toBitVec).toNat ≤ m.toBitVec.toNat := by rw [BitVec.toNat_and]; exact Nat.and_le_right
  have h2 := m.toBitVec.isLt
  rw [BitVec.toInt_eq_toNat_cond] at e em
  rw [em] at h
  rw [e, em]
  generalize (x.toBitVec &&& m.toBitVec).toNat = u at *
  generalize m.toBitVec.toNat = w at *
  split at h <;> split <;> omega
theorem own_add32 {a b : Int32} (h1 : -2147483648 ≤ a.toInt + b.toInt) (h2 : a.toInt + b.toInt < 2147483648) : (a + b).toInt = a.toInt + b.toInt := by
  rw [Int32.toInt_add, Int.bmod_def]; omega
theorem own_sub32 {a b : Int32} (h1 : -2147483648 ≤ a.toInt - b.toInt) (h2 : a.toInt - b.toInt < 2147483648) : (a - b).toInt = a.toInt - b.toInt := by
  rw [Int32.toInt_sub, Int.bmod_def]; omega
theorem own_add64 {a b : Int64} (h1 : -9223372036854775808 ≤ a.toInt + b.toInt) (h2 : a.toInt + b.toInt < 9223372036854775808) : (a + b).toInt = a.toInt + b.toInt := by
  rw [Int64.toInt_add, Int.bmod_def]; omega
theorem own_sub64 {a b : Int64} (h1 : -9223372036854775808 ≤ a.toInt - b.toInt) (h2 : a.toInt - b.toInt < 9223372036854775808) : (a - b).toInt = a.toInt - b.toInt := by
  rw [Int64.toInt_sub, Int.bmod_def]; omega
theorem own_mul64 {a b : Int64} (h1 : -9223372036854775808 ≤ a.toInt * b.toInt) (h2 : a.toInt * b.toInt < 9223372036854775808) : (a * b).toInt = a.toInt * b.toInt := by
  rw [Int64.toInt_mul, Int.bmod_def]
  generalize a.toInt * b.toInt = z at *
  omega
theorem own_rem32 {a b : Int32} (h1 : 0 ≤ a.toInt) (h2 : 0 < b.toInt) : (a % b).toInt = a.toInt % b.toInt := by
  rw [Int32.toInt_mod, Int.tmod_eq_emod_of_nonneg h1]
theorem own_rem64 {a b : Int64} (h1 : 0 ≤ a.toInt) (h2 : 0 < b.toInt) : (a % b).toInt = a.toInt % b.toInt := by
  rw [Int64.toInt_mod, Int.tmod_eq_emod_of_nonneg h1]


def shr7 (x : Int64) : Int64 := ((x.toUInt64 >>> ((7 : Int32) &&& 0x3f).toInt64.toUInt64).toInt64)
def nl : Nat → Int64 → Nat
  | 0, _ => 1
  | k + 1, x => if x &&& (-128 : Int64) = 0 then 1 else 1 + nl k (shr7 x)
theorem own_nl_pos : ∀ (k : Nat) (x : Int64), 1 ≤ nl k x
  | 0, _ => Nat.le_refl _
  | k + 1, x => by unfold nl; split <;> omega
theorem own_nl_le : ∀ (k : Nat) (x : Int64), nl k x ≤ k + 1
  | 0, _ => Nat.le_refl _
  | k + 1, x => by have := own_nl_le k (shr7 x); unfold nl; split <;> omega
theorem own_shr7 (x : Int64) : (shr7 x).toUInt64.toNat = x.toUInt64.toNat / 128 := by
  have h : ((7 : Int32) &&& 0x3f).toInt64.toUInt64 = 7 := by decide
  unfold shr7
  rw [h]
  have : (x.toUInt64 >>> 7).toInt64.toUInt64 = x.toUInt64 >>> 7 := by simp
  rw [this, UInt64.toNat_shiftRight]
  simp [Nat.shiftRight_eq_div_pow]
theorem own_small (x : Int64) (h : x.toUInt64.toNat < 128) : x &&& (-128 : Int64) = 0 := by
  apply Int64.toBitVec_inj.mp
  have e : (x &&& (-128 : Int64)).toBitVec = x.toBitVec &&& 0xFFFFFFFFFFFFFF80#64 := rfl
  have e0 : (0 : Int64).toBitVec = 0#64 := rfl
  have h' : x.toBitVec.toNat < 128 := h
  rw [e, e0]
  apply BitVec.eq_of_getLsbD_eq
  intro i hi
  rw [BitVec.getLsbD_and, BitVec.getLsbD_zero]
  by_cases hi7 : i < 7
  · have : (0xFFFFFFFFFFFFFF80#64).getLsbD i = false := by
      have : i = 0 ∨ i = 1 ∨ i = 2 ∨ i = 3 ∨ i = 4 ∨ i = 5 ∨ i = 6 := by omega
      rcases this with rfl | rfl | rfl | rfl | rfl | rfl | rfl <;> decide
    rw [this, Bool.and_false]
  · have : x.toBitVec.getLsbD i = false := by
      apply Nat.testBit_lt_two_pow
      refine Nat.lt_of_lt_of_le h' ?_
      exact Nat.le_trans (by decide : 128 ≤ 2 ^ 7) (Nat.pow_le_pow_right (by decide) (by omega))
    rw [this, Bool.false_and]
theorem own_ofNat1 (s : Nat) : Int32.ofNat s + 1 = Int32.ofNat (s + 1) := by
  rw [Int32.ofNat_add]; rfl
theorem own_ofNat_toInt (s : Nat) (h : s < 300) : (Int32.ofNat s).toInt = s := Int32.toInt_ofNat_of_lt (by omega)
theorem own_ofNat_in (s : Nat) (h : s < 256) : ¬ (Int32.ofNat s < 0) ∧ Int32.ofNat s < 256 := by
  have e := own_ofNat_toInt s (by omega)
  have e0 : (0 : Int32).toInt = 0 := rfl
  have e1 : (256 : Int32).toInt = 256 := rfl
  rw [Int32.lt_iff_toInt_lt, Int32.lt_iff_toInt_lt, e]; omega
theorem own_ofNat_ne (s : Nat) (h : s < 256) : ¬ (Int32.ofNat s = 256) := by
  have e := own_ofNat_toInt s (by omega)
  have e1 : (256 : Int32).toInt = 256 := rfl
  rw [← Int32.toInt_inj, e]; omega
theorem own_ofNat_nat (s : Nat) (h : s < 256) : (Int32.ofNat s).toNatClampNeg = s := by
  have e := own_ofNat_toInt s (by omega)
  unfold Int32.toNatClampNeg
  rw [e]; rfl
theorem own_len (x : Int64) : ¬ (Int32.ofNat (nl 9 x) < 1) ∧ ¬ ((10 : Int32) < Int32.ofNat (nl 9 x)) := by
  have h1 := own_nl_pos 9 x
  have h2 := own_nl_le 9 x
  have e := own_ofNat_toInt (nl 9 x) (by omega)
  have e0 : (1 : Int32).toInt = 1 := rfl
  have e1 : (10 : Int32).toInt = 10 := rfl
  rw [Int32.lt_iff_toInt_lt, Int32.lt_iff_toInt_lt, e]; omega

/-- a byte array of 256 places at b, whatever they hold -/
def BA (Z : State) (h : Heap) (b : Addr) (k : ClassId) : Prop := ∃ vs : List Value, vs.length = 256 ∧ Arv Z h b k .byte (256 : Int32) vs (.int (0 : Int32))
theorem BA.ext {Z : State} {h h' : Heap} {b : Addr} {k : ClassId} (F : BA Z h b k) (E : Ext h h') : BA Z h' b k := by obtain ⟨vs, q, A⟩ := F; exact ⟨vs, q, A.ext E⟩
theorem BA.other {Z : State} {h h' : Heap} {a b : Addr} {k : ClassId} {sl : Nat} {v : Value} (F : BA Z h b k) (W : Wr h h' a sl v) (q : b ≠ a) : BA Z h' b k := by obtain ⟨vs, r, A⟩ := F; exact ⟨vs, r, A.other W q⟩
theorem BA.keep {Z : State} {h h' : Heap} {b : Addr} {k : ClassId} {ws : List Addr} (F : BA Z h b k) (K : Keep h h' ws) (q : b ∉ ws) : BA Z h' b k := by obtain ⟨vs, r, A⟩ := F; exact ⟨vs, r, A.keep K q⟩
theorem BA.lt {Z : State} {h : Heap} {b : Addr} {k : ClassId} (F : BA Z h b k) : b < h.size := by obtain ⟨vs, r, A⟩ := F; exact A.lt
theorem own_shr_lt {k : Nat} {x : Int64} (h : x.toUInt64.toNat < 2 ^ (7 * (k + 1) + 7)) : (shr7 x).toUInt64.toNat < 2 ^ (7 * k + 7) := by
  have e : 2 ^ (7 * (k + 1) + 7) = 128 * 2 ^ (7 * k + 7) := by
    rw [show 7 * (k + 1) + 7 = 7 + (7 * k + 7) by omega, Nat.pow_add]
  rw [e] at h
  rw [own_shr7]
  generalize 2 ^ (7 * k + 7) = w at h
  omega
theorem own_nl_hit {k : Nat} {x : Int64} (h : x &&& (-128 : Int64) = 0) : nl (k + 1) x = 1 := by rw [nl, if_pos h]
theorem own_nl_miss {k : Nat} {x : Int64} (h : ¬ (x &&& (-128 : Int64) = 0)) : nl (k + 1) x = 1 + nl k (shr7 x) := by rw [nl, if_neg h]

theorem d1_0 : decode prog_26_method_1_code 0 = .ok (.aload_n 0, 1) := by decide +kernel
theorem d1_1 : decode prog_26_method_1_code 1 = .ok (.invokespecial 1, 3) := by decide +kernel
theorem d1_4 : decode prog_26_method_1_code 4 = .ok (.aload_n 0, 1) := by decide +kernel
theorem d1_5 : decode prog_26_method_1_code 5 = .ok (.sipush 256, 3) := by decide +kernel
theorem d1_8 : decode prog_26_method_1_code 8 = .ok (.newarray .byte, 2) := by decide +kernel
theorem d1_10 : decode prog_26_method_1_code 10 = .ok (.putfield 9, 3) := by decide +kernel
theorem d1_13 : decode prog_26_method_1_code 13 = .ok (.return_, 1) := by decide +kernel
theorem pn_1 : plainName "com/example/kerros/kerros/log/ChangeCodec$Output" = true := by first | (simp [plainName, overriddenIn]; done) | decide +kernel
theorem ef_rm1 (m : MethodId) (a1 : Addr) : entryFrame m #[(.ref a1)] 1 = mkF m 0 #[.val (.ref a1)] [] := by first | (simp [entryFrame, mkF, argsToLocals, Value.category]; done) | rfl
def Q1 (Z : State) (a1 : Addr) (h0 : Heap) (n0 : Nat) (v : Option Value) (h : Heap) (L : List Loc) : Prop := ∃ (b : Addr) (k : ClassId), v = none ∧ Fr n0 L ∧ Keep h0 h [a1] ∧ h0.size ≤ b ∧ Fld Z h a1 "com/example/kerros/kerros/log/ChangeCodec$Output" "bytes" "[B" (.ref b) ∧ Fld Z h a1 "com/example/kerros/kerros/log/ChangeCodec$Output" "size" "I" (.int (Int32.ofNat 0)) ∧ BA Z h b k
set_option maxRecDepth 65536 in
set_option maxHeartbeats 40000000 in
theorem rm1 (l : Launch) (Z : State) (a0 : Array Value) (hw : ∀ d ∈ tables_1, d.before a0 Z = true) (ws : List Jvm.Cond) (a1 : Addr) (h0 : Heap) (n0 : Nat) (Z0 : n0 ≤ h0.size) (Fb : Fld Z h0 a1 "com/example/kerros/kerros/log/ChangeCodec$Output" "bytes" "[B" .null) (Fs : Fld Z h0 a1 "com/example/kerros/kerros/log/ChangeCodec$Output" "size" "I" (.int (Int32.ofNat 0))) (E : Exa Z h0 a1 "com/example/kerros/kerros/log/ChangeCodec$Output") (g_a1 : n0 ≤ a1) :
    MetFree l (⟨"com/example/kerros/kerros/log/ChangeCodec$Output", "<init>", "()V"⟩ : MethodName) (head1 (Jvm.Cond.code (⟨"com/example/kerros/kerros/log/ChangeCodec$Output", "<init>", "()V"⟩ : MethodName) prog_26_method_1_code 1 none :: ws) ({ frames := 1, cells := 1, slots := 256, locals := 12 } : Room)) (fun a U => a = #[(.ref a1)] ∧ Z.Warmed39 U.vm ∧ U.heap = h0) (fun _ _ _ _ _ => True) (fun _ U o U' => ∃ v L, o = .returned v ∧ Q1 Z a1 h0 n0 v U'.heap L ∧ FrameEnd U o U' L ({ frames := 1, cells := 1, slots := 256, locals := 12 } : Room).cells ({ frames := 1, cells := 1, slots := 256, locals := 12 } : Room).slots) := by
  refine MetFree.of_bodySF (plainFor_of_name pn_1) hisR ?_
  intro p e s m args below meth c s₁ Bd hml0 hP hK
  obtain ⟨rfl, hZ, hh⟩ := hP
  have hx := Bd.exec
  have hby := Bd.bytes
  have hml : c.maxLocals = 1 := hml0
  have hown : s.vm.findClass "com/example/kerros/kerros/log/ChangeCodec$Output" = some m.cls := findClass_of_methodNamed Bd.named
  have hnm := (name_of_methodNamed Bd.named Bd.method).1
  have X0 : Stand p l e ({ frames := 1, cells := 1, slots := 256, locals := 12 } : Room) s m #[(.ref a1)] below meth c s₁ [] 0 0 := Stand.of_body Bd
  have e0 : s₁.heap = h0 := by rw [← hh, Bd.state]; rfl
  have N0 := Fr.nil n0
  obtain ⟨G, hG⟩ : ∃ G : State → Prop, G = OwnG p e below s ({ frames := 1, cells := 1, slots := 256, locals := 12 } : Room).cells ({ frames := 1, cells := 1, slots := 256, locals := 12 } : Room).slots (Q1 Z a1 h0 n0) := ⟨_, rfl⟩
  have go : ∀ {A B : State}, (∀ t, Steps p.tables e below A t → Steps p.tables e below B t) → G A → G B := fun h k => by rw [hG] at k ⊢; exact OwnG.go h k
  suffices k0 : G (s₁.setTop (mkF m 0 #[.val (.ref a1)] [])) by
    rw [hG] at k0; exact OwnG.go (fun t k => castTop (ef_rm1 m a1) k) k0
  have K0 : Keep h0 h0 [a1] := Keep.refl _ _
  refine go (fun _ k => XS.aloadN X0.here hx rfl (hb hby d1_0) rfl rfl k) ?_
  show G (s₁.setTop (mkF m 1 #[.val (.ref a1)] [(.ref a1)]))
  obtain ⟨T1, X1, e1, st1⟩ := initO X0 hx hZ hown (hw _ (List.mem_of_getElem? (i := 6) rfl)) (hw _ (List.mem_of_getElem? (i := 7) rfl)) (hw _ (List.mem_of_getElem? (i := 8) rfl)) e0 (g := (mkF m 1 #[.val (.ref a1)] [(.ref a1)])) rfl (by rw [hml]; rfl) rfl (hb hby d1_1) (by decide) (W := 0) (by show 2 * 0 + _ ≤ _; exact Nat.le_of_eq rfl) (by decide)
  refine go st1 ?_
  show G (T1.setTop (mkF m 4 #[.val (.ref a1)] []))
  refine go (fun _ k => XS.aloadN X1.here hx rfl (hb hby d1_4) rfl rfl k) ?_
  show G (T1.setTop (mkF m 5 #[.val (.ref a1)] [(.ref a1)]))
  refine go (fun _ k => XS.sipush X1.here hx rfl (hb hby d1_5) k) ?_
  show G (T1.setTop (mkF m 8 #[.val (.ref a1)] [(.int (256 : Int32)), (.ref a1)]))
  obtain ⟨T2, h2, k2, X2, e2, E2, A2, B2, st2⟩ := newPE X1 hx hZ (hw _ (List.mem_of_getElem? (i := 9) rfl)) e1 (g := (mkF m 8 #[.val (.ref a1)] [(.int (256 : Int32)), (.ref a1)])) rfl (hb hby d1_8) rfl (by decide) (cap := 256) (by decide) (by decide) (by decide) (by decide) (ad := "[B") (by decide)
  obtain ⟨b2, ga2⟩ : ∃ z, z = h0.size := ⟨_, rfl⟩
  have ne_a1_b2 : a1 ≠ b2 := Nat.ne_of_lt (Nat.lt_of_lt_of_le E.lt (Nat.le_of_eq ga2.symm))
  have g_b2 : n0 ≤ b2 := Nat.le_trans Z0 (Nat.le_of_eq ga2.symm)
  have sz_b2 : h0.size ≤ b2 := Nat.le_trans K0.1 (Nat.le_of_eq ga2.symm)
  rw [← ga2] at A2 B2 st2
  have f3 := E.ext E2
  have f4 := Fb.ext E2
  have f5 := Fs.ext E2
  have K2 : Keep h0 h2 [a1] := K0.ext E2
  have Zs2 : n0 ≤ h2.size := Nat.le_trans Z0 E2.1
  have V2 := Arv.new A2 (by decide)
  have V2b : BA Z h2 b2 k2 := ⟨_, List.length_replicate, V2.pad (pad_rep [] (.int (0 : Int32)) 256)⟩
  refine go st2 ?_
  show G (T2.setTop (mkF m 10 #[.val (.ref a1)] [(.ref b2), (.ref a1)]))
  obtain ⟨T6, h6, X6, e6, W6, st6⟩ := putF X2 hx hZ hown (host := "") (Or.inl (hw _ (List.mem_of_getElem? (i := 10) rfl))) Via.refl e2 f4 f3 (Or.inl (hw _ (List.mem_of_getElem? (i := 11) rfl))) (hw _ (List.mem_of_getElem? (i := 1) rfl)) (ty := (.array .byte)) (by decide) rfl rfl (g := (mkF m 10 #[.val (.ref a1)] [(.ref b2), (.ref a1)])) rfl rfl (hb hby d1_10)
  have f7 := f3.wr W6
  have f8 := f5.other W6 (Or.inr (slot_ne (Or.inl (hw _ (List.mem_of_getElem? (i := 24) rfl))) (Or.inl (hw _ (List.mem_of_getElem? (i := 11) rfl))) (by decide) (t := .int) (t' := (.array .byte)) (by decide) (by decide)))
  have f9 := B2.wr W6
  have f10 := V2b.other W6 (Ne.symm ne_a1_b2)
  have K6 : Keep h0 h6 [a1] := K2.wr W6 (Or.inl (List.mem_of_getElem? (i := 0) rfl))
  have Zs6 : n0 ≤ h6.size := Nat.le_trans Zs2 (Keep.of_wr W6).1
  have N6 := Fr.snoc X6 N0 g_a1
  have Fw6 := f4.same W6
  refine go st6 ?_
  show G (T6.setTop (mkF m 13 #[.val (.ref a1)] []))
  rw [hG]
  refine own_fin X6 Bd.notSynchronized (v := none) (fun _ => rfl) (fun fs hr => X6.returnOut hx Bd.returns (hb hby d1_13) hr) ?_ (by decide) (by decide)
  show Q1 Z a1 h0 n0 (none) T6.heap _
  rw [e6]
  exact ⟨b2, k2, rfl, N6, K6, sz_b2, Fw6, f8, f10⟩

theorem d4_0 : decode prog_26_method_5_code 0 = .ok (.aload_n 0, 1) := by decide +kernel
theorem d4_1 : decode prog_26_method_5_code 1 = .ok (.getfield 13, 3) := by decide +kernel
theorem d4_4 : decode prog_26_method_5_code 4 = .ok (.aload_n 0, 1) := by decide +kernel
theorem d4_5 : decode prog_26_method_5_code 5 = .ok (.getfield 9, 3) := by decide +kernel
theorem d4_8 : decode prog_26_method_5_code 8 = .ok (.arraylength, 1) := by decide +kernel
theorem d4_9 : decode prog_26_method_5_code 9 = .ok (.if_icmp .ne 21, 3) := by decide +kernel
theorem d4_30 : decode prog_26_method_5_code 30 = .ok (.aload_n 0, 1) := by decide +kernel
theorem d4_31 : decode prog_26_method_5_code 31 = .ok (.getfield 9, 3) := by decide +kernel
theorem d4_34 : decode prog_26_method_5_code 34 = .ok (.aload_n 0, 1) := by decide +kernel
theorem d4_35 : decode prog_26_method_5_code 35 = .ok (.getfield 13, 3) := by decide +kernel
theorem d4_38 : decode prog_26_method_5_code 38 = .ok (.iload_n 1, 1) := by decide +kernel
theorem d4_39 : decode prog_26_method_5_code 39 = .ok (.bastore, 1) := by decide +kernel
theorem d4_40 : decode prog_26_method_5_code 40 = .ok (.aload_n 0, 1) := by decide +kernel
theorem d4_41 : decode prog_26_method_5_code 41 = .ok (.dup, 1) := by decide +kernel
theorem d4_42 : decode prog_26_method_5_code 42 = .ok (.getfield 13, 3) := by decide +kernel
theorem d4_45 : decode prog_26_method_5_code 45 = .ok (.iconst 1, 1) := by decide +kernel
theorem d4_46 : decode prog_26_method_5_code 46 = .ok (.iadd, 1) := by decide +kernel
theorem d4_47 : decode prog_26_method_5_code 47 = .ok (.putfield 13, 3) := by decide +kernel
theorem d4_50 : decode prog_26_method_5_code 50 = .ok (.return_, 1) := by decide +kernel
theorem pn_4 : plainName "com/example/kerros/kerros/log/ChangeCodec$Output" = true := by first | (simp [plainName, overriddenIn]; done) | decide +kernel
theorem ef_rm4 (m : MethodId) (a1 : Addr) (p2 : Int32) : entryFrame m #[(.ref a1), (.int p2)] 2 = mkF m 0 #[.val (.ref a1), .val (.int p2)] [] := by first | (simp [entryFrame, mkF, argsToLocals, Value.category]; done) | rfl
def Q4 (Z : State) (a1 : Addr) (p2 : Int32) (b : Addr) (k : ClassId) (sz : Nat) (h0 : Heap) (n0 : Nat) (v : Option Value) (h : Heap) (L : List Loc) : Prop := v = none ∧ Fr n0 L ∧ Keep h0 h [a1, b] ∧ Fld Z h a1 "com/example/kerros/kerros/log/ChangeCodec$Output" "bytes" "[B" (.ref b) ∧ Fld Z h a1 "com/example/kerros/kerros/log/ChangeCodec$Output" "size" "I" (.int (Int32.ofNat (sz + 1))) ∧ BA Z h b k
set_option maxRecDepth 65536 in
set_option maxHeartbeats 40000000 in
theorem rm4 (l : Launch) (Z : State) (a0 : Array Value) (hw : ∀ d ∈ tables_1, d.before a0 Z = true) (ws : List Jvm.Cond) (a1 : Addr) (p2 : Int32) (b : Addr) (k : ClassId) (sz : Nat) (h0 : Heap) (n0 : Nat) (Z0 : n0 ≤ h0.size) (Fb : Fld Z h0 a1 "com/example/kerros/kerros/log/ChangeCodec$Output" "bytes" "[B" (.ref b)) (Fs : Fld Z h0 a1 "com/example/kerros/kerros/log/ChangeCodec$Output" "size" "I" (.int (Int32.ofNat sz))) (E : Exa Z h0 a1 "com/example/kerros/kerros/log/ChangeCodec$Output") (VB0 : BA Z h0 b k) (hne : a1 ≠ b) (g_a1 : n0 ≤ a1) (g_b : n0 ≤ b) (hsz : sz < 256) :
    MetFree l (⟨"com/example/kerros/kerros/log/ChangeCodec$Output", "put", "(B)V"⟩ : MethodName) (head1 (Jvm.Cond.code (⟨"com/example/kerros/kerros/log/ChangeCodec$Output", "put", "(B)V"⟩ : MethodName) prog_26_method_5_code 2 none :: ws) ({ frames := 0, cells := 0, slots := 0, locals := 0 } : Room)) (fun a U => a = #[(.ref a1), (.int p2)] ∧ Z.Warmed39 U.vm ∧ U.heap = h0) (fun _ _ _ _ _ => True) (fun _ U o U' => ∃ v L, o = .returned v ∧ Q4 Z a1 p2 b k sz h0 n0 v U'.heap L ∧ FrameEnd U o U' L ({ frames := 0, cells := 0, slots := 0, locals := 0 } : Room).cells ({ frames := 0, cells := 0, slots := 0, locals := 0 } : Room).slots) := by
  refine MetFree.of_bodySF (plainFor_of_name pn_4) hisR ?_
  intro p e s m args below meth c s₁ Bd hml0 hP hK
  obtain ⟨rfl, hZ, hh⟩ := hP
  have hx := Bd.exec
  have hby := Bd.bytes
  have hml : c.maxLocals = 2 := hml0
  have hown : s.vm.findClass "com/example/kerros/kerros/log/ChangeCodec$Output" = some m.cls := findClass_of_methodNamed Bd.named
  have hnm := (name_of_methodNamed Bd.named Bd.method).1
  have X0 : Stand p l e ({ frames := 0, cells := 0, slots := 0, locals := 0 } : Room) s m #[(.ref a1), (.int p2)] below meth c s₁ [] 0 0 := Stand.of_body Bd
  have e0 : s₁.heap = h0 := by rw [← hh, Bd.state]; rfl
  have N0 := Fr.nil n0
  obtain ⟨G, hG⟩ : ∃ G : State → Prop, G = OwnG p e below s ({ frames := 0, cells := 0, slots := 0, locals := 0 } : Room).cells ({ frames := 0, cells := 0, slots := 0, locals := 0 } : Room).slots (Q4 Z a1 p2 b k sz h0 n0) := ⟨_, rfl⟩
  have go : ∀ {A B : State}, (∀ t, Steps p.tables e below A t → Steps p.tables e below B t) → G A → G B := fun h k => by rw [hG] at k ⊢; exact OwnG.go h k
  suffices k0 : G (s₁.setTop (mkF m 0 #[.val (.ref a1), .val (.int p2)] [])) by
    rw [hG] at k0; exact OwnG.go (fun t k => castTop (ef_rm4 m a1 p2) k) k0
  have K0 : Keep h0 h0 [a1, b] := Keep.refl _ _
  refine go (fun _ k => XS.aloadN X0.here hx rfl (hb hby d4_0) rfl rfl k) ?_
  show G (s₁.setTop (mkF m 1 #[.val (.ref a1), .val (.int p2)] [(.ref a1)]))
  obtain ⟨T1, X1, e1, st1⟩ := getF X0 hx hZ hown (host := "") (Or.inl (hw _ (List.mem_of_getElem? (i := 23) rfl))) Via.refl e0 Fs (g := (mkF m 1 #[.val (.ref a1), .val (.int p2)] [(.ref a1)])) rfl rfl (hb hby d4_1)
  refine go st1 ?_
  show G (T1.setTop (mkF m 4 #[.val (.ref a1), .val (.int p2)] [(.int (Int32.ofNat sz))]))
  refine go (fun _ k => XS.aloadN X1.here hx rfl (hb hby d4_4) rfl rfl k) ?_
  show G (T1.setTop (mkF m 5 #[.val (.ref a1), .val (.int p2)] [(.ref a1), (.int (Int32.ofNat sz))]))
  obtain ⟨T2, X2, e2, st2⟩ := getF X1 hx hZ hown (host := "") (Or.inl (hw _ (List.mem_of_getElem? (i := 10) rfl))) Via.refl e1 Fb (g := (mkF m 5 #[.val (.ref a1), .val (.int p2)] [(.ref a1), (.int (Int32.ofNat sz))])) rfl rfl (hb hby d4_5)
  refine go st2 ?_
  show G (T2.setTop (mkF m 8 #[.val (.ref a1), .val (.int p2)] [(.ref b), (.int (Int32.ofNat sz))]))
  obtain ⟨vb3, lb3, VB3⟩ := id VB0
  obtain ⟨cl4, Ar4, qk4, qs4, qn4, qh4, qg4⟩ := id VB3
  refine go (X2.arraylength hx (by rw [e2]; exact Ar4.1) (State.isArrayOf_alike hZ.alike Ar4.2.1) (g := (mkF m 8 #[.val (.ref a1), .val (.int p2)] [(.ref b), (.int (Int32.ofNat sz))])) rfl rfl (hb hby d4_8)) ?_
  rw [len_of qs4 qn4]
  show G (T2.setTop (mkF m 9 #[.val (.ref a1), .val (.int p2)] [(.int (256 : Int32)), (.int (Int32.ofNat sz))]))
  have hc5 : ¬ ((Int32.ofNat sz) = (256 : Int32)) := own_ofNat_ne sz hsz
  refine go (fun _ k => XS.icmpYes X2.here hx rfl (pc0 := 9) (pc' := 30) rfl (hb hby d4_9) rfl (feq hc5).2 (by decide) (by decide) k) ?_
  show G (T2.setTop (mkF m 30 #[.val (.ref a1), .val (.int p2)] []))
  refine go (fun _ k => XS.aloadN X2.here hx rfl (hb hby d4_30) rfl rfl k) ?_
  show G (T2.setTop (mkF m 31 #[.val (.ref a1), .val (.int p2)] [(.ref a1)]))
  obtain ⟨T6, X6, e6, st6⟩ := getF X2 hx hZ hown (host := "") (Or.inl (hw _ (List.mem_of_getElem? (i := 10) rfl))) Via.refl e2 Fb (g := (mkF m 31 #[.val (.ref a1), .val (.int p2)] [(.ref a1)])) rfl rfl (hb hby d4_31)
  refine go st6 ?_
  show G (T6.setTop (mkF m 34 #[.val (.ref a1), .val (.int p2)] [(.ref b)]))
  refine go (fun _ k => XS.aloadN X6.here hx rfl (hb hby d4_34) rfl rfl k) ?_
  show G (T6.setTop (mkF m 35 #[.val (.ref a1), .val (.int p2)] [(.ref a1), (.ref b)]))
  obtain ⟨T7, X7, e7, st7⟩ := getF X6 hx hZ hown (host := "") (Or.inl (hw _ (List.mem_of_getElem? (i := 23) rfl))) Via.refl e6 Fs (g := (mkF m 35 #[.val (.ref a1), .val (.int p2)] [(.ref a1), (.ref b)])) rfl rfl (hb hby d4_35)
  refine go st7 ?_
  show G (T7.setTop (mkF m 38 #[.val (.ref a1), .val (.int p2)] [(.int (Int32.ofNat sz)), (.ref b)]))
  refine go (fun _ k => XS.iloadN X7.here hx rfl (hb hby d4_38) rfl k) ?_
  show G (T7.setTop (mkF m 39 #[.val (.ref a1), .val (.int p2)] [(.int p2), (.int (Int32.ofNat sz)), (.ref b)]))
  obtain ⟨vb8, lb8, VB8⟩ := id VB0
  obtain ⟨cl9, Ar9, qk9, qs9, qn9, qh9, qg9⟩ := id VB8
  obtain ⟨T9, h9, X9, e9, W9, st9⟩ := stB X7 hx hZ e7 Ar9 (j := (Int32.ofNat sz)) (inb_of qs9 (own_ofNat_in sz hsz)) (g := (mkF m 39 #[.val (.ref a1), .val (.int p2)] [(.int p2), (.int (Int32.ofNat sz)), (.ref b)])) rfl rfl (hb hby d4_39)
  have V9 : Arv Z h9 b k .byte (256 : Int32) (vb8.set (sz) (.int (nar .byte p2))) (.int (0 : Int32)) := Arv.set Ar9 qk9 qs9 qn9 qh9 qg9 (fits_nar_byte _) W9 (sz) (own_ofNat_nat sz hsz) (by rw [lb8]; exact hsz)
  have f10 := E.wr W9
  have f11 := Fb.other W9 (Or.inl hne)
  have f12 := Fs.other W9 (Or.inl hne)
  have K9 : Keep h0 h9 [a1, b] := K0.wr W9 (Or.inl (List.mem_of_getElem? (i := 1) rfl))
  have Zs9 : n0 ≤ h9.size := Nat.le_trans Z0 (Keep.of_wr W9).1
  have N9 := Fr.snoc X9 N0 g_b
  have V9b : BA Z h9 b k := ⟨_, by rw [List.length_set]; exact lb8, V9⟩
  refine go st9 ?_
  show G (T9.setTop (mkF m 40 #[.val (.ref a1), .val (.int p2)] []))
  refine go (fun _ k => XS.aloadN X9.here hx rfl (hb hby d4_40) rfl rfl k) ?_
  show G (T9.setTop (mkF m 41 #[.val (.ref a1), .val (.int p2)] [(.ref a1)]))
  refine go (fun _ k => XS.dup X9.here hx rfl (hb hby d4_41) rfl rfl k) ?_
  show G (T9.setTop (mkF m 42 #[.val (.ref a1), .val (.int p2)] [(.ref a1), (.ref a1)]))
  obtain ⟨T13, X13, e13, st13⟩ := getF X9 hx hZ hown (host := "") (Or.inl (hw _ (List.mem_of_getElem? (i := 23) rfl))) Via.refl e9 f12 (g := (mkF m 42 #[.val (.ref a1), .val (.int p2)] [(.ref a1), (.ref a1)])) rfl rfl (hb hby d4_42)
  refine go st13 ?_
  show G (T13.setTop (mkF m 45 #[.val (.ref a1), .val (.int p2)] [(.int (Int32.ofNat sz)), (.ref a1)]))
  refine go (fun _ k => XS.iconst X13.here hx rfl (hb hby d4_45) k) ?_
  show G (T13.setTop (mkF m 46 #[.val (.ref a1), .val (.int p2)] [(.int (1 : Int32)), (.int (Int32.ofNat sz)), (.ref a1)]))
  refine go (fun _ k => XS.iadd X13.here hx rfl (hb hby d4_46) rfl k) ?_
  show G (T13.setTop (mkF m 47 #[.val (.ref a1), .val (.int p2)] [(.int ((Int32.ofNat sz) + (1 : Int32))), (.ref a1)]))
  obtain ⟨T14, h14, X14, e14, W14, st14⟩ := putF X13 hx hZ hown (host := "") (Or.inl (hw _ (List.mem_of_getElem? (i := 23) rfl))) Via.refl e13 f12 f10 (Or.inl (hw _ (List.mem_of_getElem? (i := 24) rfl))) (hw _ (List.mem_of_getElem? (i := 1) rfl)) (ty := .int) (by decide) rfl rfl (g := (mkF m 47 #[.val (.ref a1), .val (.int p2)] [(.int ((Int32.ofNat sz) + (1 : Int32))), (.ref a1)])) rfl rfl (hb hby d4_47)
  have f15 := f10.wr W14
  have f16 := f11.other W14 (Or.inr (slot_ne (Or.inl (hw _ (List.mem_of_getElem? (i := 11) rfl))) (Or.inl (hw _ (List.mem_of_getElem? (i := 24) rfl))) (by decide) (t := (.array .byte)) (t' := .int) (by decide) (by decide)))
  have f17 := V9b.other W14 (Ne.symm hne)
  have K14 : Keep h0 h14 [a1, b] := K9.wr W14 (Or.inl (List.mem_of_getElem? (i := 0) rfl))
  have Zs14 : n0 ≤ h14.size := Nat.le_trans Zs9 (Keep.of_wr W14).1
  have N14 := Fr.snoc X14 N9 g_a1
  have Fw14 := f12.same W14
  refine go st14 ?_
  show G (T14.setTop (mkF m 50 #[.val (.ref a1), .val (.int p2)] []))
  have Fw14n : Fld Z h14 a1 "com/example/kerros/kerros/log/ChangeCodec$Output" "size" "I" (.int (Int32.ofNat (sz + 1))) := own_ofNat1 sz ▸ Fw14
  rw [hG]
  refine own_fin X14 Bd.notSynchronized (v := none) (fun _ => rfl) (fun fs hr => X14.returnOut hx Bd.returns (hb hby d4_50) hr) ?_ (by decide) (by decide)
  show Q4 Z a1 p2 b k sz h0 n0 (none) T14.heap _
  rw [e14]
  exact ⟨rfl, N14, K14, f16, Fw14n, f17⟩

theorem d3_0 : decode prog_26_method_6_code 0 = .ok (.lload_n 1, 1) := by decide +kernel
theorem d3_1 : decode prog_26_method_6_code 1 = .ok (.lstore_n 3, 1) := by decide +kernel
theorem d3_2 : decode prog_26_method_6_code 2 = .ok (.lload_n 3, 1) := by decide +kernel
theorem d3_3 : decode prog_26_method_6_code 3 = .ok (.ldc2_w 30, 3) := by decide +kernel
theorem d3_6 : decode prog_26_method_6_code 6 = .ok (.land, 1) := by decide +kernel
theorem d3_7 : decode prog_26_method_6_code 7 = .ok (.lconst 0, 1) := by decide +kernel
theorem d3_8 : decode prog_26_method_6_code 8 = .ok (.lcmp, 1) := by decide +kernel
theorem d3_9 : decode prog_26_method_6_code 9 = .ok (.ifCond .eq 26, 3) := by decide +kernel
theorem d3_12 : decode prog_26_method_6_code 12 = .ok (.aload_n 0, 1) := by decide +kernel
theorem d3_13 : decode prog_26_method_6_code 13 = .ok (.lload_n 3, 1) := by decide +kernel
theorem d3_14 : decode prog_26_method_6_code 14 = .ok (.ldc2_w 32, 3) := by decide +kernel
theorem d3_17 : decode prog_26_method_6_code 17 = .ok (.land, 1) := by decide +kernel
theorem d3_18 : decode prog_26_method_6_code 18 = .ok (.ldc2_w 34, 3) := by decide +kernel
theorem d3_21 : decode prog_26_method_6_code 21 = .ok (.lor, 1) := by decide +kernel
theorem d3_22 : decode prog_26_method_6_code 22 = .ok (.l2i, 1) := by decide +kernel
theorem d3_23 : decode prog_26_method_6_code 23 = .ok (.i2b, 1) := by decide +kernel
theorem d3_24 : decode prog_26_method_6_code 24 = .ok (.invokevirtual 36, 3) := by decide +kernel
theorem d3_27 : decode prog_26_method_6_code 27 = .ok (.lload_n 3, 1) := by decide +kernel
theorem d3_28 : decode prog_26_method_6_code 28 = .ok (.bipush 7, 2) := by decide +kernel
theorem d3_30 : decode prog_26_method_6_code 30 = .ok (.lushr, 1) := by decide +kernel
theorem d3_31 : decode prog_26_method_6_code 31 = .ok (.lstore_n 3, 1) := by decide +kernel
theorem d3_32 : decode prog_26_method_6_code 32 = .ok (.goto (-30), 3) := by decide +kernel
theorem d3_35 : decode prog_26_method_6_code 35 = .ok (.aload_n 0, 1) := by decide +kernel
theorem d3_36 : decode prog_26_method_6_code 36 = .ok (.lload_n 3, 1) := by decide +kernel
theorem d3_37 : decode prog_26_method_6_code 37 = .ok (.l2i, 1) := by decide +kernel
theorem d3_38 : decode prog_26_method_6_code 38 = .ok (.i2b, 1) := by decide +kernel
theorem d3_39 : decode prog_26_method_6_code 39 = .ok (.invokevirtual 36, 3) := by decide +kernel
theorem d3_42 : decode prog_26_method_6_code 42 = .ok (.return_, 1) := by decide +kernel
theorem pn_3 : plainName "com/example/kerros/kerros/log/ChangeCodec$Output" = true := by first | (simp [plainName, overriddenIn]; done) | decide +kernel
theorem pd_3_0 : parseMethodDescriptor "(B)V" = some ⟨[.byte], none⟩ := by decide +kernel
theorem ef_rm3 (m : MethodId) (a1 : Addr) (q2 : Int64) : entryFrame m #[(.ref a1), (.long q2)] 5 = mkF m 0 #[.val (.ref a1), .val (.long q2), .second, .unset, .unset] [] := by first | (simp [entryFrame, mkF, argsToLocals, Value.category]; done) | rfl
def Q3 (Z : State) (a1 : Addr) (q2 : Int64) (b : Addr) (k : ClassId) (sz : Nat) (tot : Nat) (h0 : Heap) (n0 : Nat) (v : Option Value) (h : Heap) (L : List Loc) : Prop := v = none ∧ Fr n0 L ∧ Keep h0 h [a1, b] ∧ Fld Z h a1 "com/example/kerros/kerros/log/ChangeCodec$Output" "bytes" "[B" (.ref b) ∧ Fld Z h a1 "com/example/kerros/kerros/log/ChangeCodec$Output" "size" "I" (.int (Int32.ofNat tot)) ∧ BA Z h b k
set_option maxRecDepth 65536 in
set_option maxHeartbeats 40000000 in
theorem rm3 (l : Launch) (Z : State) (a0 : Array Value) (hw : ∀ d ∈ tables_1, d.before a0 Z = true) (ws : List Jvm.Cond) (a1 : Addr) (q2 : Int64) (b : Addr) (k : ClassId) (sz : Nat) (tot : Nat) (h0 : Heap) (n0 : Nat) (Z0 : n0 ≤ h0.size) (Fb : Fld Z h0 a1 "com/example/kerros/kerros/log/ChangeCodec$Output" "bytes" "[B" (.ref b)) (Fs : Fld Z h0 a1 "com/example/kerros/kerros/log/ChangeCodec$Output" "size" "I" (.int (Int32.ofNat sz))) (E : Exa Z h0 a1 "com/example/kerros/kerros/log/ChangeCodec$Output") (VB0 : BA Z h0 b k) (hne : a1 ≠ b) (g_a1 : n0 ≤ a1) (g_b : n0 ≤ b) (htot : sz + nl 9 q2 = tot) (hlim : tot ≤ 256) :
    MetFree l (⟨"com/example/kerros/kerros/log/ChangeCodec$Output", "putNumber", "(J)V"⟩ : MethodName) (head1 (Jvm.Cond.code (⟨"com/example/kerros/kerros/log/ChangeCodec$Output", "putNumber", "(J)V"⟩ : MethodName) prog_26_method_6_code 5 none :: ws) ({ frames := 1, cells := 0, slots := 0, locals := 13 } : Room)) (fun a U => a = #[(.ref a1), (.long q2)] ∧ Z.Warmed39 U.vm ∧ U.heap = h0) (fun _ _ _ _ _ => True) (fun _ U o U' => ∃ v L, o = .returned v ∧ Q3 Z a1 q2 b k sz tot h0 n0 v U'.heap L ∧ FrameEnd U o U' L ({ frames := 1, cells := 0, slots := 0, locals := 13 } : Room).cells ({ frames := 1, cells := 0, slots := 0, locals := 13 } : Room).slots) := by
  refine MetFree.of_bodySF (plainFor_of_name pn_3) hisR ?_
  intro p e s m args below meth c s₁ Bd hml0 hP hK
  obtain ⟨rfl, hZ, hh⟩ := hP
  have hx := Bd.exec
  have hby := Bd.bytes
  have hml : c.maxLocals = 5 := hml0
  have hown : s.vm.findClass "com/example/kerros/kerros/log/ChangeCodec$Output" = some m.cls := findClass_of_methodNamed Bd.named
  have hnm := (name_of_methodNamed Bd.named Bd.method).1
  have X0 : Stand p l e ({ frames := 1, cells := 0, slots := 0, locals := 13 } : Room) s m #[(.ref a1), (.long q2)] below meth c s₁ [] 0 0 := Stand.of_body Bd
  have e0 : s₁.heap = h0 := by rw [← hh, Bd.state]; rfl
  have N0 := Fr.nil n0
  obtain ⟨G, hG⟩ : ∃ G : State → Prop, G = OwnG p e below s ({ frames := 1, cells := 0, slots := 0, locals := 13 } : Room).cells ({ frames := 1, cells := 0, slots := 0, locals := 13 } : Room).slots (Q3 Z a1 q2 b k sz tot h0 n0) := ⟨_, rfl⟩
  have go : ∀ {A B : State}, (∀ t, Steps p.tables e below A t → Steps p.tables e below B t) → G A → G B := fun h k => by rw [hG] at k ⊢; exact OwnG.go h k
  suffices k0 : G (s₁.setTop (mkF m 0 #[.val (.ref a1), .val (.long q2), .second, .unset, .unset] [])) by
    rw [hG] at k0; exact OwnG.go (fun t k => castTop (ef_rm3 m a1 q2) k) k0
  have K0 : Keep h0 h0 [a1, b] := Keep.refl _ _
  refine go (fun _ k => XS.lloadN X0.here hx rfl (hb hby d3_0) rfl k) ?_
  show G (s₁.setTop (mkF m 1 #[.val (.ref a1), .val (.long q2), .second, .unset, .unset] [(.long q2)]))
  refine go (fun _ k => XS.lstoreN X0.here hx rfl (hb hby d3_1) rfl (l' := #[.val (.ref a1), .val (.long q2), .second, .val (.long q2), .second]) rfl k) ?_
  show G (s₁.setTop (mkF m 2 #[.val (.ref a1), .val (.long q2), .second, .val (.long q2), .second] []))
  have loop : ∀ (k_ : Nat) (TL : State) (hh : Heap) (lo : List Loc) (zs : Nat) (x : Int64), Stand p l e ({ frames := 1, cells := 0, slots := 0, locals := 13 } : Room) s m #[(.ref a1), (.long q2)] below meth c TL lo 0 0 → TL.heap = hh → n0 ≤ hh.size → Fr n0 lo → Keep h0 hh [a1, b] → Exa Z hh a1 "com/example/kerros/kerros/log/ChangeCodec$Output" → Fld Z hh a1 "com/example/kerros/kerros/log/ChangeCodec$Output" "bytes" "[B" (.ref b) → Fld Z hh a1 "com/example/kerros/kerros/log/ChangeCodec$Output" "size" "I" (.int (Int32.ofNat zs)) → BA Z hh b k → x.toUInt64.toNat < 2 ^ (7 * k_ + 7) → zs + nl k_ x = tot → G (TL.setTop (mkF m 2 #[.val (.ref a1), .val (.long q2), .second, .val (.long x), .second] [])) := by
    intro k_
    induction k_ with
    | zero =>
      intro TL hh lo zs x XL eL zL nL kL EL FbL FsL VL hx2 ht
      have hz1 := own_nl_pos 0 x
      have hzs : zs < 256 := by omega
      refine go (fun _ k => XS.lloadN XL.here hx rfl (hb hby d3_2) rfl k) ?_
      show G (TL.setTop (mkF m 3 #[.val (.ref a1), .val (.long q2), .second, .val (.long x), .second] [(.long x)]))
      refine go (XL.ldc2Long hx hown (mvT hZ (hw _ (List.mem_of_getElem? (i := 17) rfl))) (g := (mkF m 3 #[.val (.ref a1), .val (.long q2), .second, .val (.long x), .second] [(.long x)])) rfl (hb hby d3_3)) ?_
      show G (TL.setTop (mkF m 6 #[.val (.ref a1), .val (.long q2), .second, .val (.long x), .second] [(.long (-128 : Int64)), (.long x)]))
      refine go (fun _ k => XS.land XL.here hx rfl (hb hby d3_6) rfl k) ?_
      show G (TL.setTop (mkF m 7 #[.val (.ref a1), .val (.long q2), .second, .val (.long x), .second] [(.long (x &&& (-128 : Int64)))]))
      refine go (fun _ k => XS.lconst XL.here hx rfl (hb hby d3_7) k) ?_
      show G (TL.setTop (mkF m 8 #[.val (.ref a1), .val (.long q2), .second, .val (.long x), .second] [(.long (0 : Int64)), (.long (x &&& (-128 : Int64)))]))
      refine go (fun _ k => XS.lcmp XL.here hx rfl (hb hby d3_8) rfl k) ?_
      show G (TL.setTop (mkF m 9 #[.val (.ref a1), .val (.long q2), .second, .val (.long x), .second] [(.int (lcmpW (x &&& (-128 : Int64)) (0 : Int64)))]))
      have hc1 : (x &&& (-128 : Int64)) = (0 : Int64) := own_small x hx2
      refine go (fun _ k => XS.ifYes XL.here hx rfl (pc0 := 9) (pc' := 35) rfl (hb hby d3_9) rfl ((if0 _ _).trans (teq (own_lceq.mpr hc1)).1) (by decide) (by decide) k) ?_
      show G (TL.setTop (mkF m 35 #[.val (.ref a1), .val (.long q2), .second, .val (.long x), .second] []))
      refine go (fun _ k => XS.aloadN XL.here hx rfl (hb hby d3_35) rfl rfl k) ?_
      show G (TL.setTop (mkF m 36 #[.val (.ref a1), .val (.long q2), .second, .val (.long x), .second] [(.ref a1)]))
      refine go (fun _ k => XS.lloadN XL.here hx rfl (hb hby d3_36) rfl k) ?_
      show G (TL.setTop (mkF m 37 #[.val (.ref a1), .val (.long q2), .second, .val (.long x), .second] [(.long x), (.ref a1)]))
      refine go (fun _ k => XS.l2i XL.here hx rfl (hb hby d3_37) rfl k) ?_
      show G (TL.setTop (mkF m 38 #[.val (.ref a1), .val (.long q2), .second, .val (.long x), .second] [(.int (x.toInt32)), (.ref a1)]))
      refine go (fun _ k => XS.i2b XL.here hx rfl (hb hby d3_38) rfl k) ?_
      show G (TL.setTop (mkF m 39 #[.val (.ref a1), .val (.long q2), .second, .val (.long x), .second] [(.int ((x.toInt32).toInt8.toInt32)), (.ref a1)]))
      obtain ⟨cq2, kq2, qa2, qb2, qc2⟩ := isOf hZ eL EL
      obtain ⟨_, _, ⟨T2, L2, k2, n2⟩, -, X2, ⟨Lc2, hQ2, l2, y2, z2⟩, st2⟩ := XL.virtualBack hx (y := (⟨"com/example/kerros/kerros/log/ChangeCodec$Output", "put", "(B)V"⟩ : MethodName)) (z := (⟨"com/example/kerros/kerros/log/ChangeCodec$Output", "put", "(B)V"⟩ : MethodName)) hown (mvT hZ (hw _ (List.mem_of_getElem? (i := 18) rfl))) (mvT hZ (hw _ (List.mem_of_getElem? (i := 19) rfl))) (notFace_of_selects (args := #[]) (mvT hZ (hw _ (List.mem_of_getElem? (i := 21) rfl)))) (mvT hZ (hw _ (List.mem_of_getElem? (i := 21) rfl))) (mvT hZ (hw _ (List.mem_of_getElem? (i := 20) rfl))) (by decide) (backOf (W := 0) (rm4 l Z a0 hw [] a1 ((x.toInt32).toInt8.toInt32) b k zs hh n0 zL FbL FsL EL VL hne g_a1 g_b hzs) hZ (hw _ (List.mem_of_getElem? (i := 22) rfl)) (hw _ (List.mem_of_getElem? (i := 2) rfl)) (by decide) (by decide)) qa2 qc2 (g := (mkF m 39 #[.val (.ref a1), .val (.long q2), .second, .val (.long x), .second] [(.int ((x.toInt32).toInt8.toInt32)), (.ref a1)])) rfl (by rw [hml]; rfl) (Steps.refl _) (argsL := [(.int ((x.toInt32).toInt8.toInt32))]) (rest := []) (lenOf pd_3_0 rfl) rfl (by show 2 * 0 + _ ≤ _; exact Nat.le_of_eq rfl) (hb hby d3_39) (fun _ _ => ⟨rfl, eL, (by decide : 0 + 0 ≤ _), (by decide : 0 + 0 ≤ _)⟩)
      dsimp only [Pt.U, Pt.locs, Pt.cells, Pt.slots] at X2 l2 y2 z2 st2 hQ2
      subst l2 y2 z2
      obtain ⟨rfl, N2q, Kc2, c2_0, c2_1, c2_2⟩ := hQ2
      have f3 := EL.keep Kc2
      have K2 : Keep h0 T2.heap [a1, b] := kL.trans Kc2 (allS (P := fun x => x ∈ [a1, b] ∨ h0.size ≤ x) (Or.inl (List.mem_of_getElem? (i := 0) rfl)) (allS (P := fun x => x ∈ [a1, b] ∨ h0.size ≤ x) (Or.inl (List.mem_of_getElem? (i := 1) rfl)) all0))
      have Zs2 : n0 ≤ T2.heap.size := Nat.le_trans zL Kc2.1
      have N2 := Fr.app nL N2q
      refine go (fun _ k => st2.trans k) ?_
      show G (T2.setTop (mkF m 42 #[.val (.ref a1), .val (.long q2), .second, .val (.long x), .second] []))
      rw [hG]
      refine own_fin X2 Bd.notSynchronized (v := none) (fun _ => rfl) (fun fs hr => X2.returnOut hx Bd.returns (hb hby d3_42) hr) ?_ (by decide) (by decide)
      show Q3 Z a1 q2 b k sz tot h0 n0 (none) T2.heap _
      have hn : nl 0 x = 1 := rfl
      have hs : zs + 1 = tot := by omega
      have Fz : Fld Z T2.heap a1 "com/example/kerros/kerros/log/ChangeCodec$Output" "size" "I" (.int (Int32.ofNat tot)) := hs ▸ c2_1
      exact ⟨rfl, N2, K2, c2_0, Fz, c2_2⟩
    | succ j ih =>
      intro TL hh lo zs x XL eL zL nL kL EL FbL FsL VL hx2 ht
      have hz1 := own_nl_pos (j + 1) x
      have hzs : zs < 256 := by omega
      refine go (fun _ k => XS.lloadN XL.here hx rfl (hb hby d3_2) rfl k) ?_
      show G (TL.setTop (mkF m 3 #[.val (.ref a1), .val (.long q2), .second, .val (.long x), .second] [(.long x)]))
      refine go (XL.ldc2Long hx hown (mvT hZ (hw _ (List.mem_of_getElem? (i := 17) rfl))) (g := (mkF m 3 #[.val (.ref a1), .val (.long q2), .second, .val (.long x), .second] [(.long x)])) rfl (hb hby d3_3)) ?_
      show G (TL.setTop (mkF m 6 #[.val (.ref a1), .val (.long q2), .second, .val (.long x), .second] [(.long (-128 : Int64)), (.long x)]))
      refine go (fun _ k => XS.land XL.here hx rfl (hb hby d3_6) rfl k) ?_
      show G (TL.setTop (mkF m 7 #[.val (.ref a1), .val (.long q2), .second, .val (.long x), .second] [(.long (x &&& (-128 : Int64)))]))
      refine go (fun _ k => XS.lconst XL.here hx rfl (hb hby d3_7) k) ?_
      show G (TL.setTop (mkF m 8 #[.val (.ref a1), .val (.long q2), .second, .val (.long x), .second] [(.long (0 : Int64)), (.long (x &&& (-128 : Int64)))]))
      refine go (fun _ k => XS.lcmp XL.here hx rfl (hb hby d3_8) rfl k) ?_
      show G (TL.setTop (mkF m 9 #[.val (.ref a1), .val (.long q2), .second, .val (.long x), .second] [(.int (lcmpW (x &&& (-128 : Int64)) (0 : Int64)))]))
      by_cases hc9_4 : (x &&& (-128 : Int64)) = (0 : Int64)
      · refine go (fun _ k => XS.ifYes XL.here hx rfl (pc0 := 9) (pc' := 35) rfl (hb hby d3_9) rfl ((if0 _ _).trans (teq (own_lceq.mpr hc9_4)).1) (by decide) (by decide) k) ?_
        show G (TL.setTop (mkF m 35 #[.val (.ref a1), .val (.long q2), .second, .val (.long x), .second] []))
        refine go (fun _ k => XS.aloadN XL.here hx rfl (hb hby d3_35) rfl rfl k) ?_
        show G (TL.setTop (mkF m 36 #[.val (.ref a1), .val (.long q2), .second, .val (.long x), .second] [(.ref a1)]))
        refine go (fun _ k => XS.lloadN XL.here hx rfl (hb hby d3_36) rfl k) ?_
        show G (TL.setTop (mkF m 37 #[.val (.ref a1), .val (.long q2), .second, .val (.long x), .second] [(.long x), (.ref a1)]))
        refine go (fun _ k => XS.l2i XL.here hx rfl (hb hby d3_37) rfl k) ?_
        show G (TL.setTop (mkF m 38 #[.val (.ref a1), .val (.long q2), .second, .val (.long x), .second] [(.int (x.toInt32)), (.ref a1)]))
        refine go (fun _ k => XS.i2b XL.here hx rfl (hb hby d3_38) rfl k) ?_
        show G (TL.setTop (mkF m 39 #[.val (.ref a1), .val (.long q2), .second, .val (.long x), .second] [(.int ((x.toInt32).toInt8.toInt32)), (.ref a1)]))
        obtain ⟨cq5, kq5, qa5, qb5, qc5⟩ := isOf hZ eL EL
        obtain ⟨_, _, ⟨T5, L5, k5, n5⟩, -, X5, ⟨Lc5, hQ5, l5, y5, z5⟩, st5⟩ := XL.virtualBack hx (y := (⟨"com/example/kerros/kerros/log/ChangeCodec$Output", "put", "(B)V"⟩ : MethodName)) (z := (⟨"com/example/kerros/kerros/log/ChangeCodec$Output", "put", "(B)V"⟩ : MethodName)) hown (mvT hZ (hw _ (List.mem_of_getElem? (i := 18) rfl))) (mvT hZ (hw _ (List.mem_of_getElem? (i := 19) rfl))) (notFace_of_selects (args := #[]) (mvT hZ (hw _ (List.mem_of_getElem? (i := 21) rfl)))) (mvT hZ (hw _ (List.mem_of_getElem? (i := 21) rfl))) (mvT hZ (hw _ (List.mem_of_getElem? (i := 20) rfl))) (by decide) (backOf (W := 0) (rm4 l Z a0 hw [] a1 ((x.toInt32).toInt8.toInt32) b k zs hh n0 zL FbL FsL EL VL hne g_a1 g_b hzs) hZ (hw _ (List.mem_of_getElem? (i := 22) rfl)) (hw _ (List.mem_of_getElem? (i := 2) rfl)) (by decide) (by decide)) qa5 qc5 (g := (mkF m 39 #[.val (.ref a1), .val (.long q2), .second, .val (.long x), .second] [(.int ((x.toInt32).toInt8.toInt32)), (.ref a1)])) rfl (by rw [hml]; rfl) (Steps.refl _) (argsL := [(.int ((x.toInt32).toInt8.toInt32))]) (rest := []) (lenOf pd_3_0 rfl) rfl (by show 2 * 0 + _ ≤ _; exact Nat.le_of_eq rfl) (hb hby d3_39) (fun _ _ => ⟨rfl, eL, (by decide : 0 + 0 ≤ _), (by decide : 0 + 0 ≤ _)⟩)
        dsimp only [Pt.U, Pt.locs, Pt.cells, Pt.slots] at X5 l5 y5 z5 st5 hQ5
        subst l5 y5 z5
        obtain ⟨rfl, N5q, Kc5, c5_0, c5_1, c5_2⟩ := hQ5
        have f6 := EL.keep Kc5
        have K5 : Keep h0 T5.heap [a1, b] := kL.trans Kc5 (allS (P := fun x => x ∈ [a1, b] ∨ h0.size ≤ x) (Or.inl (List.mem_of_getElem? (i := 0) rfl)) (allS (P := fun x => x ∈ [a1, b] ∨ h0.size ≤ x) (Or.inl (List.mem_of_getElem? (i := 1) rfl)) all0))
        have Zs5 : n0 ≤ T5.heap.size := Nat.le_trans zL Kc5.1
        have N5 := Fr.app nL N5q
        refine go (fun _ k => st5.trans k) ?_
        show G (T5.setTop (mkF m 42 #[.val (.ref a1), .val (.long q2), .second, .val (.long x), .second] []))
        rw [hG]
        refine own_fin X5 Bd.notSynchronized (v := none) (fun _ => rfl) (fun fs hr => X5.returnOut hx Bd.returns (hb hby d3_42) hr) ?_ (by decide) (by decide)
        show Q3 Z a1 q2 b k sz tot h0 n0 (none) T5.heap _
        have hn := own_nl_hit (k := j) hc9_4
        have hs : zs + 1 = tot := by omega
        have Fz : Fld Z T5.heap a1 "com/example/kerros/kerros/log/ChangeCodec$Output" "size" "I" (.int (Int32.ofNat tot)) := hs ▸ c5_1
        exact ⟨rfl, N5, K5, c5_0, Fz, c5_2⟩
      · refine go (fun _ k => XS.ifNo XL.here hx rfl (hb hby d3_9) rfl ((if0 _ _).trans (feq (fun z => hc9_4 (own_lceq.mp z))).1) k) ?_
        show G (TL.setTop (mkF m 12 #[.val (.ref a1), .val (.long q2), .second, .val (.long x), .second] []))
        refine go (fun _ k => XS.aloadN XL.here hx rfl (hb hby d3_12) rfl rfl k) ?_
        show G (TL.setTop (mkF m 13 #[.val (.ref a1), .val (.long q2), .second, .val (.long x), .second] [(.ref a1)]))
        refine go (fun _ k => XS.lloadN XL.here hx rfl (hb hby d3_13) rfl k) ?_
        show G (TL.setTop (mkF m 14 #[.val (.ref a1), .val (.long q2), .second, .val (.long x), .second] [(.long x), (.ref a1)]))
        refine go (XL.ldc2Long hx hown (mvT hZ (hw _ (List.mem_of_getElem? (i := 42) rfl))) (g := (mkF m 14 #[.val (.ref a1), .val (.long q2), .second, .val (.long x), .second] [(.long x), (.ref a1)])) rfl (hb hby d3_14)) ?_
        show G (TL.setTop (mkF m 17 #[.val (.ref a1), .val (.long q2), .second, .val (.long x), .second] [(.long (127 : Int64)), (.long x), (.ref a1)]))
        refine go (fun _ k => XS.land XL.here hx rfl (hb hby d3_17) rfl k) ?_
        show G (TL.setTop (mkF m 18 #[.val (.ref a1), .val (.long q2), .second, .val (.long x), .second] [(.long (x &&& (127 : Int64))), (.ref a1)]))
        refine go (XL.ldc2Long hx hown (mvT hZ (hw _ (List.mem_of_getElem? (i := 43) rfl))) (g := (mkF m 18 #[.val (.ref a1), .val (.long q2), .second, .val (.long x), .second] [(.long (x &&& (127 : Int64))), (.ref a1)])) rfl (hb hby d3_18)) ?_
        show G (TL.setTop (mkF m 21 #[.val (.ref a1), .val (.long q2), .second, .val (.long x), .second] [(.long (128 : Int64)), (.long (x &&& (127 : Int64))), (.ref a1)]))
        refine go (fun _ k => XS.lor XL.here hx rfl (hb hby d3_21) rfl k) ?_
        show G (TL.setTop (mkF m 22 #[.val (.ref a1), .val (.long q2), .second, .val (.long x), .second] [(.long ((x &&& (127 : Int64)) ||| (128 : Int64))), (.ref a1)]))
        refine go (fun _ k => XS.l2i XL.here hx rfl (hb hby d3_22) rfl k) ?_
        show G (TL.setTop (mkF m 23 #[.val (.ref a1), .val (.long q2), .second, .val (.long x), .second] [(.int (((x &&& (127 : Int64)) ||| (128 : Int64)).toInt32)), (.ref a1)]))
        refine go (fun _ k => XS.i2b XL.here hx rfl (hb hby d3_23) rfl k) ?_
        show G (TL.setTop (mkF m 24 #[.val (.ref a1), .val (.long q2), .second, .val (.long x), .second] [(.int ((((x &&& (127 : Int64)) ||| (128 : Int64)).toInt32).toInt8.toInt32)), (.ref a1)]))
        obtain ⟨cq7, kq7, qa7, qb7, qc7⟩ := isOf hZ eL EL
        obtain ⟨_, _, ⟨T7, L7, k7, n7⟩, -, X7, ⟨Lc7, hQ7, l7, y7, z7⟩, st7⟩ := XL.virtualBack hx (y := (⟨"com/example/kerros/kerros/log/ChangeCodec$Output", "put", "(B)V"⟩ : MethodName)) (z := (⟨"com/example/kerros/kerros/log/ChangeCodec$Output", "put", "(B)V"⟩ : MethodName)) hown (mvT hZ (hw _ (List.mem_of_getElem? (i := 18) rfl))) (mvT hZ (hw _ (List.mem_of_getElem? (i := 19) rfl))) (notFace_of_selects (args := #[]) (mvT hZ (hw _ (List.mem_of_getElem? (i := 21) rfl)))) (mvT hZ (hw _ (List.mem_of_getElem? (i := 21) rfl))) (mvT hZ (hw _ (List.mem_of_getElem? (i := 20) rfl))) (by decide) (backOf (W := 0) (rm4 l Z a0 hw [] a1 ((((x &&& (127 : Int64)) ||| (128 : Int64)).toInt32).toInt8.toInt32) b k zs hh n0 zL FbL FsL EL VL hne g_a1 g_b hzs) hZ (hw _ (List.mem_of_getElem? (i := 22) rfl)) (hw _ (List.mem_of_getElem? (i := 2) rfl)) (by decide) (by decide)) qa7 qc7 (g := (mkF m 24 #[.val (.ref a1), .val (.long q2), .second, .val (.long x), .second] [(.int ((((x &&& (127 : Int64)) ||| (128 : Int64)).toInt32).toInt8.toInt32)), (.ref a1)])) rfl (by rw [hml]; rfl) (Steps.refl _) (argsL := [(.int ((((x &&& (127 : Int64)) ||| (128 : Int64)).toInt32).toInt8.toInt32))]) (rest := []) (lenOf pd_3_0 rfl) rfl (by show 2 * 0 + _ ≤ _; exact Nat.le_of_eq rfl) (hb hby d3_24) (fun _ _ => ⟨rfl, eL, (by decide : 0 + 0 ≤ _), (by decide : 0 + 0 ≤ _)⟩)
        dsimp only [Pt.U, Pt.locs, Pt.cells, Pt.slots] at X7 l7 y7 z7 st7 hQ7
        subst l7 y7 z7
        obtain ⟨rfl, N7q, Kc7, c7_0, c7_1, c7_2⟩ := hQ7
        have f8 := EL.keep Kc7
        have K7 : Keep h0 T7.heap [a1, b] := kL.trans Kc7 (allS (P := fun x => x ∈ [a1, b] ∨ h0.size ≤ x) (Or.inl (List.mem_of_getElem? (i := 0) rfl)) (allS (P := fun x => x ∈ [a1, b] ∨ h0.size ≤ x) (Or.inl (List.mem_of_getElem? (i := 1) rfl)) all0))
        have Zs7 : n0 ≤ T7.heap.size := Nat.le_trans zL Kc7.1
        have N7 := Fr.app nL N7q
        refine go (fun _ k => st7.trans k) ?_
        show G (T7.setTop (mkF m 27 #[.val (.ref a1), .val (.long q2), .second, .val (.long x), .second] []))
        refine go (fun _ k => XS.lloadN X7.here hx rfl (hb hby d3_27) rfl k) ?_
        show G (T7.setTop (mkF m 28 #[.val (.ref a1), .val (.long q2), .second, .val (.long x), .second] [(.long x)]))
        refine go (fun _ k => XS.bipush X7.here hx rfl (hb hby d3_28) k) ?_
        show G (T7.setTop (mkF m 30 #[.val (.ref a1), .val (.long q2), .second, .val (.long x), .second] [(.int (7 : Int32)), (.long x)]))
        refine go (fun _ k => XS.lushr X7.here hx rfl (hb hby d3_30) rfl k) ?_
        show G (T7.setTop (mkF m 31 #[.val (.ref a1), .val (.long q2), .second, .val (.long x), .second] [(.long ((x.toUInt64 >>> ((7 : Int32) &&& 0x3f).toInt64.toUInt64).toInt64))]))
        refine go (fun _ k => XS.lstoreN X7.here hx rfl (hb hby d3_31) rfl (l' := #[.val (.ref a1), .val (.long q2), .second, .val (.long ((x.toUInt64 >>> ((7 : Int32) &&& 0x3f).toInt64.toUInt64).toInt64)), .second]) rfl k) ?_
        show G (T7.setTop (mkF m 32 #[.val (.ref a1), .val (.long q2), .second, .val (.long ((x.toUInt64 >>> ((7 : Int32) &&& 0x3f).toInt64.toUInt64).toInt64)), .second] []))
        show G (T7.setTop (mkF m 32 #[.val (.ref a1), .val (.long q2), .second, .val (.long (shr7 x)), .second] []))
        refine go (fun _ k => XS.goto X7.here hx rfl (pc0 := 32) (pc' := 2) rfl (hb hby d3_32) (by decide) (by decide) k) ?_
        show G (T7.setTop (mkF m 2 #[.val (.ref a1), .val (.long q2), .second, .val (.long (shr7 x)), .second] []))
        have hm := own_nl_miss (k := j) hc9_4
        exact ih _ _ _ _ _ X7 rfl Zs7 N7 K7 f8 c7_0 c7_1 c7_2 (own_shr_lt hx2) (by omega)
  exact loop 9 _ _ _ _ _ X0 e0 Z0 N0 K0 E Fb Fs VB0 (Nat.lt_of_lt_of_le (UInt64.toNat_lt _) (by decide)) htot

theorem d7_0 : decode prog_26_method_7_code 0 = .ok (.aload_n 0, 1) := by decide +kernel
theorem d7_1 : decode prog_26_method_7_code 1 = .ok (.lload_n 1, 1) := by decide +kernel
theorem d7_2 : decode prog_26_method_7_code 2 = .ok (.iconst 1, 1) := by decide +kernel
theorem d7_3 : decode prog_26_method_7_code 3 = .ok (.lshl, 1) := by decide +kernel
theorem d7_4 : decode prog_26_method_7_code 4 = .ok (.lload_n 1, 1) := by decide +kernel
theorem d7_5 : decode prog_26_method_7_code 5 = .ok (.bipush 63, 2) := by decide +kernel
theorem d7_7 : decode prog_26_method_7_code 7 = .ok (.lshr, 1) := by decide +kernel
theorem d7_8 : decode prog_26_method_7_code 8 = .ok (.lxor, 1) := by decide +kernel
theorem d7_9 : decode prog_26_method_7_code 9 = .ok (.invokevirtual 42, 3) := by decide +kernel
theorem d7_12 : decode prog_26_method_7_code 12 = .ok (.return_, 1) := by decide +kernel
theorem pn_7 : plainName "com/example/kerros/kerros/log/ChangeCodec$Output" = true := by first | (simp [plainName, overriddenIn]; done) | decide +kernel
theorem pd_7_0 : parseMethodDescriptor "(J)V" = some ⟨[.long], none⟩ := by decide +kernel
theorem ef_rm7 (m : MethodId) (a1 : Addr) (q2 : Int64) : entryFrame m #[(.ref a1), (.long q2)] 3 = mkF m 0 #[.val (.ref a1), .val (.long q2), .second] [] := by first | (simp [entryFrame, mkF, argsToLocals, Value.category]; done) | rfl
def Q7 (Z : State) (a1 : Addr) (q2 : Int64) (b : Addr) (k : ClassId) (sz : Nat) (h0 : Heap) (n0 : Nat) (v : Option Value) (h : Heap) (L : List Loc) : Prop := v = none ∧ Fr n0 L ∧ Keep h0 h [a1, b] ∧ Fld Z h a1 "com/example/kerros/kerros/log/ChangeCodec$Output" "bytes" "[B" (.ref b) ∧ Fld Z h a1 "com/example/kerros/kerros/log/ChangeCodec$Output" "size" "I" (.int (Int32.ofNat (sz + nl 9 ((q2 <<< ((1 : Int32) &&& 0x3f).toInt64) ^^^ (q2 >>> ((63 : Int32) &&& 0x3f).toInt64))))) ∧ BA Z h b k
set_option maxRecDepth 65536 in
set_option maxHeartbeats 40000000 in
theorem rm7 (l : Launch) (Z : State) (a0 : Array Value) (hw : ∀ d ∈ tables_1, d.before a0 Z = true) (ws : List Jvm.Cond) (a1 : Addr) (q2 : Int64) (b : Addr) (k : ClassId) (sz : Nat) (h0 : Heap) (n0 : Nat) (Z0 : n0 ≤ h0.size) (Fb : Fld Z h0 a1 "com/example/kerros/kerros/log/ChangeCodec$Output" "bytes" "[B" (.ref b)) (Fs : Fld Z h0 a1 "com/example/kerros/kerros/log/ChangeCodec$Output" "size" "I" (.int (Int32.ofNat sz))) (E : Exa Z h0 a1 "com/example/kerros/kerros/log/ChangeCodec$Output") (VB0 : BA Z h0 b k) (hne : a1 ≠ b) (g_a1 : n0 ≤ a1) (g_b : n0 ≤ b) (hsz : sz ≤ 200) :
    MetFree l (⟨"com/example/kerros/kerros/log/ChangeCodec$Output", "putSigned", "(J)V"⟩ : MethodName) (head1 (Jvm.Cond.code (⟨"com/example/kerros/kerros/log/ChangeCodec$Output", "putSigned", "(J)V"⟩ : MethodName) prog_26_method_7_code 3 none :: ws) ({ frames := 2, cells := 0, slots := 0, locals := 29 } : Room)) (fun a U => a = #[(.ref a1), (.long q2)] ∧ Z.Warmed39 U.vm ∧ U.heap = h0) (fun _ _ _ _ _ => True) (fun _ U o U' => ∃ v L, o = .returned v ∧ Q7 Z a1 q2 b k sz h0 n0 v U'.heap L ∧ FrameEnd U o U' L ({ frames := 2, cells := 0, slots := 0, locals := 29 } : Room).cells ({ frames := 2, cells := 0, slots := 0, locals := 29 } : Room).slots) := by
  refine MetFree.of_bodySF (plainFor_of_name pn_7) hisR ?_
  intro p e s m args below meth c s₁ Bd hml0 hP hK
  obtain ⟨rfl, hZ, hh⟩ := hP
  have hx := Bd.exec
  have hby := Bd.bytes
  have hml : c.maxLocals = 3 := hml0
  have hown : s.vm.findClass "com/example/kerros/kerros/log/ChangeCodec$Output" = some m.cls := findClass_of_methodNamed Bd.named
  have hnm := (name_of_methodNamed Bd.named Bd.method).1
  have X0 : Stand p l e ({ frames := 2, cells := 0, slots := 0, locals := 29 } : Room) s m #[(.ref a1), (.long q2)] below meth c s₁ [] 0 0 := Stand.of_body Bd
  have e0 : s₁.heap = h0 := by rw [← hh, Bd.state]; rfl
  have N0 := Fr.nil n0
  obtain ⟨G, hG⟩ : ∃ G : State → Prop, G = OwnG p e below s ({ frames := 2, cells := 0, slots := 0, locals := 29 } : Room).cells ({ frames := 2, cells := 0, slots := 0, locals := 29 } : Room).slots (Q7 Z a1 q2 b k sz h0 n0) := ⟨_, rfl⟩
  have go : ∀ {A B : State}, (∀ t, Steps p.tables e below A t → Steps p.tables e below B t) → G A → G B := fun h k => by rw [hG] at k ⊢; exact OwnG.go h k
  suffices k0 : G (s₁.setTop (mkF m 0 #[.val (.ref a1), .val (.long q2), .second] [])) by
    rw [hG] at k0; exact OwnG.go (fun t k => castTop (ef_rm7 m a1 q2) k) k0
  have K0 : Keep h0 h0 [a1, b] := Keep.refl _ _
  refine go (fun _ k => XS.aloadN X0.here hx rfl (hb hby d7_0) rfl rfl k) ?_
  show G (s₁.setTop (mkF m 1 #[.val (.ref a1), .val (.long q2), .second] [(.ref a1)]))
  refine go (fun _ k => XS.lloadN X0.here hx rfl (hb hby d7_1) rfl k) ?_
  show G (s₁.setTop (mkF m 2 #[.val (.ref a1), .val (.long q2), .second] [(.long q2), (.ref a1)]))
  refine go (fun _ k => XS.iconst X0.here hx rfl (hb hby d7_2) k) ?_
  show G (s₁.setTop (mkF m 3 #[.val (.ref a1), .val (.long q2), .second] [(.int (1 : Int32)), (.long q2), (.ref a1)]))
  refine go (fun _ k => XS.lshl X0.here hx rfl (hb hby d7_3) rfl k) ?_
  show G (s₁.setTop (mkF m 4 #[.val (.ref a1), .val (.long q2), .second] [(.long (q2 <<< ((1 : Int32) &&& 0x3f).toInt64)), (.ref a1)]))
  refine go (fun _ k => XS.lloadN X0.here hx rfl (hb hby d7_4) rfl k) ?_
  show G (s₁.setTop (mkF m 5 #[.val (.ref a1), .val (.long q2), .second] [(.long q2), (.long (q2 <<< ((1 : Int32) &&& 0x3f).toInt64)), (.ref a1)]))
  refine go (fun _ k => XS.bipush X0.here hx rfl (hb hby d7_5) k) ?_
  show G (s₁.setTop (mkF m 7 #[.val (.ref a1), .val (.long q2), .second] [(.int (63 : Int32)), (.long q2), (.long (q2 <<< ((1 : Int32) &&& 0x3f).toInt64)), (.ref a1)]))
  refine go (fun _ k => XS.lshr X0.here hx rfl (hb hby d7_7) rfl k) ?_
  show G (s₁.setTop (mkF m 8 #[.val (.ref a1), .val (.long q2), .second] [(.long (q2 >>> ((63 : Int32) &&& 0x3f).toInt64)), (.long (q2 <<< ((1 : Int32) &&& 0x3f).toInt64)), (.ref a1)]))
  refine go (fun _ k => XS.lxor X0.here hx rfl (hb hby d7_8) rfl k) ?_
  show G (s₁.setTop (mkF m 9 #[.val (.ref a1), .val (.long q2), .second] [(.long ((q2 <<< ((1 : Int32) &&& 0x3f).toInt64) ^^^ (q2 >>> ((63 : Int32) &&& 0x3f).toInt64))), (.ref a1)]))
  obtain ⟨cq1, kq1, qa1, qb1, qc1⟩ := isOf hZ e0 E
  obtain ⟨_, _, ⟨T1, L1, k1, n1⟩, -, X1, ⟨Lc1, hQ1, l1, y1, z1⟩, st1⟩ := X0.virtualBack hx (y := (⟨"com/example/kerros/kerros/log/ChangeCodec$Output", "putNumber", "(J)V"⟩ : MethodName)) (z := (⟨"com/example/kerros/kerros/log/ChangeCodec$Output", "putNumber", "(J)V"⟩ : MethodName)) hown (mvT hZ (hw _ (List.mem_of_getElem? (i := 41) rfl))) (mvT hZ (hw _ (List.mem_of_getElem? (i := 13) rfl))) (notFace_of_selects (args := #[]) (mvT hZ (hw _ (List.mem_of_getElem? (i := 15) rfl)))) (mvT hZ (hw _ (List.mem_of_getElem? (i := 15) rfl))) (mvT hZ (hw _ (List.mem_of_getElem? (i := 14) rfl))) (by decide) (backOf (W := 0) (rm3 l Z a0 hw [] a1 ((q2 <<< ((1 : Int32) &&& 0x3f).toInt64) ^^^ (q2 >>> ((63 : Int32) &&& 0x3f).toInt64)) b k sz (sz + nl 9 ((q2 <<< ((1 : Int32) &&& 0x3f).toInt64) ^^^ (q2 >>> ((63 : Int32) &&& 0x3f).toInt64))) h0 n0 Z0 Fb Fs E VB0 hne g_a1 g_b rfl (by have := own_nl_le 9 ((q2 <<< ((1 : Int32) &&& 0x3f).toInt64) ^^^ (q2 >>> ((63 : Int32) &&& 0x3f).toInt64)); omega)) hZ (hw _ (List.mem_of_getElem? (i := 16) rfl)) (hw _ (List.mem_of_getElem? (i := 2) rfl)) (by decide) (by decide)) qa1 qc1 (g := (mkF m 9 #[.val (.ref a1), .val (.long q2), .second] [(.long ((q2 <<< ((1 : Int32) &&& 0x3f).toInt64) ^^^ (q2 >>> ((63 : Int32) &&& 0x3f).toInt64))), (.ref a1)])) rfl (by rw [hml]; rfl) (Steps.refl _) (argsL := [(.long ((q2 <<< ((1 : Int32) &&& 0x3f).toInt64) ^^^ (q2 >>> ((63 : Int32) &&& 0x3f).toInt64)))]) (rest := []) (lenOf pd_7_0 rfl) rfl (by show 2 * 0 + _ ≤ _; exact Nat.le_of_eq rfl) (hb hby d7_9) (fun _ _ => ⟨rfl, e0, (by decide : 0 + 0 ≤ _), (by decide : 0 + 0 ≤ _)⟩)
  dsimp only [Pt.U, Pt.locs, Pt.cells, Pt.slots] at X1 l1 y1 z1 st1 hQ1
  subst l1 y1 z1
  obtain ⟨rfl, N1q, Kc1, c1_0, c1_1, c1_2⟩ := hQ1
  have f2 := E.keep Kc1
  have K1 : Keep h0 T1.heap [a1, b] := K0.trans Kc1 (allS (P := fun x => x ∈ [a1, b] ∨ h0.size ≤ x) (Or.inl (List.mem_of_getElem? (i := 0) rfl)) (allS (P := fun x => x ∈ [a1, b] ∨ h0.size ≤ x) (Or.inl (List.mem_of_getElem? (i := 1) rfl)) all0))
  have Zs1 : n0 ≤ T1.heap.size := Nat.le_trans Z0 Kc1.1
  have N1 := Fr.app N0 N1q
  refine go (fun _ k => st1.trans k) ?_
  show G (T1.setTop (mkF m 12 #[.val (.ref a1), .val (.long q2), .second] []))
  rw [hG]
  refine own_fin X1 Bd.notSynchronized (v := none) (fun _ => rfl) (fun fs hr => X1.returnOut hx Bd.returns (hb hby d7_12) hr) ?_ (by decide) (by decide)
  show Q7 Z a1 q2 b k sz h0 n0 (none) T1.heap _
  exact ⟨rfl, N1, K1, c1_0, c1_1, c1_2⟩

theorem d5_0 : decode prog_26_method_3_code 0 = .ok (.aload_n 0, 1) := by decide +kernel
theorem d5_1 : decode prog_26_method_3_code 1 = .ok (.getfield 13, 3) := by decide +kernel
theorem d5_4 : decode prog_26_method_3_code 4 = .ok (.ireturn, 1) := by decide +kernel
theorem pn_5 : plainName "com/example/kerros/kerros/log/ChangeCodec$Output" = true := by first | (simp [plainName, overriddenIn]; done) | decide +kernel
theorem ef_rm5 (m : MethodId) (a1 : Addr) : entryFrame m #[(.ref a1)] 1 = mkF m 0 #[.val (.ref a1)] [] := by first | (simp [entryFrame, mkF, argsToLocals, Value.category]; done) | rfl
def Q5 (Z : State) (a1 : Addr) (pv : Int32) (h0 : Heap) (n0 : Nat) (v : Option Value) (h : Heap) (L : List Loc) : Prop := v = some (.int pv) ∧ Fr n0 L ∧ h = h0
set_option maxRecDepth 65536 in
set_option maxHeartbeats 40000000 in
theorem rm5 (l : Launch) (Z : State) (a0 : Array Value) (hw : ∀ d ∈ tables_1, d.before a0 Z = true) (ws : List Jvm.Cond) (a1 : Addr) (pv : Int32) (h0 : Heap) (n0 : Nat) (Z0 : n0 ≤ h0.size) (Fs : Fld Z h0 a1 "com/example/kerros/kerros/log/ChangeCodec$Output" "size" "I" (.int pv)) :
    MetFree l (⟨"com/example/kerros/kerros/log/ChangeCodec$Output", "size", "()I"⟩ : MethodName) (head1 (Jvm.Cond.code (⟨"com/example/kerros/kerros/log/ChangeCodec$Output", "size", "()I"⟩ : MethodName) prog_26_method_3_code 1 (some .int) :: ws) ({ frames := 0, cells := 0, slots := 0, locals := 0 } : Room)) (fun a U => a = #[(.ref a1)] ∧ Z.Warmed39 U.vm ∧ U.heap = h0) (fun _ _ _ _ _ => True) (fun _ U o U' => ∃ v L, o = .returned v ∧ Q5 Z a1 pv h0 n0 v U'.heap L ∧ FrameEnd U o U' L ({ frames := 0, cells := 0, slots := 0, locals := 0 } : Room).cells ({ frames := 0, cells := 0, slots := 0, locals := 0 } : Room).slots) := by
  refine MetFree.of_bodySF (plainFor_of_name pn_5) hisR ?_
  intro p e s m args below meth c s₁ Bd hml0 hP hK
  obtain ⟨rfl, hZ, hh⟩ := hP
  have hx := Bd.exec
  have hby := Bd.bytes
  have hml : c.maxLocals = 1 := hml0
  have hown : s.vm.findClass "com/example/kerros/kerros/log/ChangeCodec$Output" = some m.cls := findClass_of_methodNamed Bd.named
  have hnm := (name_of_methodNamed Bd.named Bd.method).1
  have X0 : Stand p l e ({ frames := 0, cells := 0, slots := 0, locals := 0 } : Room) s m #[(.ref a1)] below meth c s₁ [] 0 0 := Stand.of_body Bd
  have e0 : s₁.heap = h0 := by rw [← hh, Bd.state]; rfl
  have N0 := Fr.nil n0
  obtain ⟨G, hG⟩ : ∃ G : State → Prop, G = OwnG p e below s ({ frames := 0, cells := 0, slots := 0, locals := 0 } : Room).cells ({ frames := 0, cells := 0, slots := 0, locals := 0 } : Room).slots (Q5 Z a1 pv h0 n0) := ⟨_, rfl⟩
  have go : ∀ {A B : State}, (∀ t, Steps p.tables e below A t → Steps p.tables e below B t) → G A → G B := fun h k => by rw [hG] at k ⊢; exact OwnG.go h k
  suffices k0 : G (s₁.setTop (mkF m 0 #[.val (.ref a1)] [])) by
    rw [hG] at k0; exact OwnG.go (fun t k => castTop (ef_rm5 m a1) k) k0
  refine go (fun _ k => XS.aloadN X0.here hx rfl (hb hby d5_0) rfl rfl k) ?_
  show G (s₁.setTop (mkF m 1 #[.val (.ref a1)] [(.ref a1)]))
  obtain ⟨T1, X1, e1, st1⟩ := getF X0 hx hZ hown (host := "") (Or.inl (hw _ (List.mem_of_getElem? (i := 23) rfl))) Via.refl e0 Fs (g := (mkF m 1 #[.val (.ref a1)] [(.ref a1)])) rfl rfl (hb hby d5_1)
  refine go st1 ?_
  show G (T1.setTop (mkF m 4 #[.val (.ref a1)] [(.int pv)]))
  rw [hG]
  refine own_fin X1 Bd.notSynchronized (v := some (.int pv)) (fun h => by rw [Bd.returns] at h; cases h) (fun fs hr => retOut X1 hx Bd.returns rfl (by simp [FieldType.isReference, Value.isRef]) (hb hby d5_4) hr) ?_ (by decide) (by decide)
  show Q5 Z a1 pv h0 n0 (some (.int pv)) T1.heap _
  rw [e1]
  exact ⟨rfl, N0, rfl⟩

theorem d6_0 : decode prog_26_method_2_code 0 = .ok (.aload_n 0, 1) := by decide +kernel
theorem d6_1 : decode prog_26_method_2_code 1 = .ok (.iconst 0, 1) := by decide +kernel
theorem d6_2 : decode prog_26_method_2_code 2 = .ok (.putfield 13, 3) := by decide +kernel
theorem d6_5 : decode prog_26_method_2_code 5 = .ok (.aload_n 0, 1) := by decide +kernel
theorem d6_6 : decode prog_26_method_2_code 6 = .ok (.getfield 9, 3) := by decide +kernel
theorem d6_9 : decode prog_26_method_2_code 9 = .ok (.arraylength, 1) := by decide +kernel
theorem d6_10 : decode prog_26_method_2_code 10 = .ok (.ldc 17, 2) := by decide +kernel
theorem d6_12 : decode prog_26_method_2_code 12 = .ok (.if_icmp .le 12, 3) := by decide +kernel
theorem d6_24 : decode prog_26_method_2_code 24 = .ok (.return_, 1) := by decide +kernel
theorem pn_6 : plainName "com/example/kerros/kerros/log/ChangeCodec$Output" = true := by first | (simp [plainName, overriddenIn]; done) | decide +kernel
theorem ef_rm6 (m : MethodId) (a1 : Addr) : entryFrame m #[(.ref a1)] 1 = mkF m 0 #[.val (.ref a1)] [] := by first | (simp [entryFrame, mkF, argsToLocals, Value.category]; done) | rfl
def Q6 (Z : State) (a1 : Addr) (b : Addr) (k : ClassId) (sz : Nat) (h0 : Heap) (n0 : Nat) (v : Option Value) (h : Heap) (L : List Loc) : Prop := v = none ∧ Fr n0 L ∧ Keep h0 h [a1, b] ∧ Fld Z h a1 "com/example/kerros/kerros/log/ChangeCodec$Output" "bytes" "[B" (.ref b) ∧ Fld Z h a1 "com/example/kerros/kerros/log/ChangeCodec$Output" "size" "I" (.int (Int32.ofNat 0)) ∧ BA Z h b k
set_option maxRecDepth 65536 in
set_option maxHeartbeats 40000000 in
theorem rm6 (l : Launch) (Z : State) (a0 : Array Value) (hw : ∀ d ∈ tables_1, d.before a0 Z = true) (ws : List Jvm.Cond) (a1 : Addr) (b : Addr) (k : ClassId) (sz : Nat) (h0 : Heap) (n0 : Nat) (Z0 : n0 ≤ h0.size) (Fb : Fld Z h0 a1 "com/example/kerros/kerros/log/ChangeCodec$Output" "bytes" "[B" (.ref b)) (Fs : Fld Z h0 a1 "com/example/kerros/kerros/log/ChangeCodec$Output" "size" "I" (.int (Int32.ofNat sz))) (E : Exa Z h0 a1 "com/example/kerros/kerros/log/ChangeCodec$Output") (VB0 : BA Z h0 b k) (hne : a1 ≠ b) (g_a1 : n0 ≤ a1) (g_b : n0 ≤ b) :
    MetFree l (⟨"com/example/kerros/kerros/log/ChangeCodec$Output", "clear", "()V"⟩ : MethodName) (head1 (Jvm.Cond.code (⟨"com/example/kerros/kerros/log/ChangeCodec$Output", "clear", "()V"⟩ : MethodName) prog_26_method_2_code 1 none :: ws) ({ frames := 0, cells := 0, slots := 0, locals := 0 } : Room)) (fun a U => a = #[(.ref a1)] ∧ Z.Warmed39 U.vm ∧ U.heap = h0) (fun _ _ _ _ _ => True) (fun _ U o U' => ∃ v L, o = .returned v ∧ Q6 Z a1 b k sz h0 n0 v U'.heap L ∧ FrameEnd U o U' L ({ frames := 0, cells := 0, slots := 0, locals := 0 } : Room).cells ({ frames := 0, cells := 0, slots := 0, locals := 0 } : Room).slots) := by
  refine MetFree.of_bodySF (plainFor_of_name pn_6) hisR ?_
  intro p e s m args below meth c s₁ Bd hml0 hP hK
  obtain ⟨rfl, hZ, hh⟩ := hP
  have hx := Bd.exec
  have hby := Bd.bytes
  have hml : c.maxLocals = 1 := hml0
  have hown : s.vm.findClass "com/example/kerros/kerros/log/ChangeCodec$Output" = some m.cls := findClass_of_methodNamed Bd.named
  have hnm := (name_of_methodNamed Bd.named Bd.method).1
  have X0 : Stand p l e ({ frames := 0, cells := 0, slots := 0, locals := 0 } : Room) s m #[(.ref a1)] below meth c s₁ [] 0 0 := Stand.of_body Bd
  have e0 : s₁.heap = h0 := by rw [← hh, Bd.state]; rfl
  have N0 := Fr.nil n0
  obtain ⟨G, hG⟩ : ∃ G : State → Prop, G = OwnG p e below s ({ frames := 0, cells := 0, slots := 0, locals := 0 } : Room).cells ({ frames := 0, cells := 0, slots := 0, locals := 0 } : Room).slots (Q6 Z a1 b k sz h0 n0) := ⟨_, rfl⟩
  have go : ∀ {A B : State}, (∀ t, Steps p.tables e below A t → Steps p.tables e below B t) → G A → G B := fun h k => by rw [hG] at k ⊢; exact OwnG.go h k
  suffices k0 : G (s₁.setTop (mkF m 0 #[.val (.ref a1)] [])) by
    rw [hG] at k0; exact OwnG.go (fun t k => castTop (ef_rm6 m a1) k) k0
  have K0 : Keep h0 h0 [a1, b] := Keep.refl _ _
  refine go (fun _ k => XS.aloadN X0.here hx rfl (hb hby d6_0) rfl rfl k) ?_
  show G (s₁.setTop (mkF m 1 #[.val (.ref a1)] [(.ref a1)]))
  refine go (fun _ k => XS.iconst X0.here hx rfl (hb hby d6_1) k) ?_
  show G (s₁.setTop (mkF m 2 #[.val (.ref a1)] [(.int (0 : Int32)), (.ref a1)]))
  obtain ⟨T1, h1, X1, e1, W1, st1⟩ := putF X0 hx hZ hown (host := "") (Or.inl (hw _ (List.mem_of_getElem? (i := 23) rfl))) Via.refl e0 Fs E (Or.inl (hw _ (List.mem_of_getElem? (i := 24) rfl))) (hw _ (List.mem_of_getElem? (i := 1) rfl)) (ty := .int) (by decide) rfl rfl (g := (mkF m 2 #[.val (.ref a1)] [(.int (0 : Int32)), (.ref a1)])) rfl rfl (hb hby d6_2)
  have f2 := E.wr W1
  have f3 := Fb.other W1 (Or.inr (slot_ne (Or.inl (hw _ (List.mem_of_getElem? (i := 11) rfl))) (Or.inl (hw _ (List.mem_of_getElem? (i := 24) rfl))) (by decide) (t := (.array .byte)) (t' := .int) (by decide) (by decide)))
  have f4 := VB0.other W1 (Ne.symm hne)
  have K1 : Keep h0 h1 [a1, b] := K0.wr W1 (Or.inl (List.mem_of_getElem? (i := 0) rfl))
  have Zs1 : n0 ≤ h1.size := Nat.le_trans Z0 (Keep.of_wr W1).1
  have N1 := Fr.snoc X1 N0 g_a1
  have Fw1 := Fs.same W1
  refine go st1 ?_
  show G (T1.setTop (mkF m 5 #[.val (.ref a1)] []))
  refine go (fun _ k => XS.aloadN X1.here hx rfl (hb hby d6_5) rfl rfl k) ?_
  show G (T1.setTop (mkF m 6 #[.val (.ref a1)] [(.ref a1)]))
  obtain ⟨T5, X5, e5, st5⟩ := getF X1 hx hZ hown (host := "") (Or.inl (hw _ (List.mem_of_getElem? (i := 10) rfl))) Via.refl e1 f3 (g := (mkF m 6 #[.val (.ref a1)] [(.ref a1)])) rfl rfl (hb hby d6_6)
  refine go st5 ?_
  show G (T5.setTop (mkF m 9 #[.val (.ref a1)] [(.ref b)]))
  obtain ⟨vb6, lb6, VB6⟩ := id f4
  obtain ⟨cl7, Ar7, qk7, qs7, qn7, qh7, qg7⟩ := id VB6
  refine go (X5.arraylength hx (by rw [e5]; exact Ar7.1) (State.isArrayOf_alike hZ.alike Ar7.2.1) (g := (mkF m 9 #[.val (.ref a1)] [(.ref b)])) rfl rfl (hb hby d6_9)) ?_
  rw [len_of qs7 qn7]
  show G (T5.setTop (mkF m 10 #[.val (.ref a1)] [(.int (256 : Int32))]))
  refine go (X5.ldcInt hx hown (mvT hZ (hw _ (List.mem_of_getElem? (i := 35) rfl))) (g := (mkF m 10 #[.val (.ref a1)] [(.int (256 : Int32))])) rfl (hb hby d6_10)) ?_
  show G (T5.setTop (mkF m 12 #[.val (.ref a1)] [(.int (1048576 : Int32)), (.int (256 : Int32))]))
  have hc8 : ¬ ((1048576 : Int32) < (256 : Int32)) := (by decide)
  refine go (fun _ k => XS.icmpYes X5.here hx rfl (pc0 := 12) (pc' := 24) rfl (hb hby d6_12) rfl (flt hc8).2.2.2 (by decide) (by decide) k) ?_
  show G (T5.setTop (mkF m 24 #[.val (.ref a1)] []))
  rw [hG]
  refine own_fin X5 Bd.notSynchronized (v := none) (fun _ => rfl) (fun fs hr => X5.returnOut hx Bd.returns (hb hby d6_24) hr) ?_ (by decide) (by decide)
  show Q6 Z a1 b k sz h0 n0 (none) T5.heap _
  rw [e5]
  exact ⟨rfl, N1, K1, f3, Fw1, f4⟩

theorem pn_0 : plainName "com/example/kerros/kerros/log/OutputClearPinLaw" = true := by first | (simp [plainName, overriddenIn]; done) | decide +kernel
theorem pd_0_0 : parseMethodDescriptor "()V" = some ⟨[], none⟩ := by decide +kernel
theorem pd_0_1 : parseMethodDescriptor "(J)V" = some ⟨[.long], none⟩ := by decide +kernel
theorem pd_0_2 : parseMethodDescriptor "()I" = some ⟨[], some .int⟩ := by decide +kernel
theorem ef_rm0 (m : MethodId) (q1 : Int64) (q2 : Int64) (p3 : Int32) : entryFrame m #[(.long q1), (.long q2), (.int p3)] maxLocals = mkF m 0 #[.val (.long q1), .second, .val (.long q2), .second, .val (.int p3), .unset, .unset, .unset, .unset, .unset] [] := by first | (simp [entryFrame, mkF, argsToLocals, Value.category, maxLocals]; done) | rfl
def Q0 (Z : State) (q1 : Int64) (q2 : Int64) (p3 : Int32) (h0 : Heap) (n0 : Nat) (v : Option Value) (h : Heap) (L : List Loc) : Prop := v = some (.int (1 : Int32)) ∧ Fr n0 L
set_option maxRecDepth 65536 in
set_option maxHeartbeats 40000000 in
theorem rm0 (l : Launch) (Z : State) (a0 : Array Value) (hw : ∀ d ∈ tables_1, d.before a0 Z = true) (ws : List Jvm.Cond) (q1 : Int64) (q2 : Int64) (p3 : Int32) (h0 : Heap) (n0 : Nat) (Z0 : n0 ≤ h0.size) :
    MetFree l x (head1 (Jvm.Cond.code x code maxLocals ret :: ws) room_1) (fun a U => a = #[(.long q1), (.long q2), (.int p3)] ∧ Z.Warmed39 U.vm ∧ U.heap = h0) (fun _ _ _ _ _ => True) (fun _ U o U' => ∃ v L, o = .returned v ∧ Q0 Z q1 q2 p3 h0 n0 v U'.heap L ∧ FrameEnd U o U' L room_1.cells room_1.slots) := by
  refine MetFree.of_bodySF (plainFor_of_name pn_0) hisR ?_
  intro p e s m args below meth c s₁ Bd hml0 hP hK
  obtain ⟨rfl, hZ, hh⟩ := hP
  have hx := Bd.exec
  have hby := Bd.bytes
  have hml : c.maxLocals = 10 := hml0
  have hown : s.vm.findClass "com/example/kerros/kerros/log/OutputClearPinLaw" = some m.cls := findClass_of_methodNamed Bd.named
  have hnm := (name_of_methodNamed Bd.named Bd.method).1
  have X0 : Stand p l e room_1 s m #[(.long q1), (.long q2), (.int p3)] below meth c s₁ [] 0 0 := Stand.of_body Bd
  have e0 : s₁.heap = h0 := by rw [← hh, Bd.state]; rfl
  have N0 := Fr.nil n0
  obtain ⟨G, hG⟩ : ∃ G : State → Prop, G = OwnG p e below s room_1.cells room_1.slots (Q0 Z q1 q2 p3 h0 n0) := ⟨_, rfl⟩
  have go : ∀ {A B : State}, (∀ t, Steps p.tables e below A t → Steps p.tables e below B t) → G A → G B := fun h k => by rw [hG] at k ⊢; exact OwnG.go h k
  suffices k0 : G (s₁.setTop (mkF m 0 #[.val (.long q1), .second, .val (.long q2), .second, .val (.int p3), .unset, .unset, .unset, .unset, .unset] [])) by
    rw [hG] at k0; exact OwnG.go (fun t k => castTop (ef_rm0 m q1 q2 p3) k) k0
  obtain ⟨T1, h1, X1, e1, E1, A1, D1, -, st1⟩ := newO X0 hx hZ hown (hw _ (List.mem_of_getElem? (i := 0) rfl)) (hw _ (List.mem_of_getElem? (i := 1) rfl)) (hw _ (List.mem_of_getElem? (i := 2) rfl)) e0 (g := (mkF m 0 #[.val (.long q1), .second, .val (.long q2), .second, .val (.int p3), .unset, .unset, .unset, .unset, .unset] [])) rfl (hb hby at_0) (by decide) (by decide)
  obtain ⟨b1, ga1⟩ : ∃ z, z = h0.size := ⟨_, rfl⟩
  have g_b1 : n0 ≤ b1 := Nat.le_trans Z0 (Nat.le_of_eq ga1.symm)
  rw [← ga1] at A1 D1 st1
  have Zs1 : n0 ≤ h1.size := Nat.le_trans Z0 E1.1
  have F1_bytes : Fld Z h1 b1 "com/example/kerros/kerros/log/ChangeCodec$Output" "bytes" "[B" .null := D1 (Or.inl (hw _ (List.mem_of_getElem? (i := 11) rfl))) (ty := (.array .byte)) (by decide)
  have F1_size : Fld Z h1 b1 "com/example/kerros/kerros/log/ChangeCodec$Output" "size" "I" (.int (0 : Int32)) := D1 (Or.inl (hw _ (List.mem_of_getElem? (i := 24) rfl))) (ty := .int) (by decide)
  refine go st1 ?_
  show G (T1.setTop (mkF m 3 #[.val (.long q1), .second, .val (.long q2), .second, .val (.int p3), .unset, .unset, .unset, .unset, .unset] [(.ref b1)]))
  refine go (fun _ k => XS.dup X1.here hx rfl (hb hby at_3) rfl rfl k) ?_
  show G (T1.setTop (mkF m 4 #[.val (.long q1), .second, .val (.long q2), .second, .val (.int p3), .unset, .unset, .unset, .unset, .unset] [(.ref b1), (.ref b1)]))
  obtain ⟨_, _, ⟨T2, L2, k2, n2⟩, -, X2, ⟨Lc2, hQ2, l2, y2, z2⟩, st2⟩ := X1.specialBack hx (y := (⟨"com/example/kerros/kerros/log/ChangeCodec$Output", "<init>", "()V"⟩ : MethodName)) rfl hown (mvT hZ (hw _ (List.mem_of_getElem? (i := 3) rfl))) (mvT hZ (hw _ (List.mem_of_getElem? (i := 4) rfl))) (mvT hZ (hw _ (List.mem_of_getElem? (i := 5) rfl))) (by decide) (backOf (W := 1) (rm1 l Z a0 hw [] b1 h1 n0 Zs1 F1_bytes F1_size A1 g_b1) hZ (hw _ (List.mem_of_getElem? (i := 5) rfl)) (hw _ (List.mem_of_getElem? (i := 2) rfl)) (by decide) (by decide)) (g := (mkF m 4 #[.val (.long q1), .second, .val (.long q2), .second, .val (.int p3), .unset, .unset, .unset, .unset, .unset] [(.ref b1), (.ref b1)])) rfl (by rw [hml]; rfl) (Steps.refl _) (a := b1) (argsL := []) (rest := [(.ref b1)]) (lenOf pd_0_0 rfl) rfl (by show 2 * 0 + _ ≤ _; exact Nat.le_of_eq rfl) (hb hby at_4) (fun _ _ => ⟨rfl, e1, (by decide : 1 + 1 ≤ _), (by decide : 2 + 256 ≤ _)⟩)
  dsimp only [Pt.U, Pt.locs, Pt.cells, Pt.slots] at X2 l2 y2 z2 st2 hQ2
  subst l2 y2 z2
  obtain ⟨bb2, kk2, rfl, N2q, Kc2, c2_0, c2_1, c2_2, c2_3⟩ := hQ2
  have ne_b1_bb2 : b1 ≠ bb2 := Nat.ne_of_lt (Nat.lt_of_lt_of_le A1.lt c2_0)
  have g_bb2 : n0 ≤ bb2 := Nat.le_trans Zs1 c2_0
  have f3 := A1.keep Kc2
  have Zs2 : n0 ≤ T2.heap.size := Nat.le_trans Zs1 Kc2.1
  have N2 := Fr.app N0 N2q
  refine go (fun _ k => st2.trans k) ?_
  show G (T2.setTop (mkF m 7 #[.val (.long q1), .second, .val (.long q2), .second, .val (.int p3), .unset, .unset, .unset, .unset, .unset] [(.ref b1)]))
  refine go (fun _ k => XS.astore X2.here hx rfl (hb hby at_7) rfl rfl (l' := #[.val (.long q1), .second, .val (.long q2), .second, .val (.int p3), .val (.ref b1), .unset, .unset, .unset, .unset]) rfl k) ?_
  show G (T2.setTop (mkF m 9 #[.val (.long q1), .second, .val (.long q2), .second, .val (.int p3), .val (.ref b1), .unset, .unset, .unset, .unset] []))
  refine go (fun _ k => XS.aload X2.here hx rfl (hb hby at_9) rfl rfl k) ?_
  show G (T2.setTop (mkF m 11 #[.val (.long q1), .second, .val (.long q2), .second, .val (.int p3), .val (.ref b1), .unset, .unset, .unset, .unset] [(.ref b1)]))
  refine go (fun _ k => XS.lloadN X2.here hx rfl (hb hby at_11) rfl k) ?_
  show G (T2.setTop (mkF m 12 #[.val (.long q1), .second, .val (.long q2), .second, .val (.int p3), .val (.ref b1), .unset, .unset, .unset, .unset] [(.long q1), (.ref b1)]))
  obtain ⟨cq4, kq4, qa4, qb4, qc4⟩ := isOf hZ rfl f3
  obtain ⟨_, _, ⟨T4, L4, k4, n4⟩, -, X4, ⟨Lc4, hQ4, l4, y4, z4⟩, st4⟩ := X2.virtualBack hx (y := (⟨"com/example/kerros/kerros/log/ChangeCodec$Output", "putNumber", "(J)V"⟩ : MethodName)) (z := (⟨"com/example/kerros/kerros/log/ChangeCodec$Output", "putNumber", "(J)V"⟩ : MethodName)) hown (mvT hZ (hw _ (List.mem_of_getElem? (i := 12) rfl))) (mvT hZ (hw _ (List.mem_of_getElem? (i := 13) rfl))) (notFace_of_selects (args := #[]) (mvT hZ (hw _ (List.mem_of_getElem? (i := 15) rfl)))) (mvT hZ (hw _ (List.mem_of_getElem? (i := 15) rfl))) (mvT hZ (hw _ (List.mem_of_getElem? (i := 14) rfl))) (by decide) (backOf (W := 0) (rm3 l Z a0 hw [] b1 q1 bb2 kk2 0 (0 + nl 9 q1) T2.heap n0 Zs2 c2_1 c2_2 f3 c2_3 ne_b1_bb2 g_b1 g_bb2 rfl (by have := own_nl_le 9 q1; omega)) hZ (hw _ (List.mem_of_getElem? (i := 16) rfl)) (hw _ (List.mem_of_getElem? (i := 2) rfl)) (by decide) (by decide)) qa4 qc4 (g := (mkF m 12 #[.val (.long q1), .second, .val (.long q2), .second, .val (.int p3), .val (.ref b1), .unset, .unset, .unset, .unset] [(.long q1), (.ref b1)])) rfl (by rw [hml]; rfl) (Steps.refl _) (argsL := [(.long q1)]) (rest := []) (lenOf pd_0_1 rfl) rfl (by show 2 * 0 + _ ≤ _; exact Nat.le_of_eq rfl) (hb hby at_12) (fun _ _ => ⟨rfl, rfl, (by decide : 2 + 0 ≤ _), (by decide : 258 + 0 ≤ _)⟩)
  dsimp only [Pt.U, Pt.locs, Pt.cells, Pt.slots] at X4 l4 y4 z4 st4 hQ4
  subst l4 y4 z4
  obtain ⟨rfl, N4q, Kc4, c4_0, c4_1, c4_2⟩ := hQ4
  have f5 := f3.keep Kc4
  have Zs4 : n0 ≤ T4.heap.size := Nat.le_trans Zs2 Kc4.1
  have N4 := Fr.app N2 N4q
  refine go (fun _ k => st4.trans k) ?_
  show G (T4.setTop (mkF m 15 #[.val (.long q1), .second, .val (.long q2), .second, .val (.int p3), .val (.ref b1), .unset, .unset, .unset, .unset] []))
  refine go (fun _ k => XS.aload X4.here hx rfl (hb hby at_15) rfl rfl k) ?_
  show G (T4.setTop (mkF m 17 #[.val (.long q1), .second, .val (.long q2), .second, .val (.int p3), .val (.ref b1), .unset, .unset, .unset, .unset] [(.ref b1)]))
  obtain ⟨cq6, kq6, qa6, qb6, qc6⟩ := isOf hZ rfl f5
  obtain ⟨_, _, ⟨T6, L6, k6, n6⟩, -, X6, ⟨Lc6, hQ6, l6, y6, z6⟩, st6⟩ := X4.virtualBack hx (y := (⟨"com/example/kerros/kerros/log/ChangeCodec$Output", "size", "()I"⟩ : MethodName)) (z := (⟨"com/example/kerros/kerros/log/ChangeCodec$Output", "size", "()I"⟩ : MethodName)) hown (mvT hZ (hw _ (List.mem_of_getElem? (i := 25) rfl))) (mvT hZ (hw _ (List.mem_of_getElem? (i := 26) rfl))) (notFace_of_selects (args := #[]) (mvT hZ (hw _ (List.mem_of_getElem? (i := 28) rfl)))) (mvT hZ (hw _ (List.mem_of_getElem? (i := 28) rfl))) (mvT hZ (hw _ (List.mem_of_getElem? (i := 27) rfl))) (by decide) (backOf (W := 0) (rm5 l Z a0 hw [] b1 (Int32.ofNat (0 + nl 9 q1)) T4.heap n0 Zs4 c4_1) hZ (hw _ (List.mem_of_getElem? (i := 29) rfl)) (hw _ (List.mem_of_getElem? (i := 2) rfl)) (by decide) (by decide)) qa6 qc6 (g := (mkF m 17 #[.val (.long q1), .second, .val (.long q2), .second, .val (.int p3), .val (.ref b1), .unset, .unset, .unset, .unset] [(.ref b1)])) rfl (by rw [hml]; rfl) (Steps.refl _) (argsL := []) (rest := []) (lenOf pd_0_2 rfl) rfl (by show 2 * 0 + _ ≤ _; exact Nat.le_of_eq rfl) (hb hby at_17) (fun _ _ => ⟨rfl, rfl, (by decide : 2 + 0 ≤ _), (by decide : 258 + 0 ≤ _)⟩)
  dsimp only [Pt.U, Pt.locs, Pt.cells, Pt.slots] at X6 l6 y6 z6 st6 hQ6
  subst l6 y6 z6
  obtain ⟨rfl, N6q, e6⟩ := hQ6
  have N6 := Fr.app N4 N6q
  refine go (fun _ k => st6.trans k) ?_
  show G (T6.setTop (mkF m 20 #[.val (.long q1), .second, .val (.long q2), .second, .val (.int p3), .val (.ref b1), .unset, .unset, .unset, .unset] [(.int (Int32.ofNat (0 + nl 9 q1)))]))
  refine go (fun _ k => XS.istore X6.here hx rfl (hb hby at_20) rfl (l' := #[.val (.long q1), .second, .val (.long q2), .second, .val (.int p3), .val (.ref b1), .val (.int (Int32.ofNat (0 + nl 9 q1))), .unset, .unset, .unset]) rfl k) ?_
  show G (T6.setTop (mkF m 22 #[.val (.long q1), .second, .val (.long q2), .second, .val (.int p3), .val (.ref b1), .val (.int (Int32.ofNat (0 + nl 9 q1))), .unset, .unset, .unset] []))
  refine go (fun _ k => XS.iload X6.here hx rfl (hb hby at_22) rfl k) ?_
  show G (T6.setTop (mkF m 24 #[.val (.long q1), .second, .val (.long q2), .second, .val (.int p3), .val (.ref b1), .val (.int (Int32.ofNat (0 + nl 9 q1))), .unset, .unset, .unset] [(.int p3)]))
  refine go (fun _ k => XS.iconst X6.here hx rfl (hb hby at_24) k) ?_
  show G (T6.setTop (mkF m 25 #[.val (.long q1), .second, .val (.long q2), .second, .val (.int p3), .val (.ref b1), .val (.int (Int32.ofNat (0 + nl 9 q1))), .unset, .unset, .unset] [(.int (1 : Int32)), (.int p3)]))
  refine go (fun _ k => XS.iand X6.here hx rfl (hb hby at_25) rfl k) ?_
  show G (T6.setTop (mkF m 26 #[.val (.long q1), .second, .val (.long q2), .second, .val (.int p3), .val (.ref b1), .val (.int (Int32.ofNat (0 + nl 9 q1))), .unset, .unset, .unset] [(.int (p3 &&& (1 : Int32)))]))
  by_cases hc26_7 : (p3 &&& (1 : Int32)) = (0 : Int32)
  · refine go (fun _ k => XS.ifYes X6.here hx rfl (pc0 := 26) (pc' := 35) rfl (hb hby at_26) rfl ((if0 _ _).trans (teq hc26_7).1) (by decide) (by decide) k) ?_
    show G (T6.setTop (mkF m 35 #[.val (.long q1), .second, .val (.long q2), .second, .val (.int p3), .val (.ref b1), .val (.int (Int32.ofNat (0 + nl 9 q1))), .unset, .unset, .unset] []))
    refine go (fun _ k => XS.aload X6.here hx rfl (hb hby at_35) rfl rfl k) ?_
    show G (T6.setTop (mkF m 37 #[.val (.long q1), .second, .val (.long q2), .second, .val (.int p3), .val (.ref b1), .val (.int (Int32.ofNat (0 + nl 9 q1))), .unset, .unset, .unset] [(.ref b1)]))
    obtain ⟨cq8, kq8, qa8, qb8, qc8⟩ := isOf hZ e6 f5
    obtain ⟨_, _, ⟨T8, L8, k8, n8⟩, -, X8, ⟨Lc8, hQ8, l8, y8, z8⟩, st8⟩ := X6.virtualBack hx (y := (⟨"com/example/kerros/kerros/log/ChangeCodec$Output", "clear", "()V"⟩ : MethodName)) (z := (⟨"com/example/kerros/kerros/log/ChangeCodec$Output", "clear", "()V"⟩ : MethodName)) hown (mvT hZ (hw _ (List.mem_of_getElem? (i := 30) rfl))) (mvT hZ (hw _ (List.mem_of_getElem? (i := 31) rfl))) (notFace_of_selects (args := #[]) (mvT hZ (hw _ (List.mem_of_getElem? (i := 33) rfl)))) (mvT hZ (hw _ (List.mem_of_getElem? (i := 33) rfl))) (mvT hZ (hw _ (List.mem_of_getElem? (i := 32) rfl))) (by decide) (backOf (W := 0) (rm6 l Z a0 hw [] b1 bb2 kk2 (0 + nl 9 q1) T4.heap n0 Zs4 c4_0 c4_1 f5 c4_2 ne_b1_bb2 g_b1 g_bb2 ) hZ (hw _ (List.mem_of_getElem? (i := 34) rfl)) (hw _ (List.mem_of_getElem? (i := 2) rfl)) (by decide) (by decide)) qa8 qc8 (g := (mkF m 37 #[.val (.long q1), .second, .val (.long q2), .second, .val (.int p3), .val (.ref b1), .val (.int (Int32.ofNat (0 + nl 9 q1))), .unset, .unset, .unset] [(.ref b1)])) rfl (by rw [hml]; rfl) (Steps.refl _) (argsL := []) (rest := []) (lenOf pd_0_0 rfl) rfl (by show 2 * 0 + _ ≤ _; exact Nat.le_of_eq rfl) (hb hby at_37) (fun _ _ => ⟨rfl, e6, (by decide : 2 + 0 ≤ _), (by decide : 258 + 0 ≤ _)⟩)
    dsimp only [Pt.U, Pt.locs, Pt.cells, Pt.slots] at X8 l8 y8 z8 st8 hQ8
    subst l8 y8 z8
    obtain ⟨rfl, N8q, Kc8, c8_0, c8_1, c8_2⟩ := hQ8
    have f9 := f5.keep Kc8
    have Zs8 : n0 ≤ T8.heap.size := Nat.le_trans Zs4 Kc8.1
    have N8 := Fr.app N6 N8q
    refine go (fun _ k => st8.trans k) ?_
    show G (T8.setTop (mkF m 40 #[.val (.long q1), .second, .val (.long q2), .second, .val (.int p3), .val (.ref b1), .val (.int (Int32.ofNat (0 + nl 9 q1))), .unset, .unset, .unset] []))
    refine go (fun _ k => XS.aload X8.here hx rfl (hb hby at_40) rfl rfl k) ?_
    show G (T8.setTop (mkF m 42 #[.val (.long q1), .second, .val (.long q2), .second, .val (.int p3), .val (.ref b1), .val (.int (Int32.ofNat (0 + nl 9 q1))), .unset, .unset, .unset] [(.ref b1)]))
    obtain ⟨cq10, kq10, qa10, qb10, qc10⟩ := isOf hZ rfl f9
    obtain ⟨_, _, ⟨T10, L10, k10, n10⟩, -, X10, ⟨Lc10, hQ10, l10, y10, z10⟩, st10⟩ := X8.virtualBack hx (y := (⟨"com/example/kerros/kerros/log/ChangeCodec$Output", "size", "()I"⟩ : MethodName)) (z := (⟨"com/example/kerros/kerros/log/ChangeCodec$Output", "size", "()I"⟩ : MethodName)) hown (mvT hZ (hw _ (List.mem_of_getElem? (i := 25) rfl))) (mvT hZ (hw _ (List.mem_of_getElem? (i := 26) rfl))) (notFace_of_selects (args := #[]) (mvT hZ (hw _ (List.mem_of_getElem? (i := 28) rfl)))) (mvT hZ (hw _ (List.mem_of_getElem? (i := 28) rfl))) (mvT hZ (hw _ (List.mem_of_getElem? (i := 27) rfl))) (by decide) (backOf (W := 0) (rm5 l Z a0 hw [] b1 (Int32.ofNat 0) T8.heap n0 Zs8 c8_1) hZ (hw _ (List.mem_of_getElem? (i := 29) rfl)) (hw _ (List.mem_of_getElem? (i := 2) rfl)) (by decide) (by decide)) qa10 qc10 (g := (mkF m 42 #[.val (.long q1), .second, .val (.long q2), .second, .val (.int p3), .val (.ref b1), .val (.int (Int32.ofNat (0 + nl 9 q1))), .unset, .unset, .unset] [(.ref b1)])) rfl (by rw [hml]; rfl) (Steps.refl _) (argsL := []) (rest := []) (lenOf pd_0_2 rfl) rfl (by show 2 * 0 + _ ≤ _; exact Nat.le_of_eq rfl) (hb hby at_42) (fun _ _ => ⟨rfl, rfl, (by decide : 2 + 0 ≤ _), (by decide : 258 + 0 ≤ _)⟩)
    dsimp only [Pt.U, Pt.locs, Pt.cells, Pt.slots] at X10 l10 y10 z10 st10 hQ10
    subst l10 y10 z10
    obtain ⟨rfl, N10q, e10⟩ := hQ10
    have N10 := Fr.app N8 N10q
    refine go (fun _ k => st10.trans k) ?_
    show G (T10.setTop (mkF m 45 #[.val (.long q1), .second, .val (.long q2), .second, .val (.int p3), .val (.ref b1), .val (.int (Int32.ofNat (0 + nl 9 q1))), .unset, .unset, .unset] [(.int (Int32.ofNat 0))]))
    refine go (fun _ k => XS.istore X10.here hx rfl (hb hby at_45) rfl (l' := #[.val (.long q1), .second, .val (.long q2), .second, .val (.int p3), .val (.ref b1), .val (.int (Int32.ofNat (0 + nl 9 q1))), .val (.int (Int32.ofNat 0)), .unset, .unset]) rfl k) ?_
    show G (T10.setTop (mkF m 47 #[.val (.long q1), .second, .val (.long q2), .second, .val (.int p3), .val (.ref b1), .val (.int (Int32.ofNat (0 + nl 9 q1))), .val (.int (Int32.ofNat 0)), .unset, .unset] []))
    refine go (fun _ k => XS.iconst X10.here hx rfl (hb hby at_47) k) ?_
    show G (T10.setTop (mkF m 48 #[.val (.long q1), .second, .val (.long q2), .second, .val (.int p3), .val (.ref b1), .val (.int (Int32.ofNat (0 + nl 9 q1))), .val (.int (Int32.ofNat 0)), .unset, .unset] [(.int (0 : Int32))]))
    refine go (fun _ k => XS.istore X10.here hx rfl (hb hby at_48) rfl (l' := #[.val (.long q1), .second, .val (.long q2), .second, .val (.int p3), .val (.ref b1), .val (.int (Int32.ofNat (0 + nl 9 q1))), .val (.int (Int32.ofNat 0)), .val (.int (0 : Int32)), .unset]) rfl k) ?_
    show G (T10.setTop (mkF m 50 #[.val (.long q1), .second, .val (.long q2), .second, .val (.int p3), .val (.ref b1), .val (.int (Int32.ofNat (0 + nl 9 q1))), .val (.int (Int32.ofNat 0)), .val (.int (0 : Int32)), .unset] []))
    refine go (fun _ k => XS.iload X10.here hx rfl (hb hby at_50) rfl k) ?_
    show G (T10.setTop (mkF m 52 #[.val (.long q1), .second, .val (.long q2), .second, .val (.int p3), .val (.ref b1), .val (.int (Int32.ofNat (0 + nl 9 q1))), .val (.int (Int32.ofNat 0)), .val (.int (0 : Int32)), .unset] [(.int p3)]))
    refine go (fun _ k => XS.iconst X10.here hx rfl (hb hby at_52) k) ?_
    show G (T10.setTop (mkF m 53 #[.val (.long q1), .second, .val (.long q2), .second, .val (.int p3), .val (.ref b1), .val (.int (Int32.ofNat (0 + nl 9 q1))), .val (.int (Int32.ofNat 0)), .val (.int (0 : Int32)), .unset] [(.int (2 : Int32)), (.int p3)]))
    refine go (fun _ k => XS.iand X10.here hx rfl (hb hby at_53) rfl k) ?_
    show G (T10.setTop (mkF m 54 #[.val (.long q1), .second, .val (.long q2), .second, .val (.int p3), .val (.ref b1), .val (.int (Int32.ofNat (0 + nl 9 q1))), .val (.int (Int32.ofNat 0)), .val (.int (0 : Int32)), .unset] [(.int (p3 &&& (2 : Int32)))]))
    by_cases hc54_11 : (p3 &&& (2 : Int32)) = (0 : Int32)
    · refine go (fun _ k => XS.ifYes X10.here hx rfl (pc0 := 54) (pc' := 69) rfl (hb hby at_54) rfl ((if0 _ _).trans (teq hc54_11).1) (by decide) (by decide) k) ?_
      show G (T10.setTop (mkF m 69 #[.val (.long q1), .second, .val (.long q2), .second, .val (.int p3), .val (.ref b1), .val (.int (Int32.ofNat (0 + nl 9 q1))), .val (.int (Int32.ofNat 0)), .val (.int (0 : Int32)), .unset] []))
      refine go (fun _ k => XS.aload X10.here hx rfl (hb hby at_69) rfl rfl k) ?_
      show G (T10.setTop (mkF m 71 #[.val (.long q1), .second, .val (.long q2), .second, .val (.int p3), .val (.ref b1), .val (.int (Int32.ofNat (0 + nl 9 q1))), .val (.int (Int32.ofNat 0)), .val (.int (0 : Int32)), .unset] [(.ref b1)]))
      refine go (fun _ k => XS.lloadN X10.here hx rfl (hb hby at_71) rfl k) ?_
      show G (T10.setTop (mkF m 72 #[.val (.long q1), .second, .val (.long q2), .second, .val (.int p3), .val (.ref b1), .val (.int (Int32.ofNat (0 + nl 9 q1))), .val (.int (Int32.ofNat 0)), .val (.int (0 : Int32)), .unset] [(.long q1), (.ref b1)]))
      obtain ⟨cq12, kq12, qa12, qb12, qc12⟩ := isOf hZ e10 f9
      obtain ⟨_, _, ⟨T12, L12, k12, n12⟩, -, X12, ⟨Lc12, hQ12, l12, y12, z12⟩, st12⟩ := X10.virtualBack hx (y := (⟨"com/example/kerros/kerros/log/ChangeCodec$Output", "putNumber", "(J)V"⟩ : MethodName)) (z := (⟨"com/example/kerros/kerros/log/ChangeCodec$Output", "putNumber", "(J)V"⟩ : MethodName)) hown (mvT hZ (hw _ (List.mem_of_getElem? (i := 12) rfl))) (mvT hZ (hw _ (List.mem_of_getElem? (i := 13) rfl))) (notFace_of_selects (args := #[]) (mvT hZ (hw _ (List.mem_of_getElem? (i := 15) rfl)))) (mvT hZ (hw _ (List.mem_of_getElem? (i := 15) rfl))) (mvT hZ (hw _ (List.mem_of_getElem? (i := 14) rfl))) (by decide) (backOf (W := 0) (rm3 l Z a0 hw [] b1 q1 bb2 kk2 0 (0 + nl 9 q1) T8.heap n0 Zs8 c8_0 c8_1 f9 c8_2 ne_b1_bb2 g_b1 g_bb2 rfl (by have := own_nl_le 9 q1; omega)) hZ (hw _ (List.mem_of_getElem? (i := 16) rfl)) (hw _ (List.mem_of_getElem? (i := 2) rfl)) (by decide) (by decide)) qa12 qc12 (g := (mkF m 72 #[.val (.long q1), .second, .val (.long q2), .second, .val (.int p3), .val (.ref b1), .val (.int (Int32.ofNat (0 + nl 9 q1))), .val (.int (Int32.ofNat 0)), .val (.int (0 : Int32)), .unset] [(.long q1), (.ref b1)])) rfl (by rw [hml]; rfl) (Steps.refl _) (argsL := [(.long q1)]) (rest := []) (lenOf pd_0_1 rfl) rfl (by show 2 * 0 + _ ≤ _; exact Nat.le_of_eq rfl) (hb hby at_72) (fun _ _ => ⟨rfl, e10, (by decide : 2 + 0 ≤ _), (by decide : 258 + 0 ≤ _)⟩)
      dsimp only [Pt.U, Pt.locs, Pt.cells, Pt.slots] at X12 l12 y12 z12 st12 hQ12
      subst l12 y12 z12
      obtain ⟨rfl, N12q, Kc12, c12_0, c12_1, c12_2⟩ := hQ12
      have f13 := f9.keep Kc12
      have Zs12 : n0 ≤ T12.heap.size := Nat.le_trans Zs8 Kc12.1
      have N12 := Fr.app N10 N12q
      refine go (fun _ k => st12.trans k) ?_
      show G (T12.setTop (mkF m 75 #[.val (.long q1), .second, .val (.long q2), .second, .val (.int p3), .val (.ref b1), .val (.int (Int32.ofNat (0 + nl 9 q1))), .val (.int (Int32.ofNat 0)), .val (.int (0 : Int32)), .unset] []))
      refine go (fun _ k => XS.aload X12.here hx rfl (hb hby at_75) rfl rfl k) ?_
      show G (T12.setTop (mkF m 77 #[.val (.long q1), .second, .val (.long q2), .second, .val (.int p3), .val (.ref b1), .val (.int (Int32.ofNat (0 + nl 9 q1))), .val (.int (Int32.ofNat 0)), .val (.int (0 : Int32)), .unset] [(.ref b1)]))
      obtain ⟨cq14, kq14, qa14, qb14, qc14⟩ := isOf hZ rfl f13
      obtain ⟨_, _, ⟨T14, L14, k14, n14⟩, -, X14, ⟨Lc14, hQ14, l14, y14, z14⟩, st14⟩ := X12.virtualBack hx (y := (⟨"com/example/kerros/kerros/log/ChangeCodec$Output", "size", "()I"⟩ : MethodName)) (z := (⟨"com/example/kerros/kerros/log/ChangeCodec$Output", "size", "()I"⟩ : MethodName)) hown (mvT hZ (hw _ (List.mem_of_getElem? (i := 25) rfl))) (mvT hZ (hw _ (List.mem_of_getElem? (i := 26) rfl))) (notFace_of_selects (args := #[]) (mvT hZ (hw _ (List.mem_of_getElem? (i := 28) rfl)))) (mvT hZ (hw _ (List.mem_of_getElem? (i := 28) rfl))) (mvT hZ (hw _ (List.mem_of_getElem? (i := 27) rfl))) (by decide) (backOf (W := 0) (rm5 l Z a0 hw [] b1 (Int32.ofNat (0 + nl 9 q1)) T12.heap n0 Zs12 c12_1) hZ (hw _ (List.mem_of_getElem? (i := 29) rfl)) (hw _ (List.mem_of_getElem? (i := 2) rfl)) (by decide) (by decide)) qa14 qc14 (g := (mkF m 77 #[.val (.long q1), .second, .val (.long q2), .second, .val (.int p3), .val (.ref b1), .val (.int (Int32.ofNat (0 + nl 9 q1))), .val (.int (Int32.ofNat 0)), .val (.int (0 : Int32)), .unset] [(.ref b1)])) rfl (by rw [hml]; rfl) (Steps.refl _) (argsL := []) (rest := []) (lenOf pd_0_2 rfl) rfl (by show 2 * 0 + _ ≤ _; exact Nat.le_of_eq rfl) (hb hby at_77) (fun _ _ => ⟨rfl, rfl, (by decide : 2 + 0 ≤ _), (by decide : 258 + 0 ≤ _)⟩)
      dsimp only [Pt.U, Pt.locs, Pt.cells, Pt.slots] at X14 l14 y14 z14 st14 hQ14
      subst l14 y14 z14
      obtain ⟨rfl, N14q, e14⟩ := hQ14
      have N14 := Fr.app N12 N14q
      refine go (fun _ k => st14.trans k) ?_
      show G (T14.setTop (mkF m 80 #[.val (.long q1), .second, .val (.long q2), .second, .val (.int p3), .val (.ref b1), .val (.int (Int32.ofNat (0 + nl 9 q1))), .val (.int (Int32.ofNat 0)), .val (.int (0 : Int32)), .unset] [(.int (Int32.ofNat (0 + nl 9 q1)))]))
      refine go (fun _ k => XS.istore X14.here hx rfl (hb hby at_80) rfl (l' := #[.val (.long q1), .second, .val (.long q2), .second, .val (.int p3), .val (.ref b1), .val (.int (Int32.ofNat (0 + nl 9 q1))), .val (.int (Int32.ofNat 0)), .val (.int (0 : Int32)), .val (.int (Int32.ofNat (0 + nl 9 q1)))]) rfl k) ?_
      show G (T14.setTop (mkF m 82 #[.val (.long q1), .second, .val (.long q2), .second, .val (.int p3), .val (.ref b1), .val (.int (Int32.ofNat (0 + nl 9 q1))), .val (.int (Int32.ofNat 0)), .val (.int (0 : Int32)), .val (.int (Int32.ofNat (0 + nl 9 q1)))] []))
      refine go (fun _ k => XS.iload X14.here hx rfl (hb hby at_82) rfl k) ?_
      show G (T14.setTop (mkF m 84 #[.val (.long q1), .second, .val (.long q2), .second, .val (.int p3), .val (.ref b1), .val (.int (Int32.ofNat (0 + nl 9 q1))), .val (.int (Int32.ofNat 0)), .val (.int (0 : Int32)), .val (.int (Int32.ofNat (0 + nl 9 q1)))] [(.int (Int32.ofNat 0))]))
      have hc15 : (Int32.ofNat 0) = (0 : Int32) := rfl
      refine go (fun _ k => XS.ifNo X14.here hx rfl (hb hby at_84) rfl ((if0 _ _).trans (teq hc15).2) k) ?_
      show G (T14.setTop (mkF m 87 #[.val (.long q1), .second, .val (.long q2), .second, .val (.int p3), .val (.ref b1), .val (.int (Int32.ofNat (0 + nl 9 q1))), .val (.int (Int32.ofNat 0)), .val (.int (0 : Int32)), .val (.int (Int32.ofNat (0 + nl 9 q1)))] []))
      refine go (fun _ k => XS.iload X14.here hx rfl (hb hby at_87) rfl k) ?_
      show G (T14.setTop (mkF m 89 #[.val (.long q1), .second, .val (.long q2), .second, .val (.int p3), .val (.ref b1), .val (.int (Int32.ofNat (0 + nl 9 q1))), .val (.int (Int32.ofNat 0)), .val (.int (0 : Int32)), .val (.int (Int32.ofNat (0 + nl 9 q1)))] [(.int (0 : Int32))]))
      have hc16 : (0 : Int32) = (0 : Int32) := rfl
      refine go (fun _ k => XS.ifNo X14.here hx rfl (hb hby at_89) rfl ((if0 _ _).trans (teq hc16).2) k) ?_
      show G (T14.setTop (mkF m 92 #[.val (.long q1), .second, .val (.long q2), .second, .val (.int p3), .val (.ref b1), .val (.int (Int32.ofNat (0 + nl 9 q1))), .val (.int (Int32.ofNat 0)), .val (.int (0 : Int32)), .val (.int (Int32.ofNat (0 + nl 9 q1)))] []))
      refine go (fun _ k => XS.iload X14.here hx rfl (hb hby at_92) rfl k) ?_
      show G (T14.setTop (mkF m 94 #[.val (.long q1), .second, .val (.long q2), .second, .val (.int p3), .val (.ref b1), .val (.int (Int32.ofNat (0 + nl 9 q1))), .val (.int (Int32.ofNat 0)), .val (.int (0 : Int32)), .val (.int (Int32.ofNat (0 + nl 9 q1)))] [(.int (Int32.ofNat (0 + nl 9 q1)))]))
      refine go (fun _ k => XS.iload X14.here hx rfl (hb hby at_94) rfl k) ?_
      show G (T14.setTop (mkF m 96 #[.val (.long q1), .second, .val (.long q2), .second, .val (.int p3), .val (.ref b1), .val (.int (Int32.ofNat (0 + nl 9 q1))), .val (.int (Int32.ofNat 0)), .val (.int (0 : Int32)), .val (.int (Int32.ofNat (0 + nl 9 q1)))] [(.int (Int32.ofNat (0 + nl 9 q1))), (.int (Int32.ofNat (0 + nl 9 q1)))]))
      have hc17 : (Int32.ofNat (0 + nl 9 q1)) = (Int32.ofNat (0 + nl 9 q1)) := rfl
      refine go (fun _ k => XS.icmpNo X14.here hx rfl (hb hby at_96) rfl (teq hc17).2 k) ?_
      show G (T14.setTop (mkF m 99 #[.val (.long q1), .second, .val (.long q2), .second, .val (.int p3), .val (.ref b1), .val (.int (Int32.ofNat (0 + nl 9 q1))), .val (.int (Int32.ofNat 0)), .val (.int (0 : Int32)), .val (.int (Int32.ofNat (0 + nl 9 q1)))] []))
      refine go (fun _ k => XS.iload X14.here hx rfl (hb hby at_99) rfl k) ?_
      show G (T14.setTop (mkF m 101 #[.val (.long q1), .second, .val (.long q2), .second, .val (.int p3), .val (.ref b1), .val (.int (Int32.ofNat (0 + nl 9 q1))), .val (.int (Int32.ofNat 0)), .val (.int (0 : Int32)), .val (.int (Int32.ofNat (0 + nl 9 q1)))] [(.int (Int32.ofNat (0 + nl 9 q1)))]))
      refine go (fun _ k => XS.iconst X14.here hx rfl (hb hby at_101) k) ?_
      show G (T14.setTop (mkF m 102 #[.val (.long q1), .second, .val (.long q2), .second, .val (.int p3), .val (.ref b1), .val (.int (Int32.ofNat (0 + nl 9 q1))), .val (.int (Int32.ofNat 0)), .val (.int (0 : Int32)), .val (.int (Int32.ofNat (0 + nl 9 q1)))] [(.int (1 : Int32)), (.int (Int32.ofNat (0 + nl 9 q1)))]))
      have hc18 : ¬ ((Int32.ofNat (0 + nl 9 q1)) < (1 : Int32)) := by rw [Nat.zero_add]; exact (own_len q1).1
      refine go (fun _ k => XS.icmpNo X14.here hx rfl (hb hby at_102) rfl (flt hc18).1 k) ?_
      show G (T14.setTop (mkF m 105 #[.val (.long q1), .second, .val (.long q2), .second, .val (.int p3), .val (.ref b1), .val (.int (Int32.ofNat (0 + nl 9 q1))), .val (.int (Int32.ofNat 0)), .val (.int (0 : Int32)), .val (.int (Int32.ofNat (0 + nl 9 q1)))] []))
      refine go (fun _ k => XS.iload X14.here hx rfl (hb hby at_105) rfl k) ?_
      show G (T14.setTop (mkF m 107 #[.val (.long q1), .second, .val (.long q2), .second, .val (.int p3), .val (.ref b1), .val (.int (Int32.ofNat (0 + nl 9 q1))), .val (.int (Int32.ofNat 0)), .val (.int (0 : Int32)), .val (.int (Int32.ofNat (0 + nl 9 q1)))] [(.int (Int32.ofNat (0 + nl 9 q1)))]))
      refine go (fun _ k => XS.bipush X14.here hx rfl (hb hby at_107) k) ?_
      show G (T14.setTop (mkF m 109 #[.val (.long q1), .second, .val (.long q2), .second, .val (.int p3), .val (.ref b1), .val (.int (Int32.ofNat (0 + nl 9 q1))), .val (.int (Int32.ofNat 0)), .val (.int (0 : Int32)), .val (.int (Int32.ofNat (0 + nl 9 q1)))] [(.int (10 : Int32)), (.int (Int32.ofNat (0 + nl 9 q1)))]))
      have hc19 : ¬ ((10 : Int32) < (Int32.ofNat (0 + nl 9 q1))) := by rw [Nat.zero_add]; exact (own_len q1).2
      refine go (fun _ k => XS.icmpNo X14.here hx rfl (hb hby at_109) rfl (flt hc19).2.2.1 k) ?_
      show G (T14.setTop (mkF m 112 #[.val (.long q1), .second, .val (.long q2), .second, .val (.int p3), .val (.ref b1), .val (.int (Int32.ofNat (0 + nl 9 q1))), .val (.int (Int32.ofNat 0)), .val (.int (0 : Int32)), .val (.int (Int32.ofNat (0 + nl 9 q1)))] []))
      refine go (fun _ k => XS.iconst X14.here hx rfl (hb hby at_112) k) ?_
      show G (T14.setTop (mkF m 113 #[.val (.long q1), .second, .val (.long q2), .second, .val (.int p3), .val (.ref b1), .val (.int (Int32.ofNat (0 + nl 9 q1))), .val (.int (Int32.ofNat 0)), .val (.int (0 : Int32)), .val (.int (Int32.ofNat (0 + nl 9 q1)))] [(.int (1 : Int32))]))
      refine go (fun _ k => XS.goto X14.here hx rfl (pc0 := 113) (pc' := 117) rfl (hb hby at_113) (by decide) (by decide) k) ?_
      show G (T14.setTop (mkF m 117 #[.val (.long q1), .second, .val (.long q2), .second, .val (.int p3), .val (.ref b1), .val (.int (Int32.ofNat (0 + nl 9 q1))), .val (.int (Int32.ofNat 0)), .val (.int (0 : Int32)), .val (.int (Int32.ofNat (0 + nl 9 q1)))] [(.int (1 : Int32))]))
      rw [hG]
      refine own_fin X14 Bd.notSynchronized (v := some (.int (1 : Int32))) (fun h => by rw [Bd.returns] at h; cases h) (fun fs hr => retOut X14 hx Bd.returns rfl (by simp [FieldType.isReference, Value.isRef]) (hb hby at_117) hr) ?_ (by decide) (by decide)
      show Q0 Z q1 q2 p3 h0 n0 (some (.int (1 : Int32))) T14.heap _
      rw [e14]
      exact ⟨rfl, N14⟩
    · refine go (fun _ k => XS.ifNo X10.here hx rfl (hb hby at_54) rfl ((if0 _ _).trans (feq hc54_11).1) k) ?_
      show G (T10.setTop (mkF m 57 #[.val (.long q1), .second, .val (.long q2), .second, .val (.int p3), .val (.ref b1), .val (.int (Int32.ofNat (0 + nl 9 q1))), .val (.int (Int32.ofNat 0)), .val (.int (0 : Int32)), .unset] []))
      refine go (fun _ k => XS.aload X10.here hx rfl (hb hby at_57) rfl rfl k) ?_
      show G (T10.setTop (mkF m 59 #[.val (.long q1), .second, .val (.long q2), .second, .val (.int p3), .val (.ref b1), .val (.int (Int32.ofNat (0 + nl 9 q1))), .val (.int (Int32.ofNat 0)), .val (.int (0 : Int32)), .unset] [(.ref b1)]))
      obtain ⟨cq20, kq20, qa20, qb20, qc20⟩ := isOf hZ e10 f9
      obtain ⟨_, _, ⟨T20, L20, k20, n20⟩, -, X20, ⟨Lc20, hQ20, l20, y20, z20⟩, st20⟩ := X10.virtualBack hx (y := (⟨"com/example/kerros/kerros/log/ChangeCodec$Output", "clear", "()V"⟩ : MethodName)) (z := (⟨"com/example/kerros/kerros/log/ChangeCodec$Output", "clear", "()V"⟩ : MethodName)) hown (mvT hZ (hw _ (List.mem_of_getElem? (i := 30) rfl))) (mvT hZ (hw _ (List.mem_of_getElem? (i := 31) rfl))) (notFace_of_selects (args := #[]) (mvT hZ (hw _ (List.mem_of_getElem? (i := 33) rfl)))) (mvT hZ (hw _ (List.mem_of_getElem? (i := 33) rfl))) (mvT hZ (hw _ (List.mem_of_getElem? (i := 32) rfl))) (by decide) (backOf (W := 0) (rm6 l Z a0 hw [] b1 bb2 kk2 0 T8.heap n0 Zs8 c8_0 c8_1 f9 c8_2 ne_b1_bb2 g_b1 g_bb2 ) hZ (hw _ (List.mem_of_getElem? (i := 34) rfl)) (hw _ (List.mem_of_getElem? (i := 2) rfl)) (by decide) (by decide)) qa20 qc20 (g := (mkF m 59 #[.val (.long q1), .second, .val (.long q2), .second, .val (.int p3), .val (.ref b1), .val (.int (Int32.ofNat (0 + nl 9 q1))), .val (.int (Int32.ofNat 0)), .val (.int (0 : Int32)), .unset] [(.ref b1)])) rfl (by rw [hml]; rfl) (Steps.refl _) (argsL := []) (rest := []) (lenOf pd_0_0 rfl) rfl (by show 2 * 0 + _ ≤ _; exact Nat.le_of_eq rfl) (hb hby at_59) (fun _ _ => ⟨rfl, e10, (by decide : 2 + 0 ≤ _), (by decide : 258 + 0 ≤ _)⟩)
      dsimp only [Pt.U, Pt.locs, Pt.cells, Pt.slots] at X20 l20 y20 z20 st20 hQ20
      subst l20 y20 z20
      obtain ⟨rfl, N20q, Kc20, c20_0, c20_1, c20_2⟩ := hQ20
      have f21 := f9.keep Kc20
      have Zs20 : n0 ≤ T20.heap.size := Nat.le_trans Zs8 Kc20.1
      have N20 := Fr.app N10 N20q
      refine go (fun _ k => st20.trans k) ?_
      show G (T20.setTop (mkF m 62 #[.val (.long q1), .second, .val (.long q2), .second, .val (.int p3), .val (.ref b1), .val (.int (Int32.ofNat (0 + nl 9 q1))), .val (.int (Int32.ofNat 0)), .val (.int (0 : Int32)), .unset] []))
      refine go (fun _ k => XS.aload X20.here hx rfl (hb hby at_62) rfl rfl k) ?_
      show G (T20.setTop (mkF m 64 #[.val (.long q1), .second, .val (.long q2), .second, .val (.int p3), .val (.ref b1), .val (.int (Int32.ofNat (0 + nl 9 q1))), .val (.int (Int32.ofNat 0)), .val (.int (0 : Int32)), .unset] [(.ref b1)]))
      obtain ⟨cq22, kq22, qa22, qb22, qc22⟩ := isOf hZ rfl f21
      obtain ⟨_, _, ⟨T22, L22, k22, n22⟩, -, X22, ⟨Lc22, hQ22, l22, y22, z22⟩, st22⟩ := X20.virtualBack hx (y := (⟨"com/example/kerros/kerros/log/ChangeCodec$Output", "size", "()I"⟩ : MethodName)) (z := (⟨"com/example/kerros/kerros/log/ChangeCodec$Output", "size", "()I"⟩ : MethodName)) hown (mvT hZ (hw _ (List.mem_of_getElem? (i := 25) rfl))) (mvT hZ (hw _ (List.mem_of_getElem? (i := 26) rfl))) (notFace_of_selects (args := #[]) (mvT hZ (hw _ (List.mem_of_getElem? (i := 28) rfl)))) (mvT hZ (hw _ (List.mem_of_getElem? (i := 28) rfl))) (mvT hZ (hw _ (List.mem_of_getElem? (i := 27) rfl))) (by decide) (backOf (W := 0) (rm5 l Z a0 hw [] b1 (Int32.ofNat 0) T20.heap n0 Zs20 c20_1) hZ (hw _ (List.mem_of_getElem? (i := 29) rfl)) (hw _ (List.mem_of_getElem? (i := 2) rfl)) (by decide) (by decide)) qa22 qc22 (g := (mkF m 64 #[.val (.long q1), .second, .val (.long q2), .second, .val (.int p3), .val (.ref b1), .val (.int (Int32.ofNat (0 + nl 9 q1))), .val (.int (Int32.ofNat 0)), .val (.int (0 : Int32)), .unset] [(.ref b1)])) rfl (by rw [hml]; rfl) (Steps.refl _) (argsL := []) (rest := []) (lenOf pd_0_2 rfl) rfl (by show 2 * 0 + _ ≤ _; exact Nat.le_of_eq rfl) (hb hby at_64) (fun _ _ => ⟨rfl, rfl, (by decide : 2 + 0 ≤ _), (by decide : 258 + 0 ≤ _)⟩)
      dsimp only [Pt.U, Pt.locs, Pt.cells, Pt.slots] at X22 l22 y22 z22 st22 hQ22
      subst l22 y22 z22
      obtain ⟨rfl, N22q, e22⟩ := hQ22
      have N22 := Fr.app N20 N22q
      refine go (fun _ k => st22.trans k) ?_
      show G (T22.setTop (mkF m 67 #[.val (.long q1), .second, .val (.long q2), .second, .val (.int p3), .val (.ref b1), .val (.int (Int32.ofNat (0 + nl 9 q1))), .val (.int (Int32.ofNat 0)), .val (.int (0 : Int32)), .unset] [(.int (Int32.ofNat 0))]))
      refine go (fun _ k => XS.istore X22.here hx rfl (hb hby at_67) rfl (l' := #[.val (.long q1), .second, .val (.long q2), .second, .val (.int p3), .val (.ref b1), .val (.int (Int32.ofNat (0 + nl 9 q1))), .val (.int (Int32.ofNat 0)), .val (.int (Int32.ofNat 0)), .unset]) rfl k) ?_
      show G (T22.setTop (mkF m 69 #[.val (.long q1), .second, .val (.long q2), .second, .val (.int p3), .val (.ref b1), .val (.int (Int32.ofNat (0 + nl 9 q1))), .val (.int (Int32.ofNat 0)), .val (.int (Int32.ofNat 0)), .unset] []))
      refine go (fun _ k => XS.aload X22.here hx rfl (hb hby at_69) rfl rfl k) ?_
      show G (T22.setTop (mkF m 71 #[.val (.long q1), .second, .val (.long q2), .second, .val (.int p3), .val (.ref b1), .val (.int (Int32.ofNat (0 + nl 9 q1))), .val (.int (Int32.ofNat 0)), .val (.int (Int32.ofNat 0)), .unset] [(.ref b1)]))
      refine go (fun _ k => XS.lloadN X22.here hx rfl (hb hby at_71) rfl k) ?_
      show G (T22.setTop (mkF m 72 #[.val (.long q1), .second, .val (.long q2), .second, .val (.int p3), .val (.ref b1), .val (.int (Int32.ofNat (0 + nl 9 q1))), .val (.int (Int32.ofNat 0)), .val (.int (Int32.ofNat 0)), .unset] [(.long q1), (.ref b1)]))
      obtain ⟨cq23, kq23, qa23, qb23, qc23⟩ := isOf hZ e22 f21
      obtain ⟨_, _, ⟨T23, L23, k23, n23⟩, -, X23, ⟨Lc23, hQ23, l23, y23, z23⟩, st23⟩ := X22.virtualBack hx (y := (⟨"com/example/kerros/kerros/log/ChangeCodec$Output", "putNumber", "(J)V"⟩ : MethodName)) (z := (⟨"com/example/kerros/kerros/log/ChangeCodec$Output", "putNumber", "(J)V"⟩ : MethodName)) hown (mvT hZ (hw _ (List.mem_of_getElem? (i := 12) rfl))) (mvT hZ (hw _ (List.mem_of_getElem? (i := 13) rfl))) (notFace_of_selects (args := #[]) (mvT hZ (hw _ (List.mem_of_getElem? (i := 15) rfl)))) (mvT hZ (hw _ (List.mem_of_getElem? (i := 15) rfl))) (mvT hZ (hw _ (List.mem_of_getElem? (i := 14) rfl))) (by decide) (backOf (W := 0) (rm3 l Z a0 hw [] b1 q1 bb2 kk2 0 (0 + nl 9 q1) T20.heap n0 Zs20 c20_0 c20_1 f21 c20_2 ne_b1_bb2 g_b1 g_bb2 rfl (by have := own_nl_le 9 q1; omega)) hZ (hw _ (List.mem_of_getElem? (i := 16) rfl)) (hw _ (List.mem_of_getElem? (i := 2) rfl)) (by decide) (by decide)) qa23 qc23 (g := (mkF m 72 #[.val (.long q1), .second, .val (.long q2), .second, .val (.int p3), .val (.ref b1), .val (.int (Int32.ofNat (0 + nl 9 q1))), .val (.int (Int32.ofNat 0)), .val (.int (Int32.ofNat 0)), .unset] [(.long q1), (.ref b1)])) rfl (by rw [hml]; rfl) (Steps.refl _) (argsL := [(.long q1)]) (rest := []) (lenOf pd_0_1 rfl) rfl (by show 2 * 0 + _ ≤ _; exact Nat.le_of_eq rfl) (hb hby at_72) (fun _ _ => ⟨rfl, e22, (by decide : 2 + 0 ≤ _), (by decide : 258 + 0 ≤ _)⟩)
      dsimp only [Pt.U, Pt.locs, Pt.cells, Pt.slots] at X23 l23 y23 z23 st23 hQ23
      subst l23 y23 z23
      obtain ⟨rfl, N23q, Kc23, c23_0, c23_1, c23_2⟩ := hQ23
      have f24 := f21.keep Kc23
      have Zs23 : n0 ≤ T23.heap.size := Nat.le_trans Zs20 Kc23.1
      have N23 := Fr.app N22 N23q
      refine go (fun _ k => st23.trans k) ?_
      show G (T23.setTop (mkF m 75 #[.val (.long q1), .second, .val (.long q2), .second, .val (.int p3), .val (.ref b1), .val (.int (Int32.ofNat (0 + nl 9 q1))), .val (.int (Int32.ofNat 0)), .val (.int (Int32.ofNat 0)), .unset] []))
      refine go (fun _ k => XS.aload X23.here hx rfl (hb hby at_75) rfl rfl k) ?_
      show G (T23.setTop (mkF m 77 #[.val (.long q1), .second, .val (.long q2), .second, .val (.int p3), .val (.ref b1), .val (.int (Int32.ofNat (0 + nl 9 q1))), .val (.int (Int32.ofNat 0)), .val (.int (Int32.ofNat 0)), .unset] [(.ref b1)]))
      obtain ⟨cq25, kq25, qa25, qb25, qc25⟩ := isOf hZ rfl f24
      obtain ⟨_, _, ⟨T25, L25, k25, n25⟩, -, X25, ⟨Lc25, hQ25, l25, y25, z25⟩, st25⟩ := X23.virtualBack hx (y := (⟨"com/example/kerros/kerros/log/ChangeCodec$Output", "size", "()I"⟩ : MethodName)) (z := (⟨"com/example/kerros/kerros/log/ChangeCodec$Output", "size", "()I"⟩ : MethodName)) hown (mvT hZ (hw _ (List.mem_of_getElem? (i := 25) rfl))) (mvT hZ (hw _ (List.mem_of_getElem? (i := 26) rfl))) (notFace_of_selects (args := #[]) (mvT hZ (hw _ (List.mem_of_getElem? (i := 28) rfl)))) (mvT hZ (hw _ (List.mem_of_getElem? (i := 28) rfl))) (mvT hZ (hw _ (List.mem_of_getElem? (i := 27) rfl))) (by decide) (backOf (W := 0) (rm5 l Z a0 hw [] b1 (Int32.ofNat (0 + nl 9 q1)) T23.heap n0 Zs23 c23_1) hZ (hw _ (List.mem_of_getElem? (i := 29) rfl)) (hw _ (List.mem_of_getElem? (i := 2) rfl)) (by decide) (by decide)) qa25 qc25 (g := (mkF m 77 #[.val (.long q1), .second, .val (.long q2), .second, .val (.int p3), .val (.ref b1), .val (.int (Int32.ofNat (0 + nl 9 q1))), .val (.int (Int32.ofNat 0)), .val (.int (Int32.ofNat 0)), .unset] [(.ref b1)])) rfl (by rw [hml]; rfl) (Steps.refl _) (argsL := []) (rest := []) (lenOf pd_0_2 rfl) rfl (by show 2 * 0 + _ ≤ _; exact Nat.le_of_eq rfl) (hb hby at_77) (fun _ _ => ⟨rfl, rfl, (by decide : 2 + 0 ≤ _), (by decide : 258 + 0 ≤ _)⟩)
      dsimp only [Pt.U, Pt.locs, Pt.cells, Pt.slots] at X25 l25 y25 z25 st25 hQ25
      subst l25 y25 z25
      obtain ⟨rfl, N25q, e25⟩ := hQ25
      have N25 := Fr.app N23 N25q
      refine go (fun _ k => st25.trans k) ?_
      show G (T25.setTop (mkF m 80 #[.val (.long q1), .second, .val (.long q2), .second, .val (.int p3), .val (.ref b1), .val (.int (Int32.ofNat (0 + nl 9 q1))), .val (.int (Int32.ofNat 0)), .val (.int (Int32.ofNat 0)), .unset] [(.int (Int32.ofNat (0 + nl 9 q1)))]))
      refine go (fun _ k => XS.istore X25.here hx rfl (hb hby at_80) rfl (l' := #[.val (.long q1), .second, .val (.long q2), .second, .val (.int p3), .val (.ref b1), .val (.int (Int32.ofNat (0 + nl 9 q1))), .val (.int (Int32.ofNat 0)), .val (.int (Int32.ofNat 0)), .val (.int (Int32.ofNat (0 + nl 9 q1)))]) rfl k) ?_
      show G (T25.setTop (mkF m 82 #[.val (.long q1), .second, .val (.long q2), .second, .val (.int p3), .val (.ref b1), .val (.int (Int32.ofNat (0 + nl 9 q1))), .val (.int (Int32.ofNat 0)), .val (.int (Int32.ofNat 0)), .val (.int (Int32.ofNat (0 + nl 9 q1)))] []))
      refine go (fun _ k => XS.iload X25.here hx rfl (hb hby at_82) rfl k) ?_
      show G (T25.setTop (mkF m 84 #[.val (.long q1), .second, .val (.long q2), .second, .val (.int p3), .val (.ref b1), .val (.int (Int32.ofNat (0 + nl 9 q1))), .val (.int (Int32.ofNat 0)), .val (.int (Int32.ofNat 0)), .val (.int (Int32.ofNat (0 + nl 9 q1)))] [(.int (Int32.ofNat 0))]))
      have hc26 : (Int32.ofNat 0) = (0 : Int32) := rfl
      refine go (fun _ k => XS.ifNo X25.here hx rfl (hb hby at_84) rfl ((if0 _ _).trans (teq hc26).2) k) ?_
      show G (T25.setTop (mkF m 87 #[.val (.long q1), .second, .val (.long q2), .second, .val (.int p3), .val (.ref b1), .val (.int (Int32.ofNat (0 + nl 9 q1))), .val (.int (Int32.ofNat 0)), .val (.int (Int32.ofNat 0)), .val (.int (Int32.ofNat (0 + nl 9 q1)))] []))
      refine go (fun _ k => XS.iload X25.here hx rfl (hb hby at_87) rfl k) ?_
      show G (T25.setTop (mkF m 89 #[.val (.long q1), .second, .val (.long q2), .second, .val (.int p3), .val (.ref b1), .val (.int (Int32.ofNat (0 + nl 9 q1))), .val (.int (Int32.ofNat 0)), .val (.int (Int32.ofNat 0)), .val (.int (Int32.ofNat (0 + nl 9 q1)))] [(.int (Int32.ofNat 0))]))
      have hc27 : (Int32.ofNat 0) = (0 : Int32) := rfl
      refine go (fun _ k => XS.ifNo X25.here hx rfl (hb hby at_89) rfl ((if0 _ _).trans (teq hc27).2) k) ?_
      show G (T25.setTop (mkF m 92 #[.val (.long q1), .second, .val (.long q2), .second, .val (.int p3), .val (.ref b1), .val (.int (Int32.ofNat (0 + nl 9 q1))), .val (.int (Int32.ofNat 0)), .val (.int (Int32.ofNat 0)), .val (.int (Int32.ofNat (0 + nl 9 q1)))] []))
      refine go (fun _ k => XS.iload X25.here hx rfl (hb hby at_92) rfl k) ?_
      show G (T25.setTop (mkF m 94 #[.val (.long q1), .second, .val (.long q2), .second, .val (.int p3), .val (.ref b1), .val (.int (Int32.ofNat (0 + nl 9 q1))), .val (.int (Int32.ofNat 0)), .val (.int (Int32.ofNat 0)), .val (.int (Int32.ofNat (0 + nl 9 q1)))] [(.int (Int32.ofNat (0 + nl 9 q1)))]))
      refine go (fun _ k => XS.iload X25.here hx rfl (hb hby at_94) rfl k) ?_
      show G (T25.setTop (mkF m 96 #[.val (.long q1), .second, .val (.long q2), .second, .val (.int p3), .val (.ref b1), .val (.int (Int32.ofNat (0 + nl 9 q1))), .val (.int (Int32.ofNat 0)), .val (.int (Int32.ofNat 0)), .val (.int (Int32.ofNat (0 + nl 9 q1)))] [(.int (Int32.ofNat (0 + nl 9 q1))), (.int (Int32.ofNat (0 + nl 9 q1)))]))
      have hc28 : (Int32.ofNat (0 + nl 9 q1)) = (Int32.ofNat (0 + nl 9 q1)) := rfl
      refine go (fun _ k => XS.icmpNo X25.here hx rfl (hb hby at_96) rfl (teq hc28).2 k) ?_
      show G (T25.setTop (mkF m 99 #[.val (.long q1), .second, .val (.long q2), .second, .val (.int p3), .val (.ref b1), .val (.int (Int32.ofNat (0 + nl 9 q1))), .val (.int (Int32.ofNat 0)), .val (.int (Int32.ofNat 0)), .val (.int (Int32.ofNat (0 + nl 9 q1)))] []))
      refine go (fun _ k => XS.iload X25.here hx rfl (hb hby at_99) rfl k) ?_
      show G (T25.setTop (mkF m 101 #[.val (.long q1), .second, .val (.long q2), .second, .val (.int p3), .val (.ref b1), .val (.int (Int32.ofNat (0 + nl 9 q1))), .val (.int (Int32.ofNat 0)), .val (.int (Int32.ofNat 0)), .val (.int (Int32.ofNat (0 + nl 9 q1)))] [(.int (Int32.ofNat (0 + nl 9 q1)))]))
      refine go (fun _ k => XS.iconst X25.here hx rfl (hb hby at_101) k) ?_
      show G (T25.setTop (mkF m 102 #[.val (.long q1), .second, .val (.long q2), .second, .val (.int p3), .val (.ref b1), .val (.int (Int32.ofNat (0 + nl 9 q1))), .val (.int (Int32.ofNat 0)), .val (.int (Int32.ofNat 0)), .val (.int (Int32.ofNat (0 + nl 9 q1)))] [(.int (1 : Int32)), (.int (Int32.ofNat (0 + nl 9 q1)))]))
      have hc29 : ¬ ((Int32.ofNat (0 + nl 9 q1)) < (1 : Int32)) := by rw [Nat.zero_add]; exact (own_len q1).1
      refine go (fun _ k => XS.icmpNo X25.here hx rfl (hb hby at_102) rfl (flt hc29).1 k) ?_
      show G (T25.setTop (mkF m 105 #[.val (.long q1), .second, .val (.long q2), .second, .val (.int p3), .val (.ref b1), .val (.int (Int32.ofNat (0 + nl 9 q1))), .val (.int (Int32.ofNat 0)), .val (.int (Int32.ofNat 0)), .val (.int (Int32.ofNat (0 + nl 9 q1)))] []))
      refine go (fun _ k => XS.iload X25.here hx rfl (hb hby at_105) rfl k) ?_
      show G (T25.setTop (mkF m 107 #[.val (.long q1), .second, .val (.long q2), .second, .val (.int p3), .val (.ref b1), .val (.int (Int32.ofNat (0 + nl 9 q1))), .val (.int (Int32.ofNat 0)), .val (.int (Int32.ofNat 0)), .val (.int (Int32.ofNat (0 + nl 9 q1)))] [(.int (Int32.ofNat (0 + nl 9 q1)))]))
      refine go (fun _ k => XS.bipush X25.here hx rfl (hb hby at_107) k) ?_
      show G (T25.setTop (mkF m 109 #[.val (.long q1), .second, .val (.long q2), .second, .val (.int p3), .val (.ref b1), .val (.int (Int32.ofNat (0 + nl 9 q1))), .val (.int (Int32.ofNat 0)), .val (.int (Int32.ofNat 0)), .val (.int (Int32.ofNat (0 + nl 9 q1)))] [(.int (10 : Int32)), (.int (Int32.ofNat (0 + nl 9 q1)))]))
      have hc30 : ¬ ((10 : Int32) < (Int32.ofNat (0 + nl 9 q1))) := by rw [Nat.zero_add]; exact (own_len q1).2
      refine go (fun _ k => XS.icmpNo X25.here hx rfl (hb hby at_109) rfl (flt hc30).2.2.1 k) ?_
      show G (T25.setTop (mkF m 112 #[.val (.long q1), .second, .val (.long q2), .second, .val (.int p3), .val (.ref b1), .val (.int (Int32.ofNat (0 + nl 9 q1))), .val (.int (Int32.ofNat 0)), .val (.int (Int32.ofNat 0)), .val (.int (Int32.ofNat (0 + nl 9 q1)))] []))
      refine go (fun _ k => XS.iconst X25.here hx rfl (hb hby at_112) k) ?_
      show G (T25.setTop (mkF m 113 #[.val (.long q1), .second, .val (.long q2), .second, .val (.int p3), .val (.ref b1), .val (.int (Int32.ofNat (0 + nl 9 q1))), .val (.int (Int32.ofNat 0)), .val (.int (Int32.ofNat 0)), .val (.int (Int32.ofNat (0 + nl 9 q1)))] [(.int (1 : Int32))]))
      refine go (fun _ k => XS.goto X25.here hx rfl (pc0 := 113) (pc' := 117) rfl (hb hby at_113) (by decide) (by decide) k) ?_
      show G (T25.setTop (mkF m 117 #[.val (.long q1), .second, .val (.long q2), .second, .val (.int p3), .val (.ref b1), .val (.int (Int32.ofNat (0 + nl 9 q1))), .val (.int (Int32.ofNat 0)), .val (.int (Int32.ofNat 0)), .val (.int (Int32.ofNat (0 + nl 9 q1)))] [(.int (1 : Int32))]))
      rw [hG]
      refine own_fin X25 Bd.notSynchronized (v := some (.int (1 : Int32))) (fun h => by rw [Bd.returns] at h; cases h) (fun fs hr => retOut X25 hx Bd.returns rfl (by simp [FieldType.isReference, Value.isRef]) (hb hby at_117) hr) ?_ (by decide) (by decide)
      show Q0 Z q1 q2 p3 h0 n0 (some (.int (1 : Int32))) T25.heap _
      rw [e25]
      exact ⟨rfl, N25⟩
  · refine go (fun _ k => XS.ifNo X6.here hx rfl (hb hby at_26) rfl ((if0 _ _).trans (feq hc26_7).1) k) ?_
    show G (T6.setTop (mkF m 29 #[.val (.long q1), .second, .val (.long q2), .second, .val (.int p3), .val (.ref b1), .val (.int (Int32.ofNat (0 + nl 9 q1))), .unset, .unset, .unset] []))
    refine go (fun _ k => XS.aload X6.here hx rfl (hb hby at_29) rfl rfl k) ?_
    show G (T6.setTop (mkF m 31 #[.val (.long q1), .second, .val (.long q2), .second, .val (.int p3), .val (.ref b1), .val (.int (Int32.ofNat (0 + nl 9 q1))), .unset, .unset, .unset] [(.ref b1)]))
    refine go (fun _ k => XS.lloadN X6.here hx rfl (hb hby at_31) rfl k) ?_
    show G (T6.setTop (mkF m 32 #[.val (.long q1), .second, .val (.long q2), .second, .val (.int p3), .val (.ref b1), .val (.int (Int32.ofNat (0 + nl 9 q1))), .unset, .unset, .unset] [(.long q2), (.ref b1)]))
    obtain ⟨cq31, kq31, qa31, qb31, qc31⟩ := isOf hZ e6 f5
    obtain ⟨_, _, ⟨T31, L31, k31, n31⟩, -, X31, ⟨Lc31, hQ31, l31, y31, z31⟩, st31⟩ := X6.virtualBack hx (y := (⟨"com/example/kerros/kerros/log/ChangeCodec$Output", "putSigned", "(J)V"⟩ : MethodName)) (z := (⟨"com/example/kerros/kerros/log/ChangeCodec$Output", "putSigned", "(J)V"⟩ : MethodName)) hown (mvT hZ (hw _ (List.mem_of_getElem? (i := 36) rfl))) (mvT hZ (hw _ (List.mem_of_getElem? (i := 37) rfl))) (notFace_of_selects (args := #[]) (mvT hZ (hw _ (List.mem_of_getElem? (i := 39) rfl)))) (mvT hZ (hw _ (List.mem_of_getElem? (i := 39) rfl))) (mvT hZ (hw _ (List.mem_of_getElem? (i := 38) rfl))) (by decide) (backOf (W := 0) (rm7 l Z a0 hw [] b1 q2 bb2 kk2 (0 + nl 9 q1) T4.heap n0 Zs4 c4_0 c4_1 f5 c4_2 ne_b1_bb2 g_b1 g_bb2 (by have := own_nl_le 9 q1; omega)) hZ (hw _ (List.mem_of_getElem? (i := 40) rfl)) (hw _ (List.mem_of_getElem? (i := 2) rfl)) (by decide) (by decide)) qa31 qc31 (g := (mkF m 32 #[.val (.long q1), .second, .val (.long q2), .second, .val (.int p3), .val (.ref b1), .val (.int (Int32.ofNat (0 + nl 9 q1))), .unset, .unset, .unset] [(.long q2), (.ref b1)])) rfl (by rw [hml]; rfl) (Steps.refl _) (argsL := [(.long q2)]) (rest := []) (lenOf pd_0_1 rfl) rfl (by show 2 * 0 + _ ≤ _; exact Nat.le_of_eq rfl) (hb hby at_32) (fun _ _ => ⟨rfl, e6, (by decide : 2 + 0 ≤ _), (by decide : 258 + 0 ≤ _)⟩)
    dsimp only [Pt.U, Pt.locs, Pt.cells, Pt.slots] at X31 l31 y31 z31 st31 hQ31
    subst l31 y31 z31
    obtain ⟨rfl, N31q, Kc31, c31_0, c31_1, c31_2⟩ := hQ31
    have f32 := f5.keep Kc31
    have Zs31 : n0 ≤ T31.heap.size := Nat.le_trans Zs4 Kc31.1
    have N31 := Fr.app N6 N31q
    refine go (fun _ k => st31.trans k) ?_
    show G (T31.setTop (mkF m 35 #[.val (.long q1), .second, .val (.long q2), .second, .val (.int p3), .val (.ref b1), .val (.int (Int32.ofNat (0 + nl 9 q1))), .unset, .unset, .unset] []))
    refine go (fun _ k => XS.aload X31.here hx rfl (hb hby at_35) rfl rfl k) ?_
    show G (T31.setTop (mkF m 37 #[.val (.long q1), .second, .val (.long q2), .second, .val (.int p3), .val (.ref b1), .val (.int (Int32.ofNat (0 + nl 9 q1))), .unset, .unset, .unset] [(.ref b1)]))
    obtain ⟨cq33, kq33, qa33, qb33, qc33⟩ := isOf hZ rfl f32
    obtain ⟨_, _, ⟨T33, L33, k33, n33⟩, -, X33, ⟨Lc33, hQ33, l33, y33, z33⟩, st33⟩ := X31.virtualBack hx (y := (⟨"com/example/kerros/kerros/log/ChangeCodec$Output", "clear", "()V"⟩ : MethodName)) (z := (⟨"com/example/kerros/kerros/log/ChangeCodec$Output", "clear", "()V"⟩ : MethodName)) hown (mvT hZ (hw _ (List.mem_of_getElem? (i := 30) rfl))) (mvT hZ (hw _ (List.mem_of_getElem? (i := 31) rfl))) (notFace_of_selects (args := #[]) (mvT hZ (hw _ (List.mem_of_getElem? (i := 33) rfl)))) (mvT hZ (hw _ (List.mem_of_getElem? (i := 33) rfl))) (mvT hZ (hw _ (List.mem_of_getElem? (i := 32) rfl))) (by decide) (backOf (W := 0) (rm6 l Z a0 hw [] b1 bb2 kk2 ((0 + nl 9 q1) + nl 9 ((q2 <<< ((1 : Int32) &&& 0x3f).toInt64) ^^^ (q2 >>> ((63 : Int32) &&& 0x3f).toInt64))) T31.heap n0 Zs31 c31_0 c31_1 f32 c31_2 ne_b1_bb2 g_b1 g_bb2 ) hZ (hw _ (List.mem_of_getElem? (i := 34) rfl)) (hw _ (List.mem_of_getElem? (i := 2) rfl)) (by decide) (by decide)) qa33 qc33 (g := (mkF m 37 #[.val (.long q1), .second, .val (.long q2), .second, .val (.int p3), .val (.ref b1), .val (.int (Int32.ofNat (0 + nl 9 q1))), .unset, .unset, .unset] [(.ref b1)])) rfl (by rw [hml]; rfl) (Steps.refl _) (argsL := []) (rest := []) (lenOf pd_0_0 rfl) rfl (by show 2 * 0 + _ ≤ _; exact Nat.le_of_eq rfl) (hb hby at_37) (fun _ _ => ⟨rfl, rfl, (by decide : 2 + 0 ≤ _), (by decide : 258 + 0 ≤ _)⟩)
    dsimp only [Pt.U, Pt.locs, Pt.cells, Pt.slots] at X33 l33 y33 z33 st33 hQ33
    subst l33 y33 z33
    obtain ⟨rfl, N33q, Kc33, c33_0, c33_1, c33_2⟩ := hQ33
    have f34 := f32.keep Kc33
    have Zs33 : n0 ≤ T33.heap.size := Nat.le_trans Zs31 Kc33.1
    have N33 := Fr.app N31 N33q
    refine go (fun _ k => st33.trans k) ?_
    show G (T33.setTop (mkF m 40 #[.val (.long q1), .second, .val (.long q2), .second, .val (.int p3), .val (.ref b1), .val (.int (Int32.ofNat (0 + nl 9 q1))), .unset, .unset, .unset] []))
    refine go (fun _ k => XS.aload X33.here hx rfl (hb hby at_40) rfl rfl k) ?_
    show G (T33.setTop (mkF m 42 #[.val (.long q1), .second, .val (.long q2), .second, .val (.int p3), .val (.ref b1), .val (.int (Int32.ofNat (0 + nl 9 q1))), .unset, .unset, .unset] [(.ref b1)]))
    obtain ⟨cq35, kq35, qa35, qb35, qc35⟩ := isOf hZ rfl f34
    obtain ⟨_, _, ⟨T35, L35, k35, n35⟩, -, X35, ⟨Lc35, hQ35, l35, y35, z35⟩, st35⟩ := X33.virtualBack hx (y := (⟨"com/example/kerros/kerros/log/ChangeCodec$Output", "size", "()I"⟩ : MethodName)) (z := (⟨"com/example/kerros/kerros/log/ChangeCodec$Output", "size", "()I"⟩ : MethodName)) hown (mvT hZ (hw _ (List.mem_of_getElem? (i := 25) rfl))) (mvT hZ (hw _ (List.mem_of_getElem? (i := 26) rfl))) (notFace_of_selects (args := #[]) (mvT hZ (hw _ (List.mem_of_getElem? (i := 28) rfl)))) (mvT hZ (hw _ (List.mem_of_getElem? (i := 28) rfl))) (mvT hZ (hw _ (List.mem_of_getElem? (i := 27) rfl))) (by decide) (backOf (W := 0) (rm5 l Z a0 hw [] b1 (Int32.ofNat 0) T33.heap n0 Zs33 c33_1) hZ (hw _ (List.mem_of_getElem? (i := 29) rfl)) (hw _ (List.mem_of_getElem? (i := 2) rfl)) (by decide) (by decide)) qa35 qc35 (g := (mkF m 42 #[.val (.long q1), .second, .val (.long q2), .second, .val (.int p3), .val (.ref b1), .val (.int (Int32.ofNat (0 + nl 9 q1))), .unset, .unset, .unset] [(.ref b1)])) rfl (by rw [hml]; rfl) (Steps.refl _) (argsL := []) (rest := []) (lenOf pd_0_2 rfl) rfl (by show 2 * 0 + _ ≤ _; exact Nat.le_of_eq rfl) (hb hby at_42) (fun _ _ => ⟨rfl, rfl, (by decide : 2 + 0 ≤ _), (by decide : 258 + 0 ≤ _)⟩)
    dsimp only [Pt.U, Pt.locs, Pt.cells, Pt.slots] at X35 l35 y35 z35 st35 hQ35
    subst l35 y35 z35
    obtain ⟨rfl, N35q, e35⟩ := hQ35
    have N35 := Fr.app N33 N35q
    refine go (fun _ k => st35.trans k) ?_
    show G (T35.setTop (mkF m 45 #[.val (.long q1), .second, .val (.long q2), .second, .val (.int p3), .val (.ref b1), .val (.int (Int32.ofNat (0 + nl 9 q1))), .unset, .unset, .unset] [(.int (Int32.ofNat 0))]))
    refine go (fun _ k => XS.istore X35.here hx rfl (hb hby at_45) rfl (l' := #[.val (.long q1), .second, .val (.long q2), .second, .val (.int p3), .val (.ref b1), .val (.int (Int32.ofNat (0 + nl 9 q1))), .val (.int (Int32.ofNat 0)), .unset, .unset]) rfl k) ?_
    show G (T35.setTop (mkF m 47 #[.val (.long q1), .second, .val (.long q2), .second, .val (.int p3), .val (.ref b1), .val (.int (Int32.ofNat (0 + nl 9 q1))), .val (.int (Int32.ofNat 0)), .unset, .unset] []))
    refine go (fun _ k => XS.iconst X35.here hx rfl (hb hby at_47) k) ?_
    show G (T35.setTop (mkF m 48 #[.val (.long q1), .second, .val (.long q2), .second, .val (.int p3), .val (.ref b1), .val (.int (Int32.ofNat (0 + nl 9 q1))), .val (.int (Int32.ofNat 0)), .unset, .unset] [(.int (0 : Int32))]))
    refine go (fun _ k => XS.istore X35.here hx rfl (hb hby at_48) rfl (l' := #[.val (.long q1), .second, .val (.long q2), .second, .val (.int p3), .val (.ref b1), .val (.int (Int32.ofNat (0 + nl 9 q1))), .val (.int (Int32.ofNat 0)), .val (.int (0 : Int32)), .unset]) rfl k) ?_
    show G (T35.setTop (mkF m 50 #[.val (.long q1), .second, .val (.long q2), .second, .val (.int p3), .val (.ref b1), .val (.int (Int32.ofNat (0 + nl 9 q1))), .val (.int (Int32.ofNat 0)), .val (.int (0 : Int32)), .unset] []))
    refine go (fun _ k => XS.iload X35.here hx rfl (hb hby at_50) rfl k) ?_
    show G (T35.setTop (mkF m 52 #[.val (.long q1), .second, .val (.long q2), .second, .val (.int p3), .val (.ref b1), .val (.int (Int32.ofNat (0 + nl 9 q1))), .val (.int (Int32.ofNat 0)), .val (.int (0 : Int32)), .unset] [(.int p3)]))
    refine go (fun _ k => XS.iconst X35.here hx rfl (hb hby at_52) k) ?_
    show G (T35.setTop (mkF m 53 #[.val (.long q1), .second, .val (.long q2), .second, .val (.int p3), .val (.ref b1), .val (.int (Int32.ofNat (0 + nl 9 q1))), .val (.int (Int32.ofNat 0)), .val (.int (0 : Int32)), .unset] [(.int (2 : Int32)), (.int p3)]))
    refine go (fun _ k => XS.iand X35.here hx rfl (hb hby at_53) rfl k) ?_
    show G (T35.setTop (mkF m 54 #[.val (.long q1), .second, .val (.long q2), .second, .val (.int p3), .val (.ref b1), .val (.int (Int32.ofNat (0 + nl 9 q1))), .val (.int (Int32.ofNat 0)), .val (.int (0 : Int32)), .unset] [(.int (p3 &&& (2 : Int32)))]))
    by_cases hc54_36 : (p3 &&& (2 : Int32)) = (0 : Int32)
    · refine go (fun _ k => XS.ifYes X35.here hx rfl (pc0 := 54) (pc' := 69) rfl (hb hby at_54) rfl ((if0 _ _).trans (teq hc54_36).1) (by decide) (by decide) k) ?_
      show G (T35.setTop (mkF m 69 #[.val (.long q1), .second, .val (.long q2), .second, .val (.int p3), .val (.ref b1), .val (.int (Int32.ofNat (0 + nl 9 q1))), .val (.int (Int32.ofNat 0)), .val (.int (0 : Int32)), .unset] []))
      refine go (fun _ k => XS.aload X35.here hx rfl (hb hby at_69) rfl rfl k) ?_
      show G (T35.setTop (mkF m 71 #[.val (.long q1), .second, .val (.long q2), .second, .val (.int p3), .val (.ref b1), .val (.int (Int32.ofNat (0 + nl 9 q1))), .val (.int (Int32.ofNat 0)), .val (.int (0 : Int32)), .unset] [(.ref b1)]))
      refine go (fun _ k => XS.lloadN X35.here hx rfl (hb hby at_71) rfl k) ?_
      show G (T35.setTop (mkF m 72 #[.val (.long q1), .second, .val (.long q2), .second, .val (.int p3), .val (.ref b1), .val (.int (Int32.ofNat (0 + nl 9 q1))), .val (.int (Int32.ofNat 0)), .val (.int (0 : Int32)), .unset] [(.long q1), (.ref b1)]))
      obtain ⟨cq37, kq37, qa37, qb37, qc37⟩ := isOf hZ e35 f34
      obtain ⟨_, _, ⟨T37, L37, k37, n37⟩, -, X37, ⟨Lc37, hQ37, l37, y37, z37⟩, st37⟩ := X35.virtualBack hx (y := (⟨"com/example/kerros/kerros/log/ChangeCodec$Output", "putNumber", "(J)V"⟩ : MethodName)) (z := (⟨"com/example/kerros/kerros/log/ChangeCodec$Output", "putNumber", "(J)V"⟩ : MethodName)) hown (mvT hZ (hw _ (List.mem_of_getElem? (i := 12) rfl))) (mvT hZ (hw _ (List.mem_of_getElem? (i := 13) rfl))) (notFace_of_selects (args := #[]) (mvT hZ (hw _ (List.mem_of_getElem? (i := 15) rfl)))) (mvT hZ (hw _ (List.mem_of_getElem? (i := 15) rfl))) (mvT hZ (hw _ (List.mem_of_getElem? (i := 14) rfl))) (by decide) (backOf (W := 0) (rm3 l Z a0 hw [] b1 q1 bb2 kk2 0 (0 + nl 9 q1) T33.heap n0 Zs33 c33_0 c33_1 f34 c33_2 ne_b1_bb2 g_b1 g_bb2 rfl (by have := own_nl_le 9 q1; omega)) hZ (hw _ (List.mem_of_getElem? (i := 16) rfl)) (hw _ (List.mem_of_getElem? (i := 2) rfl)) (by decide) (by decide)) qa37 qc37 (g := (mkF m 72 #[.val (.long q1), .second, .val (.long q2), .second, .val (.int p3), .val (.ref b1), .val (.int (Int32.ofNat (0 + nl 9 q1))), .val (.int (Int32.ofNat 0)), .val (.int (0 : Int32)), .unset] [(.long q1), (.ref b1)])) rfl (by rw [hml]; rfl) (Steps.refl _) (argsL := [(.long q1)]) (rest := []) (lenOf pd_0_1 rfl) rfl (by show 2 * 0 + _ ≤ _; exact Nat.le_of_eq rfl) (hb hby at_72) (fun _ _ => ⟨rfl, e35, (by decide : 2 + 0 ≤ _), (by decide : 258 + 0 ≤ _)⟩)
      dsimp only [Pt.U, Pt.locs, Pt.cells, Pt.slots] at X37 l37 y37 z37 st37 hQ37
      subst l37 y37 z37
      obtain ⟨rfl, N37q, Kc37, c37_0, c37_1, c37_2⟩ := hQ37
      have f38 := f34.keep Kc37
      have Zs37 : n0 ≤ T37.heap.size := Nat.le_trans Zs33 Kc37.1
      have N37 := Fr.app N35 N37q
      refine go (fun _ k => st37.trans k) ?_
      show G (T37.setTop (mkF m 75 #[.val (.long q1), .second, .val (.long q2), .second, .val (.int p3), .val (.ref b1), .val (.int (Int32.ofNat (0 + nl 9 q1))), .val (.int (Int32.ofNat 0)), .val (.int (0 : Int32)), .unset] []))
      refine go (fun _ k => XS.aload X37.here hx rfl (hb hby at_75) rfl rfl k) ?_
      show G (T37.setTop (mkF m 77 #[.val (.long q1), .second, .val (.long q2), .second, .val (.int p3), .val (.ref b1), .val (.int (Int32.ofNat (0 + nl 9 q1))), .val (.int (Int32.ofNat 0)), .val (.int (0 : Int32)), .unset] [(.ref b1)]))
      obtain ⟨cq39, kq39, qa39, qb39, qc39⟩ := isOf hZ rfl f38
      obtain ⟨_, _, ⟨T39, L39, k39, n39⟩, -, X39, ⟨Lc39, hQ39, l39, y39, z39⟩, st39⟩ := X37.virtualBack hx (y := (⟨"com/example/kerros/kerros/log/ChangeCodec$Output", "size", "()I"⟩ : MethodName)) (z := (⟨"com/example/kerros/kerros/log/ChangeCodec$Output", "size", "()I"⟩ : MethodName)) hown (mvT hZ (hw _ (List.mem_of_getElem? (i := 25) rfl))) (mvT hZ (hw _ (List.mem_of_getElem? (i := 26) rfl))) (notFace_of_selects (args := #[]) (mvT hZ (hw _ (List.mem_of_getElem? (i := 28) rfl)))) (mvT hZ (hw _ (List.mem_of_getElem? (i := 28) rfl))) (mvT hZ (hw _ (List.mem_of_getElem? (i := 27) rfl))) (by decide) (backOf (W := 0) (rm5 l Z a0 hw [] b1 (Int32.ofNat (0 + nl 9 q1)) T37.heap n0 Zs37 c37_1) hZ (hw _ (List.mem_of_getElem? (i := 29) rfl)) (hw _ (List.mem_of_getElem? (i := 2) rfl)) (by decide) (by decide)) qa39 qc39 (g := (mkF m 77 #[.val (.long q1), .second, .val (.long q2), .second, .val (.int p3), .val (.ref b1), .val (.int (Int32.ofNat (0 + nl 9 q1))), .val (.int (Int32.ofNat 0)), .val (.int (0 : Int32)), .unset] [(.ref b1)])) rfl (by rw [hml]; rfl) (Steps.refl _) (argsL := []) (rest := []) (lenOf pd_0_2 rfl) rfl (by show 2 * 0 + _ ≤ _; exact Nat.le_of_eq rfl) (hb hby at_77) (fun _ _ => ⟨rfl, rfl, (by decide : 2 + 0 ≤ _), (by decide : 258 + 0 ≤ _)⟩)
      dsimp only [Pt.U, Pt.locs, Pt.cells, Pt.slots] at X39 l39 y39 z39 st39 hQ39
      subst l39 y39 z39
      obtain ⟨rfl, N39q, e39⟩ := hQ39
      have N39 := Fr.app N37 N39q
      refine go (fun _ k => st39.trans k) ?_
      show G (T39.setTop (mkF m 80 #[.val (.long q1), .second, .val (.long q2), .second, .val (.int p3), .val (.ref b1), .val (.int (Int32.ofNat (0 + nl 9 q1))), .val (.int (Int32.ofNat 0)), .val (.int (0 : Int32)), .unset] [(.int (Int32.ofNat (0 + nl 9 q1)))]))
      refine go (fun _ k => XS.istore X39.here hx rfl (hb hby at_80) rfl (l' := #[.val (.long q1), .second, .val (.long q2), .second, .val (.int p3), .val (.ref b1), .val (.int (Int32.ofNat (0 + nl 9 q1))), .val (.int (Int32.ofNat 0)), .val (.int (0 : Int32)), .val (.int (Int32.ofNat (0 + nl 9 q1)))]) rfl k) ?_
      show G (T39.setTop (mkF m 82 #[.val (.long q1), .second, .val (.long q2), .second, .val (.int p3), .val (.ref b1), .val (.int (Int32.ofNat (0 + nl 9 q1))), .val (.int (Int32.ofNat 0)), .val (.int (0 : Int32)), .val (.int (Int32.ofNat (0 + nl 9 q1)))] []))
      refine go (fun _ k => XS.iload X39.here hx rfl (hb hby at_82) rfl k) ?_
      show G (T39.setTop (mkF m 84 #[.val (.long q1), .second, .val (.long q2), .second, .val (.int p3), .val (.ref b1), .val (.int (Int32.ofNat (0 + nl 9 q1))), .val (.int (Int32.ofNat 0)), .val (.int (0 : Int32)), .val (.int (Int32.ofNat (0 + nl 9 q1)))] [(.int (Int32.ofNat 0))]))
      have hc40 : (Int32.ofNat 0) = (0 : Int32) := rfl
      refine go (fun _ k => XS.ifNo X39.here hx rfl (hb hby at_84) rfl ((if0 _ _).trans (teq hc40).2) k) ?_
      show G (T39.setTop (mkF m 87 #[.val (.long q1), .second, .val (.long q2), .second, .val (.int p3), .val (.ref b1), .val (.int (Int32.ofNat (0 + nl 9 q1))), .val (.int (Int32.ofNat 0)), .val (.int (0 : Int32)), .val (.int (Int32.ofNat (0 + nl 9 q1)))] []))
      refine go (fun _ k => XS.iload X39.here hx rfl (hb hby at_87) rfl k) ?_
      show G (T39.setTop (mkF m 89 #[.val (.long q1), .second, .val (.long q2), .second, .val (.int p3), .val (.ref b1), .val (.int (Int32.ofNat (0 + nl 9 q1))), .val (.int (Int32.ofNat 0)), .val (.int (0 : Int32)), .val (.int (Int32.ofNat (0 + nl 9 q1)))] [(.int (0 : Int32))]))
      have hc41 : (0 : Int32) = (0 : Int32) := rfl
      refine go (fun _ k => XS.ifNo X39.here hx rfl (hb hby at_89) rfl ((if0 _ _).trans (teq hc41).2) k) ?_
      show G (T39.setTop (mkF m 92 #[.val (.long q1), .second, .val (.long q2), .second, .val (.int p3), .val (.ref b1), .val (.int (Int32.ofNat (0 + nl 9 q1))), .val (.int (Int32.ofNat 0)), .val (.int (0 : Int32)), .val (.int (Int32.ofNat (0 + nl 9 q1)))] []))
      refine go (fun _ k => XS.iload X39.here hx rfl (hb hby at_92) rfl k) ?_
      show G (T39.setTop (mkF m 94 #[.val (.long q1), .second, .val (.long q2), .second, .val (.int p3), .val (.ref b1), .val (.int (Int32.ofNat (0 + nl 9 q1))), .val (.int (Int32.ofNat 0)), .val (.int (0 : Int32)), .val (.int (Int32.ofNat (0 + nl 9 q1)))] [(.int (Int32.ofNat (0 + nl 9 q1)))]))
      refine go (fun _ k => XS.iload X39.here hx rfl (hb hby at_94) rfl k) ?_
      show G (T39.setTop (mkF m 96 #[.val (.long q1), .second, .val (.long q2), .second, .val (.int p3), .val (.ref b1), .val (.int (Int32.ofNat (0 + nl 9 q1))), .val (.int (Int32.ofNat 0)), .val (.int (0 : Int32)), .val (.int (Int32.ofNat (0 + nl 9 q1)))] [(.int (Int32.ofNat (0 + nl 9 q1))), (.int (Int32.ofNat (0 + nl 9 q1)))]))
      have hc42 : (Int32.ofNat (0 + nl 9 q1)) = (Int32.ofNat (0 + nl 9 q1)) := rfl
      refine go (fun _ k => XS.icmpNo X39.here hx rfl (hb hby at_96) rfl (teq hc42).2 k) ?_
      show G (T39.setTop (mkF m 99 #[.val (.long q1), .second, .val (.long q2), .second, .val (.int p3), .val (.ref b1), .val (.int (Int32.ofNat (0 + nl 9 q1))), .val (.int (Int32.ofNat 0)), .val (.int (0 : Int32)), .val (.int (Int32.ofNat (0 + nl 9 q1)))] []))
      refine go (fun _ k => XS.iload X39.here hx rfl (hb hby at_99) rfl k) ?_
      show G (T39.setTop (mkF m 101 #[.val (.long q1), .second, .val (.long q2), .second, .val (.int p3), .val (.ref b1), .val (.int (Int32.ofNat (0 + nl 9 q1))), .val (.int (Int32.ofNat 0)), .val (.int (0 : Int32)), .val (.int (Int32.ofNat (0 + nl 9 q1)))] [(.int (Int32.ofNat (0 + nl 9 q1)))]))
      refine go (fun _ k => XS.iconst X39.here hx rfl (hb hby at_101) k) ?_
      show G (T39.setTop (mkF m 102 #[.val (.long q1), .second, .val (.long q2), .second, .val (.int p3), .val (.ref b1), .val (.int (Int32.ofNat (0 + nl 9 q1))), .val (.int (Int32.ofNat 0)), .val (.int (0 : Int32)), .val (.int (Int32.ofNat (0 + nl 9 q1)))] [(.int (1 : Int32)), (.int (Int32.ofNat (0 + nl 9 q1)))]))
      have hc43 : ¬ ((Int32.ofNat (0 + nl 9 q1)) < (1 : Int32)) := by rw [Nat.zero_add]; exact (own_len q1).1
      refine go (fun _ k => XS.icmpNo X39.here hx rfl (hb hby at_102) rfl (flt hc43).1 k) ?_
      show G (T39.setTop (mkF m 105 #[.val (.long q1), .second, .val (.long q2), .second, .val (.int p3), .val (.ref b1), .val (.int (Int32.ofNat (0 + nl 9 q1))), .val (.int (Int32.ofNat 0)), .val (.int (0 : Int32)), .val (.int (Int32.ofNat (0 + nl 9 q1)))] []))
      refine go (fun _ k => XS.iload X39.here hx rfl (hb hby at_105) rfl k) ?_
      show G (T39.setTop (mkF m 107 #[.val (.long q1), .second, .val (.long q2), .second, .val (.int p3), .val (.ref b1), .val (.int (Int32.ofNat (0 + nl 9 q1))), .val (.int (Int32.ofNat 0)), .val (.int (0 : Int32)), .val (.int (Int32.ofNat (0 + nl 9 q1)))] [(.int (Int32.ofNat (0 + nl 9 q1)))]))
      refine go (fun _ k => XS.bipush X39.here hx rfl (hb hby at_107) k) ?_
      show G (T39.setTop (mkF m 109 #[.val (.long q1), .second, .val (.long q2), .second, .val (.int p3), .val (.ref b1), .val (.int (Int32.ofNat (0 + nl 9 q1))), .val (.int (Int32.ofNat 0)), .val (.int (0 : Int32)), .val (.int (Int32.ofNat (0 + nl 9 q1)))] [(.int (10 : Int32)), (.int (Int32.ofNat (0 + nl 9 q1)))]))
      have hc44 : ¬ ((10 : Int32) < (Int32.ofNat (0 + nl 9 q1))) := by rw [Nat.zero_add]; exact (own_len q1).2
      refine go (fun _ k => XS.icmpNo X39.here hx rfl (hb hby at_109) rfl (flt hc44).2.2.1 k) ?_
      show G (T39.setTop (mkF m 112 #[.val (.long q1), .second, .val (.long q2), .second, .val (.int p3), .val (.ref b1), .val (.int (Int32.ofNat (0 + nl 9 q1))), .val (.int (Int32.ofNat 0)), .val (.int (0 : Int32)), .val (.int (Int32.ofNat (0 + nl 9 q1)))] []))
      refine go (fun _ k => XS.iconst X39.here hx rfl (hb hby at_112) k) ?_
      show G (T39.setTop (mkF m 113 #[.val (.long q1), .second, .val (.long q2), .second, .val (.int p3), .val (.ref b1), .val (.int (Int32.ofNat (0 + nl 9 q1))), .val (.int (Int32.ofNat 0)), .val (.int (0 : Int32)), .val (.int (Int32.ofNat (0 + nl 9 q1)))] [(.int (1 : Int32))]))
      refine go (fun _ k => XS.goto X39.here hx rfl (pc0 := 113) (pc' := 117) rfl (hb hby at_113) (by decide) (by decide) k) ?_
      show G (T39.setTop (mkF m 117 #[.val (.long q1), .second, .val (.long q2), .second, .val (.int p3), .val (.ref b1), .val (.int (Int32.ofNat (0 + nl 9 q1))), .val (.int (Int32.ofNat 0)), .val (.int (0 : Int32)), .val (.int (Int32.ofNat (0 + nl 9 q1)))] [(.int (1 : Int32))]))
      rw [hG]
      refine own_fin X39 Bd.notSynchronized (v := some (.int (1 : Int32))) (fun h => by rw [Bd.returns] at h; cases h) (fun fs hr => retOut X39 hx Bd.returns rfl (by simp [FieldType.isReference, Value.isRef]) (hb hby at_117) hr) ?_ (by decide) (by decide)
      show Q0 Z q1 q2 p3 h0 n0 (some (.int (1 : Int32))) T39.heap _
      rw [e39]
      exact ⟨rfl, N39⟩
    · refine go (fun _ k => XS.ifNo X35.here hx rfl (hb hby at_54) rfl ((if0 _ _).trans (feq hc54_36).1) k) ?_
      show G (T35.setTop (mkF m 57 #[.val (.long q1), .second, .val (.long q2), .second, .val (.int p3), .val (.ref b1), .val (.int (Int32.ofNat (0 + nl 9 q1))), .val (.int (Int32.ofNat 0)), .val (.int (0 : Int32)), .unset] []))
      refine go (fun _ k => XS.aload X35.here hx rfl (hb hby at_57) rfl rfl k) ?_
      show G (T35.setTop (mkF m 59 #[.val (.long q1), .second, .val (.long q2), .second, .val (.int p3), .val (.ref b1), .val (.int (Int32.ofNat (0 + nl 9 q1))), .val (.int (Int32.ofNat 0)), .val (.int (0 : Int32)), .unset] [(.ref b1)]))
      obtain ⟨cq45, kq45, qa45, qb45, qc45⟩ := isOf hZ e35 f34
      obtain ⟨_, _, ⟨T45, L45, k45, n45⟩, -, X45, ⟨Lc45, hQ45, l45, y45, z45⟩, st45⟩ := X35.virtualBack hx (y := (⟨"com/example/kerros/kerros/log/ChangeCodec$Output", "clear", "()V"⟩ : MethodName)) (z := (⟨"com/example/kerros/kerros/log/ChangeCodec$Output", "clear", "()V"⟩ : MethodName)) hown (mvT hZ (hw _ (List.mem_of_getElem? (i := 30) rfl))) (mvT hZ (hw _ (List.mem_of_getElem? (i := 31) rfl))) (notFace_of_selects (args := #[]) (mvT hZ (hw _ (List.mem_of_getElem? (i := 33) rfl)))) (mvT hZ (hw _ (List.mem_of_getElem? (i := 33) rfl))) (mvT hZ (hw _ (List.mem_of_getElem? (i := 32) rfl))) (by decide) (backOf (W := 0) (rm6 l Z a0 hw [] b1 bb2 kk2 0 T33.heap n0 Zs33 c33_0 c33_1 f34 c33_2 ne_b1_bb2 g_b1 g_bb2 ) hZ (hw _ (List.mem_of_getElem? (i := 34) rfl)) (hw _ (List.mem_of_getElem? (i := 2) rfl)) (by decide) (by decide)) qa45 qc45 (g := (mkF m 59 #[.val (.long q1), .second, .val (.long q2), .second, .val (.int p3), .val (.ref b1), .val (.int (Int32.ofNat (0 + nl 9 q1))), .val (.int (Int32.ofNat 0)), .val (.int (0 : Int32)), .unset] [(.ref b1)])) rfl (by rw [hml]; rfl) (Steps.refl _) (argsL := []) (rest := []) (lenOf pd_0_0 rfl) rfl (by show 2 * 0 + _ ≤ _; exact Nat.le_of_eq rfl) (hb hby at_59) (fun _ _ => ⟨rfl, e35, (by decide : 2 + 0 ≤ _), (by decide : 258 + 0 ≤ _)⟩)
      dsimp only [Pt.U, Pt.locs, Pt.cells, Pt.slots] at X45 l45 y45 z45 st45 hQ45
      subst l45 y45 z45
      obtain ⟨rfl, N45q, Kc45, c45_0, c45_1, c45_2⟩ := hQ45
      have f46 := f34.keep Kc45
      have Zs45 : n0 ≤ T45.heap.size := Nat.le_trans Zs33 Kc45.1
      have N45 := Fr.app N35 N45q
      refine go (fun _ k => st45.trans k) ?_
      show G (T45.setTop (mkF m 62 #[.val (.long q1), .second, .val (.long q2), .second, .val (.int p3), .val (.ref b1), .val (.int (Int32.ofNat (0 + nl 9 q1))), .val (.int (Int32.ofNat 0)), .val (.int (0 : Int32)), .unset] []))
      refine go (fun _ k => XS.aload X45.here hx rfl (hb hby at_62) rfl rfl k) ?_
      show G (T45.setTop (mkF m 64 #[.val (.long q1), .second, .val (.long q2), .second, .val (.int p3), .val (.ref b1), .val (.int (Int32.ofNat (0 + nl 9 q1))), .val (.int (Int32.ofNat 0)), .val (.int (0 : Int32)), .unset] [(.ref b1)]))
      obtain ⟨cq47, kq47, qa47, qb47, qc47⟩ := isOf hZ rfl f46
      obtain ⟨_, _, ⟨T47, L47, k47, n47⟩, -, X47, ⟨Lc47, hQ47, l47, y47, z47⟩, st47⟩ := X45.virtualBack hx (y := (⟨"com/example/kerros/kerros/log/ChangeCodec$Output", "size", "()I"⟩ : MethodName)) (z := (⟨"com/example/kerros/kerros/log/ChangeCodec$Output", "size", "()I"⟩ : MethodName)) hown (mvT hZ (hw _ (List.mem_of_getElem? (i := 25) rfl))) (mvT hZ (hw _ (List.mem_of_getElem? (i := 26) rfl))) (notFace_of_selects (args := #[]) (mvT hZ (hw _ (List.mem_of_getElem? (i := 28) rfl)))) (mvT hZ (hw _ (List.mem_of_getElem? (i := 28) rfl))) (mvT hZ (hw _ (List.mem_of_getElem? (i := 27) rfl))) (by decide) (backOf (W := 0) (rm5 l Z a0 hw [] b1 (Int32.ofNat 0) T45.heap n0 Zs45 c45_1) hZ (hw _ (List.mem_of_getElem? (i := 29) rfl)) (hw _ (List.mem_of_getElem? (i := 2) rfl)) (by decide) (by decide)) qa47 qc47 (g := (mkF m 64 #[.val (.long q1), .second, .val (.long q2), .second, .val (.int p3), .val (.ref b1), .val (.int (Int32.ofNat (0 + nl 9 q1))), .val (.int (Int32.ofNat 0)), .val (.int (0 : Int32)), .unset] [(.ref b1)])) rfl (by rw [hml]; rfl) (Steps.refl _) (argsL := []) (rest := []) (lenOf pd_0_2 rfl) rfl (by show 2 * 0 + _ ≤ _; exact Nat.le_of_eq rfl) (hb hby at_64) (fun _ _ => ⟨rfl, rfl, (by decide : 2 + 0 ≤ _), (by decide : 258 + 0 ≤ _)⟩)
      dsimp only [Pt.U, Pt.locs, Pt.cells, Pt.slots] at X47 l47 y47 z47 st47 hQ47
      subst l47 y47 z47
      obtain ⟨rfl, N47q, e47⟩ := hQ47
      have N47 := Fr.app N45 N47q
      refine go (fun _ k => st47.trans k) ?_
      show G (T47.setTop (mkF m 67 #[.val (.long q1), .second, .val (.long q2), .second, .val (.int p3), .val (.ref b1), .val (.int (Int32.ofNat (0 + nl 9 q1))), .val (.int (Int32.ofNat 0)), .val (.int (0 : Int32)), .unset] [(.int (Int32.ofNat 0))]))
      refine go (fun _ k => XS.istore X47.here hx rfl (hb hby at_67) rfl (l' := #[.val (.long q1), .second, .val (.long q2), .second, .val (.int p3), .val (.ref b1), .val (.int (Int32.ofNat (0 + nl 9 q1))), .val (.int (Int32.ofNat 0)), .val (.int (Int32.ofNat 0)), .unset]) rfl k) ?_
      show G (T47.setTop (mkF m 69 #[.val (.long q1), .second, .val (.long q2), .second, .val (.int p3), .val (.ref b1), .val (.int (Int32.ofNat (0 + nl 9 q1))), .val (.int (Int32.ofNat 0)), .val (.int (Int32.ofNat 0)), .unset] []))
      refine go (fun _ k => XS.aload X47.here hx rfl (hb hby at_69) rfl rfl k) ?_
      show G (T47.setTop (mkF m 71 #[.val (.long q1), .second, .val (.long q2), .second, .val (.int p3), .val (.ref b1), .val (.int (Int32.ofNat (0 + nl 9 q1))), .val (.int (Int32.ofNat 0)), .val (.int (Int32.ofNat 0)), .unset] [(.ref b1)]))
      refine go (fun _ k => XS.lloadN X47.here hx rfl (hb hby at_71) rfl k) ?_
      show G (T47.setTop (mkF m 72 #[.val (.long q1), .second, .val (.long q2), .second, .val (.int p3), .val (.ref b1), .val (.int (Int32.ofNat (0 + nl 9 q1))), .val (.int (Int32.ofNat 0)), .val (.int (Int32.ofNat 0)), .unset] [(.long q1), (.ref b1)]))
      obtain ⟨cq48, kq48, qa48, qb48, qc48⟩ := isOf hZ e47 f46
      obtain ⟨_, _, ⟨T48, L48, k48, n48⟩, -, X48, ⟨Lc48, hQ48, l48, y48, z48⟩, st48⟩ := X47.virtualBack hx (y := (⟨"com/example/kerros/kerros/log/ChangeCodec$Output", "putNumber", "(J)V"⟩ : MethodName)) (z := (⟨"com/example/kerros/kerros/log/ChangeCodec$Output", "putNumber", "(J)V"⟩ : MethodName)) hown (mvT hZ (hw _ (List.mem_of_getElem? (i := 12) rfl))) (mvT hZ (hw _ (List.mem_of_getElem? (i := 13) rfl))) (notFace_of_selects (args := #[]) (mvT hZ (hw _ (List.mem_of_getElem? (i := 15) rfl)))) (mvT hZ (hw _ (List.mem_of_getElem? (i := 15) rfl))) (mvT hZ (hw _ (List.mem_of_getElem? (i := 14) rfl))) (by decide) (backOf (W := 0) (rm3 l Z a0 hw [] b1 q1 bb2 kk2 0 (0 + nl 9 q1) T45.heap n0 Zs45 c45_0 c45_1 f46 c45_2 ne_b1_bb2 g_b1 g_bb2 rfl (by have := own_nl_le 9 q1; omega)) hZ (hw _ (List.mem_of_getElem? (i := 16) rfl)) (hw _ (List.mem_of_getElem? (i := 2) rfl)) (by decide) (by decide)) qa48 qc48 (g := (mkF m 72 #[.val (.long q1), .second, .val (.long q2), .second, .val (.int p3), .val (.ref b1), .val (.int (Int32.ofNat (0 + nl 9 q1))), .val (.int (Int32.ofNat 0)), .val (.int (Int32.ofNat 0)), .unset] [(.long q1), (.ref b1)])) rfl (by rw [hml]; rfl) (Steps.refl _) (argsL := [(.long q1)]) (rest := []) (lenOf pd_0_1 rfl) rfl (by show 2 * 0 + _ ≤ _; exact Nat.le_of_eq rfl) (hb hby at_72) (fun _ _ => ⟨rfl, e47, (by decide : 2 + 0 ≤ _), (by decide : 258 + 0 ≤ _)⟩)
      dsimp only [Pt.U, Pt.locs, Pt.cells, Pt.slots] at X48 l48 y48 z48 st48 hQ48
      subst l48 y48 z48
      obtain ⟨rfl, N48q, Kc48, c48_0, c48_1, c48_2⟩ := hQ48
      have f49 := f46.keep Kc48
      have Zs48 : n0 ≤ T48.heap.size := Nat.le_trans Zs45 Kc48.1
      have N48 := Fr.app N47 N48q
      refine go (fun _ k => st48.trans k) ?_
      show G (T48.setTop (mkF m 75 #[.val (.long q1), .second, .val (.long q2), .second, .val (.int p3), .val (.ref b1), .val (.int (Int32.ofNat (0 + nl 9 q1))), .val (.int (Int32.ofNat 0)), .val (.int (Int32.ofNat 0)), .unset] []))
      refine go (fun _ k => XS.aload X48.here hx rfl (hb hby at_75) rfl rfl k) ?_
      show G (T48.setTop (mkF m 77 #[.val (.long q1), .second, .val (.long q2), .second, .val (.int p3), .val (.ref b1), .val (.int (Int32.ofNat (0 + nl 9 q1))), .val (.int (Int32.ofNat 0)), .val (.int (Int32.ofNat 0)), .unset] [(.ref b1)]))
      obtain ⟨cq50, kq50, qa50, qb50, qc50⟩ := isOf hZ rfl f49
      obtain ⟨_, _, ⟨T50, L50, k50, n50⟩, -, X50, ⟨Lc50, hQ50, l50, y50, z50⟩, st50⟩ := X48.virtualBack hx (y := (⟨"com/example/kerros/kerros/log/ChangeCodec$Output", "size", "()I"⟩ : MethodName)) (z := (⟨"com/example/kerros/kerros/log/ChangeCodec$Output", "size", "()I"⟩ : MethodName)) hown (mvT hZ (hw _ (List.mem_of_getElem? (i := 25) rfl))) (mvT hZ (hw _ (List.mem_of_getElem? (i := 26) rfl))) (notFace_of_selects (args := #[]) (mvT hZ (hw _ (List.mem_of_getElem? (i := 28) rfl)))) (mvT hZ (hw _ (List.mem_of_getElem? (i := 28) rfl))) (mvT hZ (hw _ (List.mem_of_getElem? (i := 27) rfl))) (by decide) (backOf (W := 0) (rm5 l Z a0 hw [] b1 (Int32.ofNat (0 + nl 9 q1)) T48.heap n0 Zs48 c48_1) hZ (hw _ (List.mem_of_getElem? (i := 29) rfl)) (hw _ (List.mem_of_getElem? (i := 2) rfl)) (by decide) (by decide)) qa50 qc50 (g := (mkF m 77 #[.val (.long q1), .second, .val (.long q2), .second, .val (.int p3), .val (.ref b1), .val (.int (Int32.ofNat (0 + nl 9 q1))), .val (.int (Int32.ofNat 0)), .val (.int (Int32.ofNat 0)), .unset] [(.ref b1)])) rfl (by rw [hml]; rfl) (Steps.refl _) (argsL := []) (rest := []) (lenOf pd_0_2 rfl) rfl (by show 2 * 0 + _ ≤ _; exact Nat.le_of_eq rfl) (hb hby at_77) (fun _ _ => ⟨rfl, rfl, (by decide : 2 + 0 ≤ _), (by decide : 258 + 0 ≤ _)⟩)
      dsimp only [Pt.U, Pt.locs, Pt.cells, Pt.slots] at X50 l50 y50 z50 st50 hQ50
      subst l50 y50 z50
      obtain ⟨rfl, N50q, e50⟩ := hQ50
      have N50 := Fr.app N48 N50q
      refine go (fun _ k => st50.trans k) ?_
      show G (T50.setTop (mkF m 80 #[.val (.long q1), .second, .val (.long q2), .second, .val (.int p3), .val (.ref b1), .val (.int (Int32.ofNat (0 + nl 9 q1))), .val (.int (Int32.ofNat 0)), .val (.int (Int32.ofNat 0)), .unset] [(.int (Int32.ofNat (0 + nl 9 q1)))]))
      refine go (fun _ k => XS.istore X50.here hx rfl (hb hby at_80) rfl (l' := #[.val (.long q1), .second, .val (.long q2), .second, .val (.int p3), .val (.ref b1), .val (.int (Int32.ofNat (0 + nl 9 q1))), .val (.int (Int32.ofNat 0)), .val (.int (Int32.ofNat 0)), .val (.int (Int32.ofNat (0 + nl 9 q1)))]) rfl k) ?_
      show G (T50.setTop (mkF m 82 #[.val (.long q1), .second, .val (.long q2), .second, .val (.int p3), .val (.ref b1), .val (.int (Int32.ofNat (0 + nl 9 q1))), .val (.int (Int32.ofNat 0)), .val (.int (Int32.ofNat 0)), .val (.int (Int32.ofNat (0 + nl 9 q1)))] []))
      refine go (fun _ k => XS.iload X50.here hx rfl (hb hby at_82) rfl k) ?_
      show G (T50.setTop (mkF m 84 #[.val (.long q1), .second, .val (.long q2), .second, .val (.int p3), .val (.ref b1), .val (.int (Int32.ofNat (0 + nl 9 q1))), .val (.int (Int32.ofNat 0)), .val (.int (Int32.ofNat 0)), .val (.int (Int32.ofNat (0 + nl 9 q1)))] [(.int (Int32.ofNat 0))]))
      have hc51 : (Int32.ofNat 0) = (0 : Int32) := rfl
      refine go (fun _ k => XS.ifNo X50.here hx rfl (hb hby at_84) rfl ((if0 _ _).trans (teq hc51).2) k) ?_
      show G (T50.setTop (mkF m 87 #[.val (.long q1), .second, .val (.long q2), .second, .val (.int p3), .val (.ref b1), .val (.int (Int32.ofNat (0 + nl 9 q1))), .val (.int (Int32.ofNat 0)), .val (.int (Int32.ofNat 0)), .val (.int (Int32.ofNat (0 + nl 9 q1)))] []))
      refine go (fun _ k => XS.iload X50.here hx rfl (hb hby at_87) rfl k) ?_
      show G (T50.setTop (mkF m 89 #[.val (.long q1), .second, .val (.long q2), .second, .val (.int p3), .val (.ref b1), .val (.int (Int32.ofNat (0 + nl 9 q1))), .val (.int (Int32.ofNat 0)), .val (.int (Int32.ofNat 0)), .val (.int (Int32.ofNat (0 + nl 9 q1)))] [(.int (Int32.ofNat 0))]))
      have hc52 : (Int32.ofNat 0) = (0 : Int32) := rfl
      refine go (fun _ k => XS.ifNo X50.here hx rfl (hb hby at_89) rfl ((if0 _ _).trans (teq hc52).2) k) ?_
      show G (T50.setTop (mkF m 92 #[.val (.long q1), .second, .val (.long q2), .second, .val (.int p3), .val (.ref b1), .val (.int (Int32.ofNat (0 + nl 9 q1))), .val (.int (Int32.ofNat 0)), .val (.int (Int32.ofNat 0)), .val (.int (Int32.ofNat (0 + nl 9 q1)))] []))
      refine go (fun _ k => XS.iload X50.here hx rfl (hb hby at_92) rfl k) ?_
      show G (T50.setTop (mkF m 94 #[.val (.long q1), .second, .val (.long q2), .second, .val (.int p3), .val (.ref b1), .val (.int (Int32.ofNat (0 + nl 9 q1))), .val (.int (Int32.ofNat 0)), .val (.int (Int32.ofNat 0)), .val (.int (Int32.ofNat (0 + nl 9 q1)))] [(.int (Int32.ofNat (0 + nl 9 q1)))]))
      refine go (fun _ k => XS.iload X50.here hx rfl (hb hby at_94) rfl k) ?_
      show G (T50.setTop (mkF m 96 #[.val (.long q1), .second, .val (.long q2), .second, .val (.int p3), .val (.ref b1), .val (.int (Int32.ofNat (0 + nl 9 q1))), .val (.int (Int32.ofNat 0)), .val (.int (Int32.ofNat 0)), .val (.int (Int32.ofNat (0 + nl 9 q1)))] [(.int (Int32.ofNat (0 + nl 9 q1))), (.int (Int32.ofNat (0 + nl 9 q1)))]))
      have hc53 : (Int32.ofNat (0 + nl 9 q1)) = (Int32.ofNat (0 + nl 9 q1)) := rfl
      refine go (fun _ k => XS.icmpNo X50.here hx rfl (hb hby at_96) rfl (teq hc53).2 k) ?_
      show G (T50.setTop (mkF m 99 #[.val (.long q1), .second, .val (.long q2), .second, .val (.int p3), .val (.ref b1), .val (.int (Int32.ofNat (0 + nl 9 q1))), .val (.int (Int32.ofNat 0)), .val (.int (Int32.ofNat 0)), .val (.int (Int32.ofNat (0 + nl 9 q1)))] []))
      refine go (fun _ k => XS.iload X50.here hx rfl (hb hby at_99) rfl k) ?_
      show G (T50.setTop (mkF m 101 #[.val (.long q1), .second, .val (.long q2), .second, .val (.int p3), .val (.ref b1), .val (.int (Int32.ofNat (0 + nl 9 q1))), .val (.int (Int32.ofNat 0)), .val (.int (Int32.ofNat 0)), .val (.int (Int32.ofNat (0 + nl 9 q1)))] [(.int (Int32.ofNat (0 + nl 9 q1)))]))
      refine go (fun _ k => XS.iconst X50.here hx rfl (hb hby at_101) k) ?_
      show G (T50.setTop (mkF m 102 #[.val (.long q1), .second, .val (.long q2), .second, .val (.int p3), .val (.ref b1), .val (.int (Int32.ofNat (0 + nl 9 q1))), .val (.int (Int32.ofNat 0)), .val (.int (Int32.ofNat 0)), .val (.int (Int32.ofNat (0 + nl 9 q1)))] [(.int (1 : Int32)), (.int (Int32.ofNat (0 + nl 9 q1)))]))
      have hc54 : ¬ ((Int32.ofNat (0 + nl 9 q1)) < (1 : Int32)) := by rw [Nat.zero_add]; exact (own_len q1).1
      refine go (fun _ k => XS.icmpNo X50.here hx rfl (hb hby at_102) rfl (flt hc54).1 k) ?_
      show G (T50.setTop (mkF m 105 #[.val (.long q1), .second, .val (.long q2), .second, .val (.int p3), .val (.ref b1), .val (.int (Int32.ofNat (0 + nl 9 q1))), .val (.int (Int32.ofNat 0)), .val (.int (Int32.ofNat 0)), .val (.int (Int32.ofNat (0 + nl 9 q1)))] []))
      refine go (fun _ k => XS.iload X50.here hx rfl (hb hby at_105) rfl k) ?_
      show G (T50.setTop (mkF m 107 #[.val (.long q1), .second, .val (.long q2), .second, .val (.int p3), .val (.ref b1), .val (.int (Int32.ofNat (0 + nl 9 q1))), .val (.int (Int32.ofNat 0)), .val (.int (Int32.ofNat 0)), .val (.int (Int32.ofNat (0 + nl 9 q1)))] [(.int (Int32.ofNat (0 + nl 9 q1)))]))
      refine go (fun _ k => XS.bipush X50.here hx rfl (hb hby at_107) k) ?_
      show G (T50.setTop (mkF m 109 #[.val (.long q1), .second, .val (.long q2), .second, .val (.int p3), .val (.ref b1), .val (.int (Int32.ofNat (0 + nl 9 q1))), .val (.int (Int32.ofNat 0)), .val (.int (Int32.ofNat 0)), .val (.int (Int32.ofNat (0 + nl 9 q1)))] [(.int (10 : Int32)), (.int (Int32.ofNat (0 + nl 9 q1)))]))
      have hc55 : ¬ ((10 : Int32) < (Int32.ofNat (0 + nl 9 q1))) := by rw [Nat.zero_add]; exact (own_len q1).2
      refine go (fun _ k => XS.icmpNo X50.here hx rfl (hb hby at_109) rfl (flt hc55).2.2.1 k) ?_
      show G (T50.setTop (mkF m 112 #[.val (.long q1), .second, .val (.long q2), .second, .val (.int p3), .val (.ref b1), .val (.int (Int32.ofNat (0 + nl 9 q1))), .val (.int (Int32.ofNat 0)), .val (.int (Int32.ofNat 0)), .val (.int (Int32.ofNat (0 + nl 9 q1)))] []))
      refine go (fun _ k => XS.iconst X50.here hx rfl (hb hby at_112) k) ?_
      show G (T50.setTop (mkF m 113 #[.val (.long q1), .second, .val (.long q2), .second, .val (.int p3), .val (.ref b1), .val (.int (Int32.ofNat (0 + nl 9 q1))), .val (.int (Int32.ofNat 0)), .val (.int (Int32.ofNat 0)), .val (.int (Int32.ofNat (0 + nl 9 q1)))] [(.int (1 : Int32))]))
      refine go (fun _ k => XS.goto X50.here hx rfl (pc0 := 113) (pc' := 117) rfl (hb hby at_113) (by decide) (by decide) k) ?_
      show G (T50.setTop (mkF m 117 #[.val (.long q1), .second, .val (.long q2), .second, .val (.int p3), .val (.ref b1), .val (.int (Int32.ofNat (0 + nl 9 q1))), .val (.int (Int32.ofNat 0)), .val (.int (Int32.ofNat 0)), .val (.int (Int32.ofNat (0 + nl 9 q1)))] [(.int (1 : Int32))]))
      rw [hG]
      refine own_fin X50 Bd.notSynchronized (v := some (.int (1 : Int32))) (fun h => by rw [Bd.returns] at h; cases h) (fun fs hr => retOut X50 hx Bd.returns rfl (by simp [FieldType.isReference, Value.isRef]) (hb hby at_117) hr) ?_ (by decide) (by decide)
      show Q0 Z q1 q2 p3 h0 n0 (some (.int (1 : Int32))) T50.heap _
      rw [e50]
      exact ⟨rfl, N50⟩

set_option maxRecDepth 65536 in
set_option maxHeartbeats 40000000 in
theorem comes_1 {Post : Tables → Env → Array Value → State → Outcome → State → Prop} (hpost : ∀ tb e args s v u, (limb_1_1.after args s (.returned v) u = true ∧ limb_1_2.after args s (.returned v) u = true ∧ True) → FrameEnd s (.returned v) u (Jvm.fieldLocs frame_1_writes args s ++ Jvm.arrayLocs frame_1_arrays args s ++ Jvm.staticLocs frame_1_statics s) 16 640 → Post tb e args s (.returned v) u) :
    ArmFor flags0 classFile x code maxLocals ret World_1 tables_1 room_1 Calls_1 rest_1 Pre_1 Post := by
  intro l hfl _ _ p e ha hc hk s m args below hf hA hF happ hP
  obtain ⟨hcalls, hrest, hpre⟩ := hP
  obtain ⟨-, -, -, hnamed, -, -, -, hat⟩ := (Spec.applies_iff hf).mp happ
  obtain ⟨hg, hn⟩ := and_e (Cond.before_iff.mp (show (Jvm.Cond.and given_1 narrow_1).before args s = true from hpre))
  obtain ⟨g2, g3⟩ := and_e hg
  obtain ⟨g4, g5⟩ := and_e g3
  obtain ⟨g6, g7⟩ := and_e g5
  obtain ⟨w0, w1, w2, rfl⟩ : ∃ w0 w1 w2 : Value, args = #[w0, w1, w2] := by
    have hs : args.size = 3 := by simpa [Cond.value, given_1] using g2
    obtain ⟨L⟩ := args
    match L, hs with
    | [w0, w1, w2], _ => exact ⟨w0, w1, w2, rfl⟩
  have hw := fun d (hd : d ∈ tables_1) => atoms_spec (ws := Jvm.Cond.code x code maxLocals ret :: tables_1) hat d (List.mem_cons_of_mem _ hd)
  have hfit : Fit s := fun {y c} hc i hi => by
    obtain ⟨ha, rfl⟩ := Array.getElem?_eq_some_iff.mp hc
    have q := List.all_eq_true.mp ((Array.all_eq_true_iff_forall_mem.mp hF) _ (Array.getElem_mem ha)) i (List.mem_range.mpr hi)
    simpa [Array.getElem?_eq_getElem hi] using q
  obtain ⟨i0, ei0⟩ := isL_v g4
  obtain rfl : w0 = (.long i0) := Option.some.inj ei0
  obtain ⟨i1, ei1⟩ := isL_v g6
  obtain rfl : w1 = (.long i1) := Option.some.inj ei1
  obtain ⟨i2, ei2⟩ := is_v g7
  obtain rfl : w2 = (.int i2) := Option.some.inj ei2
  obtain ⟨n, o, h1, h2, h3, _, L, rfl, ⟨rfl, N⟩, hq⟩ := rm0 l s _ hw tables_1 i0 i1 i2 s.heap s.heap.size (Nat.le_refl _)  p e ha hc hk s m _ below hf ((Spec.applies_iff_loose hf).mp happ).1 ⟨rfl, State.Warmed39.refl s, rfl⟩ trivial
  refine ⟨n, _, h1, h2, h3, hpost _ _ _ _ _ _ ⟨Cond.after_iff.mpr rfl, Cond.after_iff.mpr (eq_i res_at (Term.int_eval (1)) rfl), trivial⟩ ⟨hq.1, hq.2.1, (hq.2.2.sift fun y hy => Or.inr (N y hy)).mono (by decide) (by decide)⟩⟩
theorem main_1_1 : Claimed_1_1 := comes_1 fun _ _ _ _ _ _ h hF => ⟨h.1, hF⟩
theorem main_1_2 : Claimed_1_2 := comes_1 fun _ _ _ _ _ _ h hF => ⟨h.2.1, hF⟩
end Jvm.Pilot.@@N@@
namespace Jvm.Pilot.@@N@@
open Jvm Jvm.ClassFile Sem Op Lib Jvm.Free Jvm.Stand Jvm.Pilot.@@N@@.Jvm.D
/-! MADE BY PROGRAM (witnessworld.py) out of the Statement's table words and the real class files: 9 classes; the members and pool entries that the words name. The judged class is class 1, her method 1. -/
namespace start1
open Jvm.ClassFile
def u (s : String) : CpInfo := .utf8 (stringToUtf16 s)
/-- a pool by its gaps: so many unusable entries, then the entry; so many at the end -/
def gap : Nat → List CpInfo → List CpInfo
  | 0, r => r
  | n + 1, r => .unusable :: gap n r
def poolList (es : List (Nat × CpInfo)) (last : Nat) : List CpInfo := es.foldr (fun e r => gap e.1 (e.2 :: r)) (gap last [])
def pool (es : List (Nat × CpInfo)) (last : Nat) : Array CpInfo := ⟨poolList es last⟩
def fileOf (pool : Array CpInfo) (this : Nat) (attrs : Array Attribute := #[]) (ms : Array MethodInfo := #[]) (fl : Nat := 33) (sup : Nat := 0) (ifs : Array Nat := #[]) (fds : Array FieldInfo := #[]) : ClassFile where
  minorVersion := 0
  majorVersion := 65
  constantPool := pool
  accessFlags := fl
  thisClass := this
  superClass := sup
  interfaces := ifs
  fields := fds
  methods := ms
  attributes := attrs
def plain (name : String) (sup : Option ClassId) : Class where
  name := name
  kind := .ordinary
  loader := none
  accessFlags := 33
  super := sup
  interfaces := #[]
  cf := none
  fields := #[]
  methods := #[]
  instanceTypes := #[]
  staticTypes := #[]
  resolved := #[]
  callSites := []
  init := .initialized
  statics := none
  mirror := none

def pool0 : Array CpInfo := pool [(5, u "<init>"), (0, u "()V"), (1, .class_ 10), (1, u "java/lang/Object")] 113

def k0c0 : Code := { maxStack := 0, maxLocals := 1, code := object_method_1_code, exceptionTable := #[], attributes := #[] }
def k0m0 : Method := { name := "<init>", desc := "()V", sig := { parameters := [], returnType := none }, accessFlags := 1, code := some k0c0 }
/-- java/lang/Object -/
def k0 : Class := { plain "java/lang/Object" none with
  accessFlags := 33
  interfaces := #[]
  cf := some (fileOf pool0 8 #[] #[{ accessFlags := 1, nameIndex := 5, descriptorIndex := 6, attributes := #[] }] 33 0 #[] #[])
  fields := #[]
  methods := #[k0m0]
  instanceTypes := #[]
  staticTypes := #[]
  resolved := Array.replicate 124 none
  statics := none }

def pool1 : Array CpInfo := pool [(2, .class_ 4), (0, .nameAndType 5 6), (0, u "java/lang/Object"), (0, u "<init>"), (0, u "()V"), (0, .class_ 8), (0, u "com/example/kerros/kerros/log/ChangeCodec$Output"), (0, .methodref 7 3), (0, .methodref 7 11), (0, .nameAndType 12 13), (0, u "putNumber"), (0, u "(J)V"), (0, .methodref 7 15), (0, .nameAndType 16 17), (0, u "size"), (0, u "()I"), (0, .methodref 7 19), (0, .nameAndType 20 13), (0, u "putSigned"), (0, .methodref 7 22), (0, .nameAndType 23 6), (0, u "clear"), (0, .class_ 25), (0, u "com/example/kerros/kerros/log/OutputClearPinLaw"), (2, u "law"), (0, u "(JJI)Z")] 7

def k1m0 : Method := { name := "<init>", desc := "()V", sig := { parameters := [], returnType := none }, accessFlags := 2, code := none }
def k1c1 : Code := { maxStack := 3, maxLocals := 10, code := code, exceptionTable := #[], attributes := #[] }
def k1m1 : Method := { name := "law", desc := "(JJI)Z", sig := { parameters := [.long, .long, .int], returnType := some .boolean }, accessFlags := 9, code := some k1c1 }
/-- com/example/kerros/kerros/log/OutputClearPinLaw -/
def k1 : Class := { plain "com/example/kerros/kerros/log/OutputClearPinLaw" (some 0) with
  accessFlags := 49
  interfaces := #[]
  cf := some (fileOf pool1 24 #[] #[{ accessFlags := 2, nameIndex := 5, descriptorIndex := 6, attributes := #[] }, { accessFlags := 9, nameIndex := 28, descriptorIndex := 29, attributes := #[] }] 49 2 #[] #[])
  fields := #[]
  methods := #[k1m0, k1m1]
  instanceTypes := #[]
  staticTypes := #[]
  resolved := Array.replicate 37 none
  statics := none }

def pool2 : Array CpInfo := pool [(1, .methodref 2 3), (0, .class_ 4), (0, .nameAndType 5 6), (0, u "java/lang/Object"), (0, u "<init>"), (0, u "()V"), (0, .class_ 8), (0, u "com/example/kerros/kerros/log/ChangeCodec$Output"), (0, .fieldref 7 10), (0, .nameAndType 11 12), (0, u "bytes"), (0, u "[B"), (0, .fieldref 7 14), (0, .nameAndType 15 16), (0, u "size"), (0, u "I"), (0, .integer 1048576), (12, .long 18446744073709551488), (1, .long 127), (1, .long 128), (1, .methodref 7 37), (0, .nameAndType 38 39), (0, u "put"), (0, u "(B)V"), (2, .methodref 7 43), (0, .nameAndType 44 45), (0, u "putNumber"), (0, u "(J)V"), (0, u "INITIAL_BYTES"), (2, u "KEPT_BYTES"), (2, u "clear"), (1, u "()I"), (2, u "putSigned"), (3, .class_ 62), (0, u "com/example/kerros/kerros/log/ChangeCodec")] 2

def k2c0 : Code := { maxStack := 2, maxLocals := 1, code := prog_26_method_1_code, exceptionTable := #[], attributes := #[] }
def k2m0 : Method := { name := "<init>", desc := "()V", sig := { parameters := [], returnType := none }, accessFlags := 0, code := some k2c0 }
def k2c1 : Code := { maxStack := 2, maxLocals := 1, code := prog_26_method_2_code, exceptionTable := #[], attributes := #[] }
def k2m1 : Method := { name := "clear", desc := "()V", sig := { parameters := [], returnType := none }, accessFlags := 0, code := some k2c1 }
def k2c2 : Code := { maxStack := 1, maxLocals := 1, code := prog_26_method_3_code, exceptionTable := #[], attributes := #[] }
def k2m2 : Method := { name := "size", desc := "()I", sig := { parameters := [], returnType := some .int }, accessFlags := 0, code := some k2c2 }
def k2c3 : Code := { maxStack := 4, maxLocals := 2, code := prog_26_method_5_code, exceptionTable := #[], attributes := #[] }
def k2m3 : Method := { name := "put", desc := "(B)V", sig := { parameters := [.byte], returnType := none }, accessFlags := 0, code := some k2c3 }
def k2c4 : Code := { maxStack := 5, maxLocals := 5, code := prog_26_method_6_code, exceptionTable := #[], attributes := #[] }
def k2m4 : Method := { name := "putNumber", desc := "(J)V", sig := { parameters := [.long], returnType := none }, accessFlags := 0, code := some k2c4 }
def k2c5 : Code := { maxStack := 6, maxLocals := 3, code := prog_26_method_7_code, exceptionTable := #[], attributes := #[] }
def k2m5 : Method := { name := "putSigned", desc := "(J)V", sig := { parameters := [.long], returnType := none }, accessFlags := 0, code := some k2c5 }
/-- com/example/kerros/kerros/log/ChangeCodec$Output -/
def k2 : Class := { plain "com/example/kerros/kerros/log/ChangeCodec$Output" (some 0) with
  accessFlags := 48
  interfaces := #[]
  cf := some (fileOf pool2 7 #[.nestHost 61] #[{ accessFlags := 0, nameIndex := 5, descriptorIndex := 6, attributes := #[] }, { accessFlags := 0, nameIndex := 52, descriptorIndex := 6, attributes := #[] }, { accessFlags := 0, nameIndex := 15, descriptorIndex := 54, attributes := #[] }, { accessFlags := 0, nameIndex := 38, descriptorIndex := 39, attributes := #[] }, { accessFlags := 0, nameIndex := 44, descriptorIndex := 45, attributes := #[] }, { accessFlags := 0, nameIndex := 57, descriptorIndex := 45, attributes := #[] }] 48 2 #[] #[{ accessFlags := 26, nameIndex := 46, descriptorIndex := 16, attributes := #[] }, { accessFlags := 26, nameIndex := 49, descriptorIndex := 16, attributes := #[] }, { accessFlags := 2, nameIndex := 11, descriptorIndex := 12, attributes := #[] }, { accessFlags := 2, nameIndex := 15, descriptorIndex := 16, attributes := #[] }])
  fields := #[{ name := "INITIAL_BYTES", type := .int, accessFlags := 26, slot := 0, constantValue := 0 }, { name := "KEPT_BYTES", type := .int, accessFlags := 26, slot := 1, constantValue := 0 }, { name := "bytes", type := (.array .byte), accessFlags := 2, slot := 0, constantValue := 0 }, { name := "size", type := .int, accessFlags := 2, slot := 1, constantValue := 0 }]
  methods := #[k2m0, k2m1, k2m2, k2m3, k2m4, k2m5]
  instanceTypes := #[(.array .byte), .int]
  staticTypes := #[.int, .int]
  resolved := Array.replicate 65 none
  statics := none }

def pool3 : Array CpInfo := pool [(1, u "java/lang/Cloneable"), (0, .class_ 1), (0, u "java/lang/Object"), (0, .class_ 3)] 3

/-- java/lang/Cloneable -/
def k3 : Class := { plain "java/lang/Cloneable" (some 0) with
  accessFlags := 1537
  interfaces := #[]
  cf := some (fileOf pool3 2 #[] #[] 1537 4 #[] #[])
  fields := #[]
  methods := #[]
  instanceTypes := #[]
  staticTypes := #[]
  resolved := Array.replicate 8 none
  statics := none }

def pool4 : Array CpInfo := pool [(1, u "java/io/Serializable"), (0, .class_ 1), (0, u "java/lang/Object"), (0, .class_ 3)] 3

/-- java/io/Serializable -/
def k4 : Class := { plain "java/io/Serializable" (some 0) with
  accessFlags := 1537
  interfaces := #[]
  cf := some (fileOf pool4 2 #[] #[] 1537 4 #[] #[])
  fields := #[]
  methods := #[]
  instanceTypes := #[]
  staticTypes := #[]
  resolved := Array.replicate 8 none
  statics := none }

/-- the primitive byte -/
def k5 : Class := { plain "byte" none with kind := .primitive 'B', accessFlags := 0x411 }
/-- [B -/
def k6 : Class := { plain "[B" (some 0) with kind := .array 5 .byte, interfaces := #[3, 4], accessFlags := 1041 }

/-- the primitive int -/
def k7 : Class := { plain "int" none with kind := .primitive 'I', accessFlags := 0x411 }
/-- [I -/
def k8 : Class := { plain "[I" (some 0) with kind := .array 7 .int, interfaces := #[3, 4], accessFlags := 1041 }

def heap : Heap := #[]
def classes : Array Class := #[k0, k1, k2, k3, k4, k5, k6, k7, k8]
def interned : List (Array UInt16 × Addr) := []
def slotsUsed : Nat := 0
def theMethod : MethodId := ⟨1, 1⟩
def args0 : Array Value := #[.long 5, .long 3, .int 3]
def aboutOver (below : List Frame) : State where
  vm := { classes := classes, interned := interned.toArray }
  heap := heap
  slotsUsed := slotsUsed
  threads := #[{ frames := .invoking theMethod args0 :: below }]
def below0 : List Frame := [.native { method := ⟨0, 0⟩, args := #[] }]
def about1 : State := aboutOver below0
def p0 : Program := .bare "" "" ""
def e0 : Env := launch0.env 0 0 0
theorem w_frames : about1.frames = Frame.invoking theMethod args0 :: below0 := rfl
set_option maxRecDepth 65536 in
theorem w_args : argsFit about1.vm theMethod args0 = true := by decide +kernel
set_option maxRecDepth 65536 in
theorem w_heap : heapFits about1 = true := by decide +kernel
set_option maxRecDepth 65536 in
theorem w_runnable : about1.curStatus? = some .runnable := by decide +kernel
set_option maxRecDepth 65536 in
theorem w_alone : about1.alone = true := by decide +kernel
set_option maxRecDepth 65536 in
theorem w_named : about1.methodNamed? x = some theMethod := by decide +kernel
set_option maxRecDepth 65536 in
theorem w_hears : about1.hears theMethod below0 = true := by decide +kernel
set_option maxRecDepth 65536 in
theorem w_ripe : about1.ripe theMethod args0 below0 = true := by decide +kernel
theorem w_running : about1.status = .running := rfl
set_option maxRecDepth 65536 in
theorem w_room : about1.hasRoom e0.platform room_1 = true :=
  launch0.hasRoom_least _ room_1 (by decide +kernel) (by decide +kernel) (by decide +kernel) (by decide +kernel) (by decide +kernel) (by decide +kernel)
theorem allAtoms_all (ts : List Jvm.Cond) (a : Array Jvm.Value) (st : Jvm.State) : (allAtoms ts).before a st = ts.all (fun c => c.before a st) := by
  induction ts with
  | nil => rfl
  | cons c t ih =>
    show (Jvm.Cond.and c (allAtoms t)).before a st = _
    rw [Jvm.Cond.before_and, ih, List.all_cons]
def words1 : List Jvm.Cond := Jvm.Cond.code x code maxLocals ret :: tables_1
/-- a 'code' word, met by the world's own term for the bytes: nothing is compared byte by byte -/
theorem code_word {y : MethodName} {bytes : ByteArray} {mx : Nat} {rt : Option FieldType} {a : Array Value} {s : State} {m : MethodId} {meth : Method} {c : Code} (h1 : s.methodNamed? y = some m) (h2 : s.vm.method? m = some meth) (h3 : meth.code = some c) (h4 : c.code = bytes)
    (h5 : (c.maxLocals == mx && c.exceptionTable.isEmpty && decide (c.maxStack ≤ mostOperands) && decide (meth.sig.returnType = rt) && !meth.locks && decide (parseMethodDescriptor y.desc = some meth.sig)) = true) : (Jvm.Cond.code y bytes mx rt).before a s = true := by
  simp only [Bool.and_eq_true, beq_iff_eq, Bool.not_eq_true', decide_eq_true_eq] at h5
  obtain ⟨⟨⟨⟨⟨g1, g2⟩, g3⟩, g4⟩, g5⟩, g6⟩ := h5
  simp [Cond.before, Cond.holds, Cond.value, h1, h2, h3, h4, g1, g2, g3, g4, g5, g6]
def isCode : Jvm.Cond → Bool
  | .code _ _ _ _ => true
  | _ => false
theorem all_split {L : List Jvm.Cond} {P : Jvm.Cond → Bool} (h1 : L.all (fun c => isCode c || P c) = true) (h2 : ∀ c ∈ L.filter isCode, P c = true) : L.all P = true := by
  refine List.all_eq_true.mpr fun c hc => ?_
  have h := List.all_eq_true.mp h1 c hc
  rcases Bool.eq_false_or_eq_true (isCode c) with hi | hi
  · exact h2 c (List.mem_filter.mpr ⟨hc, hi⟩)
  · simpa [hi] using h
set_option maxRecDepth 65536 in
theorem w_c0 : (Jvm.Cond.code x code maxLocals ret).before args0 about1 = true := code_word (m := ⟨1, 1⟩) (meth := k1m1) (c := k1c1) (by decide +kernel) rfl rfl rfl (by decide +kernel)
set_option maxRecDepth 65536 in
theorem w_c1 : (Jvm.Cond.code ({ cls := "com/example/kerros/kerros/log/ChangeCodec$Output", name := "<init>", desc := "()V" } : Jvm.MethodName) prog_26_method_1_code (1 : Nat) (Option.none : Option Jvm.ClassFile.FieldType)).before args0 about1 = true := code_word (m := ⟨2, 0⟩) (meth := k2m0) (c := k2c0) (by decide +kernel) rfl rfl rfl (by decide +kernel)
set_option maxRecDepth 65536 in
theorem w_c2 : (Jvm.Cond.code ({ cls := "java/lang/Object", name := "<init>", desc := "()V" } : Jvm.MethodName) object_method_1_code (1 : Nat) (Option.none : Option Jvm.ClassFile.FieldType)).before args0 about1 = true := code_word (m := ⟨0, 0⟩) (meth := k0m0) (c := k0c0) (by decide +kernel) rfl rfl rfl (by decide +kernel)
set_option maxRecDepth 65536 in
theorem w_c3 : (Jvm.Cond.code ({ cls := "com/example/kerros/kerros/log/ChangeCodec$Output", name := "putNumber", desc := "(J)V" } : Jvm.MethodName) prog_26_method_6_code (5 : Nat) (Option.none : Option Jvm.ClassFile.FieldType)).before args0 about1 = true := code_word (m := ⟨2, 4⟩) (meth := k2m4) (c := k2c4) (by decide +kernel) rfl rfl rfl (by decide +kernel)
set_option maxRecDepth 65536 in
theorem w_c4 : (Jvm.Cond.code ({ cls := "com/example/kerros/kerros/log/ChangeCodec$Output", name := "put", desc := "(B)V" } : Jvm.MethodName) prog_26_method_5_code (2 : Nat) (Option.none : Option Jvm.ClassFile.FieldType)).before args0 about1 = true := code_word (m := ⟨2, 3⟩) (meth := k2m3) (c := k2c3) (by decide +kernel) rfl rfl rfl (by decide +kernel)
set_option maxRecDepth 65536 in
theorem w_c5 : (Jvm.Cond.code ({ cls := "com/example/kerros/kerros/log/ChangeCodec$Output", name := "size", desc := "()I" } : Jvm.MethodName) prog_26_method_3_code (1 : Nat) (Option.some Jvm.ClassFile.FieldType.int)).before args0 about1 = true := code_word (m := ⟨2, 2⟩) (meth := k2m2) (c := k2c2) (by decide +kernel) rfl rfl rfl (by decide +kernel)
set_option maxRecDepth 65536 in
theorem w_c6 : (Jvm.Cond.code ({ cls := "com/example/kerros/kerros/log/ChangeCodec$Output", name := "clear", desc := "()V" } : Jvm.MethodName) prog_26_method_2_code (1 : Nat) (Option.none : Option Jvm.ClassFile.FieldType)).before args0 about1 = true := code_word (m := ⟨2, 1⟩) (meth := k2m1) (c := k2c1) (by decide +kernel) rfl rfl rfl (by decide +kernel)
set_option maxRecDepth 65536 in
theorem w_c7 : (Jvm.Cond.code ({ cls := "com/example/kerros/kerros/log/ChangeCodec$Output", name := "putSigned", desc := "(J)V" } : Jvm.MethodName) prog_26_method_7_code (3 : Nat) (Option.none : Option Jvm.ClassFile.FieldType)).before args0 about1 = true := code_word (m := ⟨2, 5⟩) (meth := k2m5) (c := k2c5) (by decide +kernel) rfl rfl rfl (by decide +kernel)
def codes1 : List Jvm.Cond := [Jvm.Cond.code x code maxLocals ret, Jvm.Cond.code ({ cls := "com/example/kerros/kerros/log/ChangeCodec$Output", name := "<init>", desc := "()V" } : Jvm.MethodName) prog_26_method_1_code (1 : Nat) (Option.none : Option Jvm.ClassFile.FieldType), Jvm.Cond.code ({ cls := "java/lang/Object", name := "<init>", desc := "()V" } : Jvm.MethodName) object_method_1_code (1 : Nat) (Option.none : Option Jvm.ClassFile.FieldType), Jvm.Cond.code ({ cls := "com/example/kerros/kerros/log/ChangeCodec$Output", name := "putNumber", desc := "(J)V" } : Jvm.MethodName) prog_26_method_6_code (5 : Nat) (Option.none : Option Jvm.ClassFile.FieldType), Jvm.Cond.code ({ cls := "com/example/kerros/kerros/log/ChangeCodec$Output", name := "put", desc := "(B)V" } : Jvm.MethodName) prog_26_method_5_code (2 : Nat) (Option.none : Option Jvm.ClassFile.FieldType), Jvm.Cond.code ({ cls := "com/example/kerros/kerros/log/ChangeCodec$Output", name := "size", desc := "()I" } : Jvm.MethodName) prog_26_method_3_code (1 : Nat) (Option.some Jvm.ClassFile.FieldType.int), Jvm.Cond.code ({ cls := "com/example/kerros/kerros/log/ChangeCodec$Output", name := "clear", desc := "()V" } : Jvm.MethodName) prog_26_method_2_code (1 : Nat) (Option.none : Option Jvm.ClassFile.FieldType), Jvm.Cond.code ({ cls := "com/example/kerros/kerros/log/ChangeCodec$Output", name := "putSigned", desc := "(J)V" } : Jvm.MethodName) prog_26_method_7_code (3 : Nat) (Option.none : Option Jvm.ClassFile.FieldType)]
set_option maxRecDepth 65536 in
theorem codes_eq : words1.filter isCode = codes1 := rfl
theorem w_codes : ∀ c ∈ words1.filter isCode, c.before args0 about1 = true := by
  rw [codes_eq]
  intro c hc
  simp only [codes1, List.mem_cons, List.not_mem_nil, or_false] at hc
  rcases hc with rfl | rfl | rfl | rfl | rfl | rfl | rfl | rfl
  · exact w_c0
  · exact w_c1
  · exact w_c2
  · exact w_c3
  · exact w_c4
  · exact w_c5
  · exact w_c6
  · exact w_c7
set_option maxRecDepth 65536 in
theorem w_t1 : (words1.take 24).all (fun c => isCode c || c.before args0 about1) = true := by decide +kernel
set_option maxRecDepth 65536 in
theorem w_t2 : (words1.drop 24).all (fun c => isCode c || c.before args0 about1) = true := by decide +kernel
theorem w_tables : (allAtoms (Jvm.Cond.code x code maxLocals ret :: tables_1)).before args0 about1 = true := by
  rw [allAtoms_all]
  show words1.all (fun c => c.before args0 about1) = true
  refine all_split ?_ w_codes
  rw [← List.take_append_drop 24 words1, List.all_append, w_t1, w_t2]
  rfl
set_option maxRecDepth 65536 in
theorem w_case : (Jvm.Cond.and given_1 narrow_1).before args0 about1 = true := by decide +kernel
theorem w_applies : (headSpec (Jvm.Cond.code x code maxLocals ret :: tables_1) room_1).applies x e0.platform about1 = true :=
  (Spec.applies_iff w_frames).mpr ⟨w_running, w_runnable, w_alone, w_named, w_hears, w_ripe, w_room, w_tables⟩
theorem atStart : AtStart classFile x code maxLocals ret World_1 tables_1 room_1 Calls_1 rest_1 Pre_1 launch0 p0 e0 about1 theMethod args0 below0 :=
  ⟨lists_1, trivial, launch0.admits_env _ _ _, launch0.least_env, fairChoices_fair.cas, fairChoices_fair.clock, w_frames, w_args, w_heap, w_applies, trivial, trivial, w_case⟩
end start1
theorem witness_1 : WitnessClaimed_1 := ⟨start1.p0, start1.e0, start1.about1, start1.theMethod, start1.args0, start1.below0, start1.atStart⟩
end Jvm.Pilot.@@N@@
