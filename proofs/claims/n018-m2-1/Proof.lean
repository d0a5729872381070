import JvmDerived
import JvmDerived.Pilot.@@N@@Statement
import JvmDerived.Pilot.@@N@@Code
set_option linter.unusedVariables false
set_option linter.unusedSimpArgs false
namespace Jvm.Pilot.@@N@@
open Jvm Jvm.ClassFile Sem Op Lib Jvm.Free Jvm.Stand Jvm.LawKit Jvm.RoadKit Bundle Jvm.Pilot.@@N@@.Jvm.D
/-- what a walk must still come to -/
def OwnG (p : Program) (e : Env) (below : List Frame) (s : State) (C S : Nat) (Q : Option Value → Heap → List Loc → Prop) (A : State) : Prop :=
  ∃ s₂ o, Steps p.tables e below A s₂ ∧ s₂.status = .running ∧ Ended s₂ below o ∧ ∃ v L, o = .returned v ∧ Q v s₂.heap L ∧ FrameEnd s o s₂ L C S
theorem OwnG.go {p : Program} {e : Env} {below : List Frame} {s : State} {C S : Nat} {Q : Option Value → Heap → List Loc → Prop} {A B : State} (h : ∀ t, Steps p.tables e below A t → Steps p.tables e below B t) (k : OwnG p e below s C S Q A) : OwnG p e below s C S Q B := by
  obtain ⟨s₂, o, k1, k2⟩ := k
  exact ⟨s₂, o, h _ k1, k2⟩
theorem own_fin {p : Program} {l : Launch} {e : Env} {R : Room} {s : State} {m : MethodId} {args : Array Value} {below : List Frame} {meth : Method} {c : Code} {T : State} {locs : List Loc} {cells slots : Nat}
    (X : Stand p l e R s m args below meth c T locs cells slots) {C S : Nat} {Q : Option Value → Heap → List Loc → Prop} (hlocks : meth.locks = false) {v : Option Value} (hv : meth.sig.returnType = none → v = none) {A : State}
    (hst : ∀ fs, (∀ (f : JFrame) (acts : List Action), f.method = m → f.locked = none → f.entered = [] → (doReturn e (T.setTop f) acts v).1 = T.setFrames fs) → Steps p.tables e below A (T.setFrames fs))
    (hQ : Q v T.heap locs) (hc : cells ≤ C) (hs : slots ≤ S) : OwnG p e below s C S Q A := by
  obtain ⟨fs, hr, hrun, hended, hW, hsame⟩ := X.leave (v := v) hv hlocks
  exact ⟨_, _, hst fs hr, hrun, hended, v, locs, rfl, hQ, ⟨_, rfl⟩, hW, hsame.mono hc hs⟩
theorem own_lrem {p : Program} {l : Launch} {e : Env} {R : Room} {s : State} {m : MethodId} {args : Array Value} {below : List Frame} {meth : Method} {c : Code} {T : State} {locs : List Loc} {cells slots : Nat} {g : JFrame} {target : State}
    (X : Stand p l e R s m args below meth c T locs cells slots) (hx : p.tables.exec = Jvm.exec) (hg : g.method = m) {x y : Int64} {rest : List Value} (hd : decode c.code g.pc = .ok (.lrem, 1)) (hs : g.stack = .long y :: .long x :: rest) (hy : y ≠ 0)
    (hr : Steps p.tables e below (T.setTop { g with pc := g.pc + 1, stack := .long (x % y) :: rest }) target) : Steps p.tables e below (T.setTop g) target := by
  have q : x - x / y * y = x % y := lrem_mod x y
  exact XS.lrem X.here hx hg hd hs hy (by rw [q]; exact hr)
theorem own_lclt {a b : Int64} : lcmpW a b < 0 ↔ a < b := by
  unfold lcmpW
  by_cases h1 : a > b
  · simp only [h1, if_true]
    refine ⟨fun h => absurd h (by decide), fun h => ?_⟩
    rw [Int64.lt_iff_toInt_lt] at h; rw [gt_iff_lt, Int64.lt_iff_toInt_lt] at h1; omega
  · by_cases h2 : a = b
    · subst h2; simp [h1]
    · simp only [h1, h2, if_false]
      refine ⟨fun _ => ?_, fun _ => by decide⟩
      rw [gt_iff_lt, Int64.lt_iff_toInt_lt] at h1; rw [Int64.lt_iff_toInt_lt]
      have : a.toInt ≠ b.toInt := fun q => h2 (Int64.toInt_inj.mp q)
      omega
theorem own_lceq {a b : Int64} : lcmpW a b = 0 ↔ a = b := by
  unfold lcmpW
  by_cases h1 : a > b
  · simp only [h1, if_true]
    refine ⟨fun h => absurd h (by decide), fun h => ?_⟩
    subst h; rw [gt_iff_lt, Int64.lt_iff_toInt_lt] at h1; omega
  · by_cases h2 : a = b
    · subst h2; simp [h1]
    · simp only [h1, h2, if_false]
      exact ⟨fun h => absurd h (by decide), fun h => h.elim⟩
theorem own_lcgt {a b : Int64} : 0 < lcmpW a b ↔ b < a := by
  unfold lcmpW
  by_cases h1 : a > b
  · rw [if_pos h1]
    exact ⟨fun _ => h1, fun _ => by decide⟩
  · rw [if_neg h1]
    refine ⟨fun h => ?_, fun h => absurd h h1⟩
    by_cases h2 : a = b
    · rw [if_pos h2] at h; exact absurd h (by decide)
    · rw [if_neg h2] at h; exact absurd h (by decide)

theorem own_mask32 (x m : Int32) (h : 0 ≤ m.toInt) : 0 ≤ (x &&& m).toInt ∧ (x &&& m).toInt ≤ m.toInt := by
  have e : (x &&& m).toInt = (x.toBitVec &&& m.toBitVec).toInt := rfl
  have em : m.toInt = m.toBitVec.toInt := rfl
  have h1 : (x.toBitVec &&& m.toBitVec).toNat ≤ m.toBitVec.toNat := by rw [BitVec.toNat_and]; exact Nat.and_le_right
  have h2 := m.toBitVec.isLt
  rw [BitVec.toInt_eq_toNat_cond] at e em
  rw [em] at h
  rw [e, em]
  generalize (x.toBitVec &&& m.toBitVec).toNat = u at *
  generalize m.toBitVec.toNat = w at *
  split at h <;> split <;> omega
theorem own_mask64 (x m : Int64) (h : 0 ≤ m.toInt) : 0 ≤ (x &&& m).toInt ∧ (x &&& m).toInt ≤ m.toInt := by
  have e : (x &&& m).toInt = (x.toBitVec &&& m.toBitVec).toInt := rfl
  have em : m.toInt = m.toBitVec.toInt := rfl
  have h1 : (x.toBitVec &&& m.toBitVec).toNat ≤ m.toBitVec.toNat := by rw [BitVec.toNat_and]; exact Nat.and_le_right
  have h2 := m.toBitVec.isLt
  rw [BitVec.toInt_eq_toNat_cond] at e em
  rw [em] at h
  rw [e, em]
  generalize (x.toBitVec &&& m.toBitVec).toNat = u at *
  generalize m.toBitVec.toNat = w at *
  split at h <;> split <;> omega
theorem own_add32 {a b : Int32} (h1 : -2147483648 ≤ a.toInt + b.toInt) (h2 : a.toInt + b.toInt < 2147483648) : (a + b).toInt = a.toInt + b.toInt := by
  rw [Int32.toInt_add, Int.bmod_def]; omega
theorem own_sub32 {a b : Int32} (h1 : -2147483648 ≤ a.toInt - b.toInt) (h2 : a.toInt - b.toInt < 2147483648) : (a - b).toInt = a.toInt - b.toInt := by
  rw [Int32.toInt_sub, Int.bmod_def]; omega
theorem own_add64 {a b : Int64} (h1 : -9223372036854775808 ≤ a.toInt + b.toInt) (h2 : a.toInt + b.toInt < 9223372036854775808) : (a + b).toInt = a.toInt + b.toInt := by
  rw [Int64.toInt_add, Int.bmod_def]; omega
theorem own_sub64 {a b : Int64} (h1 : -9223372036854775808 ≤ a.toInt - b.toInt) (h2 : a.toInt - b.toInt < 9223372036854775808) : (a - b).toInt = a.toInt - b.toInt := by
  rw [Int64.toInt_sub, Int.bmod_def]; omega
theorem own_mul64 {a b : Int64} (h1 : -9223372036854775808 ≤ a.toInt * b.toInt) (h2 : a.toInt * b.toInt < 9223372036854775808) : (a * b).toInt = a.toInt * b.toInt := by
  rw [Int64.toInt_mul, Int.bmod_def]
  generalize a.toInt * b.toInt = z at *
  omega
theorem own_rem32 {a b : Int32} (h1 : 0 ≤ a.toInt) (h2 : 0 < b.toInt) : (a % b).toInt = a.toInt % b.toInt := by
  rw [Int32.toInt_mod, Int.tmod_eq_emod_of_nonneg h1]
theorem own_rem64 {a b : Int64} (h1 : 0 ≤ a.toInt) (h2 : 0 < b.toInt) : (a % b).toInt = a.toInt % b.toInt := by
  rw [Int64.toInt_mod, Int.tmod_eq_emod_of_nonneg h1]


def wc (s : Int64) : Int32 := ((((s + (64 : Int64)) - (1 : Int64)).toUInt64 >>> ((6 : Int32) &&& 0x3f).toInt64.toUInt64).toInt64).toInt32
theorem own_wc (s : Int64) (h1 : 0 ≤ s.toInt) (h2 : s.toInt ≤ 137438952896) : (wc s).toInt = (s.toInt + 63) / 64 := by
  have e64 : (64 : Int64).toInt = 64 := rfl
  have e1 : (1 : Int64).toInt = 1 := rfl
  have ha : (s + 64 - 1).toInt = s.toInt + 63 := by
    rw [own_sub64 (by rw [own_add64] <;> omega) (by rw [own_add64] <;> omega), own_add64 (by omega) (by omega)]; omega
  have hk : ((6 : Int32) &&& 0x3f).toInt64.toUInt64 = 6 := by decide
  have hn : (s + 64 - 1).toUInt64.toNat = (s.toInt + 63).toNat := by
    have q : (s + 64 - 1).toUInt64.toNat = (s + 64 - 1).toBitVec.toNat := rfl
    have q2 : (s + 64 - 1).toInt = (s + 64 - 1).toBitVec.toInt := rfl
    rw [q2, BitVec.toInt_eq_toNat_cond] at ha
    rw [q]
    split at ha <;> omega
  unfold wc
  rw [hk]
  have hs : ((s + 64 - 1).toUInt64 >>> 6).toNat = (s.toInt + 63).toNat / 64 := by
    rw [UInt64.toNat_shiftRight, hn]; simp [Nat.shiftRight_eq_div_pow]
  generalize (s + 64 - 1).toUInt64 >>> 6 = u at hs
  have hu : u.toInt64.toInt = ((s.toInt + 63).toNat / 64 : Nat) := by
    have q : u.toInt64.toInt = u.toBitVec.toInt := rfl
    have q2 : u.toNat = u.toBitVec.toNat := rfl
    rw [q, BitVec.toInt_eq_toNat_cond, ← q2]
    split <;> omega
  rw [Int64.toInt_toInt32, hu]
  clear hu hs hk hn ha e1 e64
  generalize s.toInt = z at h1 h2
  have hq : (((z + 63).toNat / 64 : Nat) : Int) = (z + 63) / 64 := by omega
  rw [hq, Int.bmod_def]
  omega
theorem own_s (x : Int64) : 0 ≤ ((x &&& (9223372036854775807 : Int64)) % (137438952897 : Int64)).toInt ∧ ((x &&& (9223372036854775807 : Int64)) % (137438952897 : Int64)).toInt ≤ 137438952896 := by
  have h := own_mask64 x 9223372036854775807 (by decide)
  have e : (137438952897 : Int64).toInt = 137438952897 := rfl
  rw [own_rem64 h.1 (by decide), e]
  omega
theorem own_facts (s : Int64) (h : 0 ≤ s.toInt ∧ s.toInt ≤ 137438952896) : ¬ (wc s < 0) ∧ ¬ ((wc s).toInt64 * 64 < s) ∧ (wc s = 0 → s = 0) ∧ (¬ wc s = 0 → (wc s).toInt64 * 64 - 64 < s) := by
  have hw := own_wc s h.1 h.2
  have e64 : (64 : Int64).toInt = 64 := rfl
  have e0 : (0 : Int32).toInt = 0 := rfl
  have e0' : (0 : Int64).toInt = 0 := rfl
  have hl : (wc s).toInt64.toInt = (wc s).toInt := Int32.toInt_toInt64 _
  have hm : ((wc s).toInt64 * 64).toInt = (wc s).toInt * 64 := by
    rw [own_mul64 (by rw [hl, e64]; omega) (by rw [hl, e64]; omega), hl, e64]
  have hd : ((wc s).toInt64 * 64 - 64).toInt = (wc s).toInt * 64 - 64 := by
    rw [own_sub64 (by rw [hm, e64]; omega) (by rw [hm, e64]; omega), hm, e64]
  rw [Int32.lt_iff_toInt_lt, Int64.lt_iff_toInt_lt, Int64.lt_iff_toInt_lt, ← Int32.toInt_inj, ← Int64.toInt_inj, hm, hd, e0, e0']
  omega

theorem d1_0 : decode prog_1_method_3_code 0 = .ok (.lload_n 0, 1) := by decide +kernel
theorem d1_1 : decode prog_1_method_3_code 1 = .ok (.ldc2_w 25, 3) := by decide +kernel
theorem d1_4 : decode prog_1_method_3_code 4 = .ok (.ladd, 1) := by decide +kernel
theorem d1_5 : decode prog_1_method_3_code 5 = .ok (.lconst 1, 1) := by decide +kernel
theorem d1_6 : decode prog_1_method_3_code 6 = .ok (.lsub, 1) := by decide +kernel
theorem d1_7 : decode prog_1_method_3_code 7 = .ok (.bipush 6, 2) := by decide +kernel
theorem d1_9 : decode prog_1_method_3_code 9 = .ok (.lushr, 1) := by decide +kernel
theorem d1_10 : decode prog_1_method_3_code 10 = .ok (.l2i, 1) := by decide +kernel
theorem d1_11 : decode prog_1_method_3_code 11 = .ok (.ireturn, 1) := by decide +kernel
theorem pn_1 : plainName "com/example/proset/proset/BitArray" = true := by first | (simp [plainName, overriddenIn]; done) | decide +kernel
theorem ef_rm1 (m : MethodId) (q1 : Int64) : entryFrame m #[(.long q1)] 2 = mkF m 0 #[.val (.long q1), .second] [] := by first | (simp [entryFrame, mkF, argsToLocals, Value.category]; done) | rfl
def Q1 (Z : State) (q1 : Int64) (h0 : Heap) (n0 : Nat) (v : Option Value) (h : Heap) (L : List Loc) : Prop := v = some (.int (wc q1)) ∧ Fr n0 L ∧ h = h0
set_option maxRecDepth 65536 in
set_option maxHeartbeats 40000000 in
theorem rm1 (l : Launch) (Z : State) (a0 : Array Value) (hw : ∀ d ∈ tables_1, d.before a0 Z = true) (ws : List Jvm.Cond) (q1 : Int64) (h0 : Heap) (n0 : Nat) (Z0 : n0 ≤ h0.size) :
    MetFree l (⟨"com/example/proset/proset/BitArray", "wordCount", "(J)I"⟩ : MethodName) (head1 (Jvm.Cond.code (⟨"com/example/proset/proset/BitArray", "wordCount", "(J)I"⟩ : MethodName) prog_1_method_3_code 2 (some .int) :: ws) ({ frames := 0, cells := 0, slots := 0, locals := 0 } : Room)) (fun a U => a = #[(.long q1)] ∧ Z.Warmed39 U.vm ∧ U.heap = h0) (fun _ _ _ _ _ => True) (fun _ U o U' => ∃ v L, o = .returned v ∧ Q1 Z q1 h0 n0 v U'.heap L ∧ FrameEnd U o U' L ({ frames := 0, cells := 0, slots := 0, locals := 0 } : Room).cells ({ frames := 0, cells := 0, slots := 0, locals := 0 } : Room).slots) := by
  refine MetFree.of_bodySF (plainFor_of_name pn_1) hisR ?_
  intro p e s m args below meth c s₁ Bd hml0 hP hK
  obtain ⟨rfl, hZ, hh⟩ := hP
  have hx := Bd.exec
  have hby := Bd.bytes
  have hml : c.maxLocals = 2 := hml0
  have hown : s.vm.findClass "com/example/proset/proset/BitArray" = some m.cls := findClass_of_methodNamed Bd.named
  have hnm := (name_of_methodNamed Bd.named Bd.method).1
  have X0 : Stand p l e ({ frames := 0, cells := 0, slots := 0, locals := 0 } : Room) s m #[(.long q1)] below meth c s₁ [] 0 0 := Stand.of_body Bd
  have e0 : s₁.heap = h0 := by rw [← hh, Bd.state]; rfl
  have N0 := Fr.nil n0
  obtain ⟨G, hG⟩ : ∃ G : State → Prop, G = OwnG p e below s ({ frames := 0, cells := 0, slots := 0, locals := 0 } : Room).cells ({ frames := 0, cells := 0, slots := 0, locals := 0 } : Room).slots (Q1 Z q1 h0 n0) := ⟨_, rfl⟩
  have go : ∀ {A B : State}, (∀ t, Steps p.tables e below A t → Steps p.tables e below B t) → G A → G B := fun h k => by rw [hG] at k ⊢; exact OwnG.go h k
  suffices k0 : G (s₁.setTop (mkF m 0 #[.val (.long q1), .second] [])) by
    rw [hG] at k0; exact OwnG.go (fun t k => castTop (ef_rm1 m q1) k) k0
  refine go (fun _ k => XS.lloadN X0.here hx rfl (hb hby d1_0) rfl k) ?_
  show G (s₁.setTop (mkF m 1 #[.val (.long q1), .second] [(.long q1)]))
  refine go (X0.ldc2Long hx hown (mvT hZ (hw _ (List.mem_of_getElem? (i := 6) rfl))) (g := (mkF m 1 #[.val (.long q1), .second] [(.long q1)])) rfl (hb hby d1_1)) ?_
  show G (s₁.setTop (mkF m 4 #[.val (.long q1), .second] [(.long (64 : Int64)), (.long q1)]))
  refine go (fun _ k => XS.ladd X0.here hx rfl (hb hby d1_4) rfl k) ?_
  show G (s₁.setTop (mkF m 5 #[.val (.long q1), .second] [(.long (q1 + (64 : Int64)))]))
  refine go (fun _ k => XS.lconst X0.here hx rfl (hb hby d1_5) k) ?_
  show G (s₁.setTop (mkF m 6 #[.val (.long q1), .second] [(.long (1 : Int64)), (.long (q1 + (64 : Int64)))]))
  refine go (fun _ k => XS.lsub X0.here hx rfl (hb hby d1_6) rfl k) ?_
  show G (s₁.setTop (mkF m 7 #[.val (.long q1), .second] [(.long ((q1 + (64 : Int64)) - (1 : Int64)))]))
  refine go (fun _ k => XS.bipush X0.here hx rfl (hb hby d1_7) k) ?_
  show G (s₁.setTop (mkF m 9 #[.val (.long q1), .second] [(.int (6 : Int32)), (.long ((q1 + (64 : Int64)) - (1 : Int64)))]))
  refine go (fun _ k => XS.lushr X0.here hx rfl (hb hby d1_9) rfl k) ?_
  show G (s₁.setTop (mkF m 10 #[.val (.long q1), .second] [(.long ((((q1 + (64 : Int64)) - (1 : Int64)).toUInt64 >>> ((6 : Int32) &&& 0x3f).toInt64.toUInt64).toInt64))]))
  refine go (fun _ k => XS.l2i X0.here hx rfl (hb hby d1_10) rfl k) ?_
  show G (s₁.setTop (mkF m 11 #[.val (.long q1), .second] [(.int (((((q1 + (64 : Int64)) - (1 : Int64)).toUInt64 >>> ((6 : Int32) &&& 0x3f).toInt64.toUInt64).toInt64).toInt32))]))
  rw [hG]
  refine own_fin X0 Bd.notSynchronized (v := some (.int (((((q1 + (64 : Int64)) - (1 : Int64)).toUInt64 >>> ((6 : Int32) &&& 0x3f).toInt64.toUInt64).toInt64).toInt32))) (fun h => by rw [Bd.returns] at h; cases h) (fun fs hr => retOut X0 hx Bd.returns rfl (by simp [FieldType.isReference, Value.isRef]) (hb hby d1_11) hr) ?_ (by decide) (by decide)
  show Q1 Z q1 h0 n0 (some (.int (((((q1 + (64 : Int64)) - (1 : Int64)).toUInt64 >>> ((6 : Int32) &&& 0x3f).toInt64.toUInt64).toInt64).toInt32))) s₁.heap _
  rw [e0]
  exact ⟨rfl, N0, rfl⟩

theorem pn_0 : plainName "com/example/proset/proset/BitArrayWordCountPinLaw" = true := by first | (simp [plainName, overriddenIn]; done) | decide +kernel
theorem pd_0_0 : parseMethodDescriptor "(J)I" = some ⟨[.long], some .int⟩ := by decide +kernel
theorem ef_rm0 (m : MethodId) (q1 : Int64) : entryFrame m #[(.long q1)] maxLocals = mkF m 0 #[.val (.long q1), .second, .unset, .unset, .unset, .unset, .unset, .unset, .unset] [] := by first | (simp [entryFrame, mkF, argsToLocals, Value.category, maxLocals]; done) | rfl
def Q0 (Z : State) (q1 : Int64) (h0 : Heap) (n0 : Nat) (v : Option Value) (h : Heap) (L : List Loc) : Prop := v = some (.int (1 : Int32)) ∧ Fr n0 L
set_option maxRecDepth 65536 in
set_option maxHeartbeats 40000000 in
theorem rm0 (l : Launch) (Z : State) (a0 : Array Value) (hw : ∀ d ∈ tables_1, d.before a0 Z = true) (ws : List Jvm.Cond) (q1 : Int64) (h0 : Heap) (n0 : Nat) (Z0 : n0 ≤ h0.size) :
    MetFree l x (head1 (Jvm.Cond.code x code maxLocals ret :: ws) room_1) (fun a U => a = #[(.long q1)] ∧ Z.Warmed39 U.vm ∧ U.heap = h0) (fun _ _ _ _ _ => True) (fun _ U o U' => ∃ v L, o = .returned v ∧ Q0 Z q1 h0 n0 v U'.heap L ∧ FrameEnd U o U' L room_1.cells room_1.slots) := by
  refine MetFree.of_bodySF (plainFor_of_name pn_0) hisR ?_
  intro p e s m args below meth c s₁ Bd hml0 hP hK
  obtain ⟨rfl, hZ, hh⟩ := hP
  have hx := Bd.exec
  have hby := Bd.bytes
  have hml : c.maxLocals = 9 := hml0
  have hown : s.vm.findClass "com/example/proset/proset/BitArrayWordCountPinLaw" = some m.cls := findClass_of_methodNamed Bd.named
  have hnm := (name_of_methodNamed Bd.named Bd.method).1
  have X0 : Stand p l e room_1 s m #[(.long q1)] below meth c s₁ [] 0 0 := Stand.of_body Bd
  have e0 : s₁.heap = h0 := by rw [← hh, Bd.state]; rfl
  have N0 := Fr.nil n0
  obtain ⟨G, hG⟩ : ∃ G : State → Prop, G = OwnG p e below s room_1.cells room_1.slots (Q0 Z q1 h0 n0) := ⟨_, rfl⟩
  have go : ∀ {A B : State}, (∀ t, Steps p.tables e below A t → Steps p.tables e below B t) → G A → G B := fun h k => by rw [hG] at k ⊢; exact OwnG.go h k
  suffices k0 : G (s₁.setTop (mkF m 0 #[.val (.long q1), .second, .unset, .unset, .unset, .unset, .unset, .unset, .unset] [])) by
    rw [hG] at k0; exact OwnG.go (fun t k => castTop (ef_rm0 m q1) k) k0
  refine go (fun _ k => XS.lloadN X0.here hx rfl (hb hby at_0) rfl k) ?_
  show G (s₁.setTop (mkF m 1 #[.val (.long q1), .second, .unset, .unset, .unset, .unset, .unset, .unset, .unset] [(.long q1)]))
  refine go (X0.ldc2Long hx hown (mvT hZ (hw _ (List.mem_of_getElem? (i := 0) rfl))) (g := (mkF m 1 #[.val (.long q1), .second, .unset, .unset, .unset, .unset, .unset, .unset, .unset] [(.long q1)])) rfl (hb hby at_1)) ?_
  show G (s₁.setTop (mkF m 4 #[.val (.long q1), .second, .unset, .unset, .unset, .unset, .unset, .unset, .unset] [(.long (9223372036854775807 : Int64)), (.long q1)]))
  refine go (fun _ k => XS.land X0.here hx rfl (hb hby at_4) rfl k) ?_
  show G (s₁.setTop (mkF m 5 #[.val (.long q1), .second, .unset, .unset, .unset, .unset, .unset, .unset, .unset] [(.long (q1 &&& (9223372036854775807 : Int64)))]))
  refine go (X0.ldc2Long hx hown (mvT hZ (hw _ (List.mem_of_getElem? (i := 1) rfl))) (g := (mkF m 5 #[.val (.long q1), .second, .unset, .unset, .unset, .unset, .unset, .unset, .unset] [(.long (q1 &&& (9223372036854775807 : Int64)))])) rfl (hb hby at_5)) ?_
  show G (s₁.setTop (mkF m 8 #[.val (.long q1), .second, .unset, .unset, .unset, .unset, .unset, .unset, .unset] [(.long (137438952897 : Int64)), (.long (q1 &&& (9223372036854775807 : Int64)))]))
  refine go (fun _ k => own_lrem X0 hx rfl (hb hby at_8) rfl (by decide) k) ?_
  show G (s₁.setTop (mkF m 9 #[.val (.long q1), .second, .unset, .unset, .unset, .unset, .unset, .unset, .unset] [(.long ((q1 &&& (9223372036854775807 : Int64)) % (137438952897 : Int64)))]))
  refine go (fun _ k => XS.lstoreN X0.here hx rfl (hb hby at_9) rfl (l' := #[.val (.long q1), .second, .val (.long ((q1 &&& (9223372036854775807 : Int64)) % (137438952897 : Int64))), .second, .unset, .unset, .unset, .unset, .unset]) rfl k) ?_
  show G (s₁.setTop (mkF m 10 #[.val (.long q1), .second, .val (.long ((q1 &&& (9223372036854775807 : Int64)) % (137438952897 : Int64))), .second, .unset, .unset, .unset, .unset, .unset] []))
  have hs := own_s q1
  generalize ((q1 &&& (9223372036854775807 : Int64)) % (137438952897 : Int64)) = z at hs
  show G (s₁.setTop (mkF m 10 #[.val (.long q1), .second, .val (.long z), .second, .unset, .unset, .unset, .unset, .unset] []))
  refine go (fun _ k => XS.lloadN X0.here hx rfl (hb hby at_10) rfl k) ?_
  show G (s₁.setTop (mkF m 11 #[.val (.long q1), .second, .val (.long z), .second, .unset, .unset, .unset, .unset, .unset] [(.long z)]))
  obtain ⟨_, _, ⟨T1, L1, k1, n1⟩, -, X1, ⟨Lc1, hQ1, l1, y1, z1⟩, st1⟩ := Jvm.LawKit.callS X0 hx (y := (⟨"com/example/proset/proset/BitArray", "wordCount", "(J)I"⟩ : MethodName)) hown (mvT hZ (hw _ (List.mem_of_getElem? (i := 2) rfl))) (mvT hZ (hw _ (List.mem_of_getElem? (i := 3) rfl))) (mvT hZ (hw _ (List.mem_of_getElem? (i := 4) rfl))) (mvT hZ (hw _ (List.mem_of_getElem? (i := 5) rfl))) (by decide) (backOf (W := 0) (rm1 l Z a0 hw [] z h0 n0 Z0) hZ (hw _ (List.mem_of_getElem? (i := 5) rfl)) (hw _ (List.mem_of_getElem? (i := 4) rfl)) (by decide) (by decide)) (g := (mkF m 11 #[.val (.long q1), .second, .val (.long z), .second, .unset, .unset, .unset, .unset, .unset] [(.long z)])) rfl (by rw [hml]; rfl) (argsL := [(.long z)]) (rest := []) (lenOf pd_0_0 rfl) rfl (by show 2 * 0 + _ ≤ _; exact Nat.le_of_eq rfl) (hb hby at_11) (fun _ _ => ⟨rfl, e0, (by decide : 0 + 0 ≤ _), (by decide : 0 + 0 ≤ _)⟩)
  dsimp only [Pt.U, Pt.locs, Pt.cells, Pt.slots] at X1 l1 y1 z1 st1 hQ1
  subst l1 y1 z1
  obtain ⟨rfl, N1q, e1⟩ := hQ1
  have N1 := Fr.app N0 N1q
  refine go st1 ?_
  show G (T1.setTop (mkF m 14 #[.val (.long q1), .second, .val (.long z), .second, .unset, .unset, .unset, .unset, .unset] [(.int (wc z))]))
  refine go (fun _ k => XS.istore X1.here hx rfl (hb hby at_14) rfl (l' := #[.val (.long q1), .second, .val (.long z), .second, .val (.int (wc z)), .unset, .unset, .unset, .unset]) rfl k) ?_
  show G (T1.setTop (mkF m 16 #[.val (.long q1), .second, .val (.long z), .second, .val (.int (wc z)), .unset, .unset, .unset, .unset] []))
  refine go (fun _ k => XS.iload X1.here hx rfl (hb hby at_16) rfl k) ?_
  show G (T1.setTop (mkF m 18 #[.val (.long q1), .second, .val (.long z), .second, .val (.int (wc z)), .unset, .unset, .unset, .unset] [(.int (wc z))]))
  have hc2 : ¬ ((wc z) < (0 : Int32)) := (own_facts z hs).1
  refine go (fun _ k => XS.ifYes X1.here hx rfl (pc0 := 18) (pc' := 23) rfl (hb hby at_18) rfl ((if0 _ _).trans (flt hc2).2.1) (by decide) (by decide) k) ?_
  show G (T1.setTop (mkF m 23 #[.val (.long q1), .second, .val (.long z), .second, .val (.int (wc z)), .unset, .unset, .unset, .unset] []))
  refine go (fun _ k => XS.iload X1.here hx rfl (hb hby at_23) rfl k) ?_
  show G (T1.setTop (mkF m 25 #[.val (.long q1), .second, .val (.long z), .second, .val (.int (wc z)), .unset, .unset, .unset, .unset] [(.int (wc z))]))
  refine go (fun _ k => XS.i2l X1.here hx rfl (hb hby at_25) rfl k) ?_
  show G (T1.setTop (mkF m 26 #[.val (.long q1), .second, .val (.long z), .second, .val (.int (wc z)), .unset, .unset, .unset, .unset] [(.long ((wc z).toInt64))]))
  refine go (X1.ldc2Long hx hown (mvT hZ (hw _ (List.mem_of_getElem? (i := 7) rfl))) (g := (mkF m 26 #[.val (.long q1), .second, .val (.long z), .second, .val (.int (wc z)), .unset, .unset, .unset, .unset] [(.long ((wc z).toInt64))])) rfl (hb hby at_26)) ?_
  show G (T1.setTop (mkF m 29 #[.val (.long q1), .second, .val (.long z), .second, .val (.int (wc z)), .unset, .unset, .unset, .unset] [(.long (64 : Int64)), (.long ((wc z).toInt64))]))
  refine go (fun _ k => XS.lmul X1.here hx rfl (hb hby at_29) rfl k) ?_
  show G (T1.setTop (mkF m 30 #[.val (.long q1), .second, .val (.long z), .second, .val (.int (wc z)), .unset, .unset, .unset, .unset] [(.long (((wc z).toInt64) * (64 : Int64)))]))
  refine go (fun _ k => XS.lstore X1.here hx rfl (hb hby at_30) rfl (l' := #[.val (.long q1), .second, .val (.long z), .second, .val (.int (wc z)), .val (.long (((wc z).toInt64) * (64 : Int64))), .second, .unset, .unset]) rfl k) ?_
  show G (T1.setTop (mkF m 32 #[.val (.long q1), .second, .val (.long z), .second, .val (.int (wc z)), .val (.long (((wc z).toInt64) * (64 : Int64))), .second, .unset, .unset] []))
  refine go (fun _ k => XS.lload X1.here hx rfl (hb hby at_32) rfl k) ?_
  show G (T1.setTop (mkF m 34 #[.val (.long q1), .second, .val (.long z), .second, .val (.int (wc z)), .val (.long (((wc z).toInt64) * (64 : Int64))), .second, .unset, .unset] [(.long (((wc z).toInt64) * (64 : Int64)))]))
  refine go (fun _ k => XS.lloadN X1.here hx rfl (hb hby at_34) rfl k) ?_
  show G (T1.setTop (mkF m 35 #[.val (.long q1), .second, .val (.long z), .second, .val (.int (wc z)), .val (.long (((wc z).toInt64) * (64 : Int64))), .second, .unset, .unset] [(.long z), (.long (((wc z).toInt64) * (64 : Int64)))]))
  refine go (fun _ k => XS.lcmp X1.here hx rfl (hb hby at_35) rfl k) ?_
  show G (T1.setTop (mkF m 36 #[.val (.long q1), .second, .val (.long z), .second, .val (.int (wc z)), .val (.long (((wc z).toInt64) * (64 : Int64))), .second, .unset, .unset] [(.int (lcmpW (((wc z).toInt64) * (64 : Int64)) z))]))
  have hc3 : ¬ ((((wc z).toInt64) * (64 : Int64)) < z) := (own_facts z hs).2.1
  refine go (fun _ k => XS.ifNo X1.here hx rfl (hb hby at_36) rfl ((if0 _ _).trans (flt (fun z => hc3 (own_lclt.mp z))).1) k) ?_
  show G (T1.setTop (mkF m 39 #[.val (.long q1), .second, .val (.long z), .second, .val (.int (wc z)), .val (.long (((wc z).toInt64) * (64 : Int64))), .second, .unset, .unset] []))
  refine go (fun _ k => XS.iconst X1.here hx rfl (hb hby at_39) k) ?_
  show G (T1.setTop (mkF m 40 #[.val (.long q1), .second, .val (.long z), .second, .val (.int (wc z)), .val (.long (((wc z).toInt64) * (64 : Int64))), .second, .unset, .unset] [(.int (1 : Int32))]))
  refine go (fun _ k => XS.goto X1.here hx rfl (pc0 := 40) (pc' := 44) rfl (hb hby at_40) (by decide) (by decide) k) ?_
  show G (T1.setTop (mkF m 44 #[.val (.long q1), .second, .val (.long z), .second, .val (.int (wc z)), .val (.long (((wc z).toInt64) * (64 : Int64))), .second, .unset, .unset] [(.int (1 : Int32))]))
  refine go (fun _ k => XS.istore X1.here hx rfl (hb hby at_44) rfl (l' := #[.val (.long q1), .second, .val (.long z), .second, .val (.int (wc z)), .val (.long (((wc z).toInt64) * (64 : Int64))), .second, .val (.int (1 : Int32)), .unset]) rfl k) ?_
  show G (T1.setTop (mkF m 46 #[.val (.long q1), .second, .val (.long z), .second, .val (.int (wc z)), .val (.long (((wc z).toInt64) * (64 : Int64))), .second, .val (.int (1 : Int32)), .unset] []))
  refine go (fun _ k => XS.iload X1.here hx rfl (hb hby at_46) rfl k) ?_
  show G (T1.setTop (mkF m 48 #[.val (.long q1), .second, .val (.long z), .second, .val (.int (wc z)), .val (.long (((wc z).toInt64) * (64 : Int64))), .second, .val (.int (1 : Int32)), .unset] [(.int (wc z))]))
  by_cases hc48_4 : (wc z) = (0 : Int32)
  · refine go (fun _ k => XS.ifNo X1.here hx rfl (hb hby at_48) rfl ((if0 _ _).trans (teq hc48_4).2) k) ?_
    show G (T1.setTop (mkF m 51 #[.val (.long q1), .second, .val (.long z), .second, .val (.int (wc z)), .val (.long (((wc z).toInt64) * (64 : Int64))), .second, .val (.int (1 : Int32)), .unset] []))
    refine go (fun _ k => XS.lloadN X1.here hx rfl (hb hby at_51) rfl k) ?_
    show G (T1.setTop (mkF m 52 #[.val (.long q1), .second, .val (.long z), .second, .val (.int (wc z)), .val (.long (((wc z).toInt64) * (64 : Int64))), .second, .val (.int (1 : Int32)), .unset] [(.long z)]))
    refine go (fun _ k => XS.lconst X1.here hx rfl (hb hby at_52) k) ?_
    show G (T1.setTop (mkF m 53 #[.val (.long q1), .second, .val (.long z), .second, .val (.int (wc z)), .val (.long (((wc z).toInt64) * (64 : Int64))), .second, .val (.int (1 : Int32)), .unset] [(.long (0 : Int64)), (.long z)]))
    refine go (fun _ k => XS.lcmp X1.here hx rfl (hb hby at_53) rfl k) ?_
    show G (T1.setTop (mkF m 54 #[.val (.long q1), .second, .val (.long z), .second, .val (.int (wc z)), .val (.long (((wc z).toInt64) * (64 : Int64))), .second, .val (.int (1 : Int32)), .unset] [(.int (lcmpW z (0 : Int64)))]))
    have hc5 : z = (0 : Int64) := (own_facts z hs).2.2.1 hc48_4
    refine go (fun _ k => XS.ifNo X1.here hx rfl (hb hby at_54) rfl ((if0 _ _).trans (teq (own_lceq.mpr hc5)).2) k) ?_
    show G (T1.setTop (mkF m 57 #[.val (.long q1), .second, .val (.long z), .second, .val (.int (wc z)), .val (.long (((wc z).toInt64) * (64 : Int64))), .second, .val (.int (1 : Int32)), .unset] []))
    refine go (fun _ k => XS.iconst X1.here hx rfl (hb hby at_57) k) ?_
    show G (T1.setTop (mkF m 58 #[.val (.long q1), .second, .val (.long z), .second, .val (.int (wc z)), .val (.long (((wc z).toInt64) * (64 : Int64))), .second, .val (.int (1 : Int32)), .unset] [(.int (1 : Int32))]))
    refine go (fun _ k => XS.goto X1.here hx rfl (pc0 := 58) (pc' := 81) rfl (hb hby at_58) (by decide) (by decide) k) ?_
    show G (T1.setTop (mkF m 81 #[.val (.long q1), .second, .val (.long z), .second, .val (.int (wc z)), .val (.long (((wc z).toInt64) * (64 : Int64))), .second, .val (.int (1 : Int32)), .unset] [(.int (1 : Int32))]))
    refine go (fun _ k => XS.istore X1.here hx rfl (hb hby at_81) rfl (l' := #[.val (.long q1), .second, .val (.long z), .second, .val (.int (wc z)), .val (.long (((wc z).toInt64) * (64 : Int64))), .second, .val (.int (1 : Int32)), .val (.int (1 : Int32))]) rfl k) ?_
    show G (T1.setTop (mkF m 83 #[.val (.long q1), .second, .val (.long z), .second, .val (.int (wc z)), .val (.long (((wc z).toInt64) * (64 : Int64))), .second, .val (.int (1 : Int32)), .val (.int (1 : Int32))] []))
    refine go (fun _ k => XS.iload X1.here hx rfl (hb hby at_83) rfl k) ?_
    show G (T1.setTop (mkF m 85 #[.val (.long q1), .second, .val (.long z), .second, .val (.int (wc z)), .val (.long (((wc z).toInt64) * (64 : Int64))), .second, .val (.int (1 : Int32)), .val (.int (1 : Int32))] [(.int (1 : Int32))]))
    have hc6 : ¬ ((1 : Int32) = (0 : Int32)) := (by decide)
    refine go (fun _ k => XS.ifNo X1.here hx rfl (hb hby at_85) rfl ((if0 _ _).trans (feq hc6).1) k) ?_
    show G (T1.setTop (mkF m 88 #[.val (.long q1), .second, .val (.long z), .second, .val (.int (wc z)), .val (.long (((wc z).toInt64) * (64 : Int64))), .second, .val (.int (1 : Int32)), .val (.int (1 : Int32))] []))
    refine go (fun _ k => XS.iload X1.here hx rfl (hb hby at_88) rfl k) ?_
    show G (T1.setTop (mkF m 90 #[.val (.long q1), .second, .val (.long z), .second, .val (.int (wc z)), .val (.long (((wc z).toInt64) * (64 : Int64))), .second, .val (.int (1 : Int32)), .val (.int (1 : Int32))] [(.int (1 : Int32))]))
    have hc7 : ¬ ((1 : Int32) = (0 : Int32)) := (by decide)
    refine go (fun _ k => XS.ifNo X1.here hx rfl (hb hby at_90) rfl ((if0 _ _).trans (feq hc7).1) k) ?_
    show G (T1.setTop (mkF m 93 #[.val (.long q1), .second, .val (.long z), .second, .val (.int (wc z)), .val (.long (((wc z).toInt64) * (64 : Int64))), .second, .val (.int (1 : Int32)), .val (.int (1 : Int32))] []))
    refine go (fun _ k => XS.iconst X1.here hx rfl (hb hby at_93) k) ?_
    show G (T1.setTop (mkF m 94 #[.val (.long q1), .second, .val (.long z), .second, .val (.int (wc z)), .val (.long (((wc z).toInt64) * (64 : Int64))), .second, .val (.int (1 : Int32)), .val (.int (1 : Int32))] [(.int (1 : Int32))]))
    refine go (fun _ k => XS.goto X1.here hx rfl (pc0 := 94) (pc' := 98) rfl (hb hby at_94) (by decide) (by decide) k) ?_
    show G (T1.setTop (mkF m 98 #[.val (.long q1), .second, .val (.long z), .second, .val (.int (wc z)), .val (.long (((wc z).toInt64) * (64 : Int64))), .second, .val (.int (1 : Int32)), .val (.int (1 : Int32))] [(.int (1 : Int32))]))
    rw [hG]
    refine own_fin X1 Bd.notSynchronized (v := some (.int (1 : Int32))) (fun h => by rw [Bd.returns] at h; cases h) (fun fs hr => retOut X1 hx Bd.returns rfl (by simp [FieldType.isReference, Value.isRef]) (hb hby at_98) hr) ?_ (by decide) (by decide)
    show Q0 Z q1 h0 n0 (some (.int (1 : Int32))) T1.heap _
    rw [e1]
    exact ⟨rfl, N1⟩
  · refine go (fun _ k => XS.ifYes X1.here hx rfl (pc0 := 48) (pc' := 65) rfl (hb hby at_48) rfl ((if0 _ _).trans (feq hc48_4).2) (by decide) (by decide) k) ?_
    show G (T1.setTop (mkF m 65 #[.val (.long q1), .second, .val (.long z), .second, .val (.int (wc z)), .val (.long (((wc z).toInt64) * (64 : Int64))), .second, .val (.int (1 : Int32)), .unset] []))
    refine go (fun _ k => XS.lload X1.here hx rfl (hb hby at_65) rfl k) ?_
    show G (T1.setTop (mkF m 67 #[.val (.long q1), .second, .val (.long z), .second, .val (.int (wc z)), .val (.long (((wc z).toInt64) * (64 : Int64))), .second, .val (.int (1 : Int32)), .unset] [(.long (((wc z).toInt64) * (64 : Int64)))]))
    refine go (X1.ldc2Long hx hown (mvT hZ (hw _ (List.mem_of_getElem? (i := 7) rfl))) (g := (mkF m 67 #[.val (.long q1), .second, .val (.long z), .second, .val (.int (wc z)), .val (.long (((wc z).toInt64) * (64 : Int64))), .second, .val (.int (1 : Int32)), .unset] [(.long (((wc z).toInt64) * (64 : Int64)))])) rfl (hb hby at_67)) ?_
    show G (T1.setTop (mkF m 70 #[.val (.long q1), .second, .val (.long z), .second, .val (.int (wc z)), .val (.long (((wc z).toInt64) * (64 : Int64))), .second, .val (.int (1 : Int32)), .unset] [(.long (64 : Int64)), (.long (((wc z).toInt64) * (64 : Int64)))]))
    refine go (fun _ k => XS.lsub X1.here hx rfl (hb hby at_70) rfl k) ?_
    show G (T1.setTop (mkF m 71 #[.val (.long q1), .second, .val (.long z), .second, .val (.int (wc z)), .val (.long (((wc z).toInt64) * (64 : Int64))), .second, .val (.int (1 : Int32)), .unset] [(.long ((((wc z).toInt64) * (64 : Int64)) - (64 : Int64)))]))
    refine go (fun _ k => XS.lloadN X1.here hx rfl (hb hby at_71) rfl k) ?_
    show G (T1.setTop (mkF m 72 #[.val (.long q1), .second, .val (.long z), .second, .val (.int (wc z)), .val (.long (((wc z).toInt64) * (64 : Int64))), .second, .val (.int (1 : Int32)), .unset] [(.long z), (.long ((((wc z).toInt64) * (64 : Int64)) - (64 : Int64)))]))
    refine go (fun _ k => XS.lcmp X1.here hx rfl (hb hby at_72) rfl k) ?_
    show G (T1.setTop (mkF m 73 #[.val (.long q1), .second, .val (.long z), .second, .val (.int (wc z)), .val (.long (((wc z).toInt64) * (64 : Int64))), .second, .val (.int (1 : Int32)), .unset] [(.int (lcmpW ((((wc z).toInt64) * (64 : Int64)) - (64 : Int64)) z))]))
    have hc8 : ((((wc z).toInt64) * (64 : Int64)) - (64 : Int64)) < z := (own_facts z hs).2.2.2 hc48_4
    refine go (fun _ k => XS.ifNo X1.here hx rfl (hb hby at_73) rfl ((if0 _ _).trans (tlt (own_lclt.mpr hc8)).2.1) k) ?_
    show G (T1.setTop (mkF m 76 #[.val (.long q1), .second, .val (.long z), .second, .val (.int (wc z)), .val (.long (((wc z).toInt64) * (64 : Int64))), .second, .val (.int (1 : Int32)), .unset] []))
    refine go (fun _ k => XS.iconst X1.here hx rfl (hb hby at_76) k) ?_
    show G (T1.setTop (mkF m 77 #[.val (.long q1), .second, .val (.long z), .second, .val (.int (wc z)), .val (.long (((wc z).toInt64) * (64 : Int64))), .second, .val (.int (1 : Int32)), .unset] [(.int (1 : Int32))]))
    refine go (fun _ k => XS.goto X1.here hx rfl (pc0 := 77) (pc' := 81) rfl (hb hby at_77) (by decide) (by decide) k) ?_
    show G (T1.setTop (mkF m 81 #[.val (.long q1), .second, .val (.long z), .second, .val (.int (wc z)), .val (.long (((wc z).toInt64) * (64 : Int64))), .second, .val (.int (1 : Int32)), .unset] [(.int (1 : Int32))]))
    refine go (fun _ k => XS.istore X1.here hx rfl (hb hby at_81) rfl (l' := #[.val (.long q1), .second, .val (.long z), .second, .val (.int (wc z)), .val (.long (((wc z).toInt64) * (64 : Int64))), .second, .val (.int (1 : Int32)), .val (.int (1 : Int32))]) rfl k) ?_
    show G (T1.setTop (mkF m 83 #[.val (.long q1), .second, .val (.long z), .second, .val (.int (wc z)), .val (.long (((wc z).toInt64) * (64 : Int64))), .second, .val (.int (1 : Int32)), .val (.int (1 : Int32))] []))
    refine go (fun _ k => XS.iload X1.here hx rfl (hb hby at_83) rfl k) ?_
    show G (T1.setTop (mkF m 85 #[.val (.long q1), .second, .val (.long z), .second, .val (.int (wc z)), .val (.long (((wc z).toInt64) * (64 : Int64))), .second, .val (.int (1 : Int32)), .val (.int (1 : Int32))] [(.int (1 : Int32))]))
    have hc9 : ¬ ((1 : Int32) = (0 : Int32)) := (by decide)
    refine go (fun _ k => XS.ifNo X1.here hx rfl (hb hby at_85) rfl ((if0 _ _).trans (feq hc9).1) k) ?_
    show G (T1.setTop (mkF m 88 #[.val (.long q1), .second, .val (.long z), .second, .val (.int (wc z)), .val (.long (((wc z).toInt64) * (64 : Int64))), .second, .val (.int (1 : Int32)), .val (.int (1 : Int32))] []))
    refine go (fun _ k => XS.iload X1.here hx rfl (hb hby at_88) rfl k) ?_
    show G (T1.setTop (mkF m 90 #[.val (.long q1), .second, .val (.long z), .second, .val (.int (wc z)), .val (.long (((wc z).toInt64) * (64 : Int64))), .second, .val (.int (1 : Int32)), .val (.int (1 : Int32))] [(.int (1 : Int32))]))
    have hc10 : ¬ ((1 : Int32) = (0 : Int32)) := (by decide)
    refine go (fun _ k => XS.ifNo X1.here hx rfl (hb hby at_90) rfl ((if0 _ _).trans (feq hc10).1) k) ?_
    show G (T1.setTop (mkF m 93 #[.val (.long q1), .second, .val (.long z), .second, .val (.int (wc z)), .val (.long (((wc z).toInt64) * (64 : Int64))), .second, .val (.int (1 : Int32)), .val (.int (1 : Int32))] []))
    refine go (fun _ k => XS.iconst X1.here hx rfl (hb hby at_93) k) ?_
    show G (T1.setTop (mkF m 94 #[.val (.long q1), .second, .val (.long z), .second, .val (.int (wc z)), .val (.long (((wc z).toInt64) * (64 : Int64))), .second, .val (.int (1 : Int32)), .val (.int (1 : Int32))] [(.int (1 : Int32))]))
    refine go (fun _ k => XS.goto X1.here hx rfl (pc0 := 94) (pc' := 98) rfl (hb hby at_94) (by decide) (by decide) k) ?_
    show G (T1.setTop (mkF m 98 #[.val (.long q1), .second, .val (.long z), .second, .val (.int (wc z)), .val (.long (((wc z).toInt64) * (64 : Int64))), .second, .val (.int (1 : Int32)), .val (.int (1 : Int32))] [(.int (1 : Int32))]))
    rw [hG]
    refine own_fin X1 Bd.notSynchronized (v := some (.int (1 : Int32))) (fun h => by rw [Bd.returns] at h; cases h) (fun fs hr => retOut X1 hx Bd.returns rfl (by simp [FieldType.isReference, Value.isRef]) (hb hby at_98) hr) ?_ (by decide) (by decide)
    show Q0 Z q1 h0 n0 (some (.int (1 : Int32))) T1.heap _
    rw [e1]
    exact ⟨rfl, N1⟩

set_option maxRecDepth 65536 in
set_option maxHeartbeats 40000000 in
theorem comes_1 {Post : Tables → Env → Array Value → State → Outcome → State → Prop} (hpost : ∀ tb e args s v u, (limb_1_1.after args s (.returned v) u = true ∧ limb_1_2.after args s (.returned v) u = true ∧ True) → FrameEnd s (.returned v) u (Jvm.fieldLocs frame_1_writes args s ++ Jvm.arrayLocs frame_1_arrays args s ++ Jvm.staticLocs frame_1_statics s) 0 0 → Post tb e args s (.returned v) u) :
    ArmFor flags0 classFile x code maxLocals ret World_1 tables_1 room_1 Calls_1 rest_1 Pre_1 Post := by
  intro l hfl _ _ p e ha hc hk s m args below hf hA hF happ hP
  obtain ⟨hcalls, hrest, hpre⟩ := hP
  obtain ⟨-, -, -, hnamed, -, -, -, hat⟩ := (Spec.applies_iff hf).mp happ
  obtain ⟨hg, hn⟩ := and_e (Cond.before_iff.mp (show (Jvm.Cond.and given_1 narrow_1).before args s = true from hpre))
  obtain ⟨g2, g3⟩ := and_e hg
  obtain ⟨w0, rfl⟩ : ∃ w0 : Value, args = #[w0] := by
    have hs : args.size = 1 := by simpa [Cond.value, given_1] using g2
    obtain ⟨L⟩ := args
    match L, hs with
    | [w0], _ => exact ⟨w0, rfl⟩
  have hw := fun d (hd : d ∈ tables_1) => atoms_spec (ws := Jvm.Cond.code x code maxLocals ret :: tables_1) hat d (List.mem_cons_of_mem _ hd)
  have hfit : Fit s := fun {y c} hc i hi => by
    obtain ⟨ha, rfl⟩ := Array.getElem?_eq_some_iff.mp hc
    have q := List.all_eq_true.mp ((Array.all_eq_true_iff_forall_mem.mp hF) _ (Array.getElem_mem ha)) i (List.mem_range.mpr hi)
    simpa [Array.getElem?_eq_getElem hi] using q
  obtain ⟨i0, ei0⟩ := isL_v g3
  obtain rfl : w0 = (.long i0) := Option.some.inj ei0
  obtain ⟨n, o, h1, h2, h3, _, L, rfl, ⟨rfl, N⟩, hq⟩ := rm0 l s _ hw tables_1 i0 s.heap s.heap.size (Nat.le_refl _)  p e ha hc hk s m _ below hf ((Spec.applies_iff_loose hf).mp happ).1 ⟨rfl, State.Warmed39.refl s, rfl⟩ trivial
  refine ⟨n, _, h1, h2, h3, hpost _ _ _ _ _ _ ⟨Cond.after_iff.mpr rfl, Cond.after_iff.mpr (eq_i res_at (Term.int_eval (1)) rfl), trivial⟩ ⟨hq.1, hq.2.1, (hq.2.2.sift fun y hy => Or.inr (N y hy)).mono (by decide) (by decide)⟩⟩
theorem main_1_1 : Claimed_1_1 := comes_1 fun _ _ _ _ _ _ h hF => ⟨h.1, hF⟩
theorem main_1_2 : Claimed_1_2 := comes_1 fun _ _ _ _ _ _ h hF => ⟨h.2.1, hF⟩
end Jvm.Pilot.@@N@@
namespace Jvm.Pilot.@@N@@
open Jvm Jvm.ClassFile Sem Op Lib Jvm.Free Jvm.Stand Jvm.Pilot.@@N@@.Jvm.D
/-! MADE BY PROGRAM (witnessworld.py) out of the Statement's table words and the real class files: 9 classes; the members and pool entries that the words name. The judged class is class 1, her method 1. -/
namespace start1
open Jvm.ClassFile
def u (s : String) : CpInfo := .utf8 (stringToUtf16 s)
/-- a pool by its gaps: so many unusable entries, then the entry; so many at the end -/
def gap : Nat → List CpInfo → List CpInfo
  | 0, r => r
  | n + 1, r => .unusable :: gap n r
def poolList (es : List (Nat × CpInfo)) (last : Nat) : List CpInfo := es.foldr (fun e r => gap e.1 (e.2 :: r)) (gap last [])
def pool (es : List (Nat × CpInfo)) (last : Nat) : Array CpInfo := ⟨poolList es last⟩
def fileOf (pool : Array CpInfo) (this : Nat) (attrs : Array Attribute := #[]) (ms : Array MethodInfo := #[]) (fl : Nat := 33) (sup : Nat := 0) (ifs : Array Nat := #[]) (fds : Array FieldInfo := #[]) : ClassFile where
  minorVersion := 0
  majorVersion := 65
  constantPool := pool
  accessFlags := fl
  thisClass := this
  superClass := sup
  interfaces := ifs
  fields := fds
  methods := ms
  attributes := attrs
def plain (name : String) (sup : Option ClassId) : Class where
  name := name
  kind := .ordinary
  loader := none
  accessFlags := 33
  super := sup
  interfaces := #[]
  cf := none
  fields := #[]
  methods := #[]
  instanceTypes := #[]
  staticTypes := #[]
  resolved := #[]
  callSites := []
  init := .initialized
  statics := none
  mirror := none

def pool0 : Array CpInfo := pool [(5, u "<init>"), (0, u "()V"), (1, .class_ 10), (1, u "java/lang/Object")] 113

def k0m0 : Method := { name := "<init>", desc := "()V", sig := { parameters := [], returnType := none }, accessFlags := 1, code := none }
/-- java/lang/Object -/
def k0 : Class := { plain "java/lang/Object" none with
  accessFlags := 33
  interfaces := #[]
  cf := some (fileOf pool0 8 #[] #[{ accessFlags := 1, nameIndex := 5, descriptorIndex := 6, attributes := #[] }] 33 0 #[] #[])
  fields := #[]
  methods := #[k0m0]
  instanceTypes := #[]
  staticTypes := #[]
  resolved := Array.replicate 124 none
  statics := none }

def pool1 : Array CpInfo := pool [(2, .class_ 4), (1, u "java/lang/Object"), (0, u "<init>"), (0, u "()V"), (2, .long 9223372036854775807), (1, .class_ 12), (0, u "com/example/proset/proset/BitArray"), (0, .long 137438952897), (1, .methodref 11 16), (0, .nameAndType 17 18), (0, u "wordCount"), (0, u "(J)I"), (0, .long 64), (1, .class_ 22), (0, u "com/example/proset/proset/BitArrayWordCountPinLaw"), (2, u "law"), (0, u "(J)Z")] 3

def k1m0 : Method := { name := "<init>", desc := "()V", sig := { parameters := [], returnType := none }, accessFlags := 1, code := none }
def k1c1 : Code := { maxStack := 4, maxLocals := 9, code := code, exceptionTable := #[], attributes := #[] }
def k1m1 : Method := { name := "law", desc := "(J)Z", sig := { parameters := [.long], returnType := some .boolean }, accessFlags := 9, code := some k1c1 }
/-- com/example/proset/proset/BitArrayWordCountPinLaw -/
def k1 : Class := { plain "com/example/proset/proset/BitArrayWordCountPinLaw" (some 0) with
  accessFlags := 49
  interfaces := #[]
  cf := some (fileOf pool1 21 #[] #[{ accessFlags := 1, nameIndex := 5, descriptorIndex := 6, attributes := #[] }, { accessFlags := 9, nameIndex := 25, descriptorIndex := 26, attributes := #[] }] 49 2 #[] #[])
  fields := #[]
  methods := #[k1m0, k1m1]
  instanceTypes := #[]
  staticTypes := #[]
  resolved := Array.replicate 30 none
  statics := none }

def pool2 : Array CpInfo := pool [(6, .class_ 8), (1, u "java/lang/Object"), (3, .class_ 14), (1, u "com/example/proset/proset/BitArray"), (0, u "size"), (0, u "J"), (2, u "wordCount"), (0, u "(J)I"), (2, u "words"), (0, u "[J"), (0, .long 64), (48, u "WORDS"), (0, u "Ljava/lang/invoke/VarHandle;"), (14, u "MAX_SIZE"), (3, u "WORD_INDEX_SHIFT"), (0, u "I"), (1, u "GROUP")] 17

def k2c0 : Code := { maxStack := 4, maxLocals := 2, code := prog_1_method_3_code, exceptionTable := #[], attributes := #[] }
def k2m0 : Method := { name := "wordCount", desc := "(J)I", sig := { parameters := [.long], returnType := some .int }, accessFlags := 8, code := some k2c0 }
/-- com/example/proset/proset/BitArray -/
def k2 : Class := { plain "com/example/proset/proset/BitArray" (some 0) with
  accessFlags := 48
  interfaces := #[]
  cf := some (fileOf pool2 12 #[] #[{ accessFlags := 8, nameIndex := 19, descriptorIndex := 20, attributes := #[] }] 48 6 #[] #[{ accessFlags := 24, nameIndex := 90, descriptorIndex := 16, attributes := #[] }, { accessFlags := 26, nameIndex := 94, descriptorIndex := 95, attributes := #[] }, { accessFlags := 26, nameIndex := 97, descriptorIndex := 95, attributes := #[] }, { accessFlags := 26, nameIndex := 74, descriptorIndex := 75, attributes := #[] }, { accessFlags := 18, nameIndex := 15, descriptorIndex := 16, attributes := #[] }, { accessFlags := 18, nameIndex := 23, descriptorIndex := 24, attributes := #[] }])
  fields := #[{ name := "MAX_SIZE", type := .long, accessFlags := 24, slot := 0, constantValue := 0 }, { name := "WORD_INDEX_SHIFT", type := .int, accessFlags := 26, slot := 1, constantValue := 0 }, { name := "GROUP", type := .int, accessFlags := 26, slot := 2, constantValue := 0 }, { name := "WORDS", type := (.object "java/lang/invoke/VarHandle"), accessFlags := 26, slot := 3, constantValue := 0 }, { name := "size", type := .long, accessFlags := 18, slot := 0, constantValue := 0 }, { name := "words", type := (.array .long), accessFlags := 18, slot := 1, constantValue := 0 }]
  methods := #[k2m0]
  instanceTypes := #[.long, (.array .long)]
  staticTypes := #[.long, .int, .int, (.object "java/lang/invoke/VarHandle")]
  resolved := Array.replicate 115 none
  statics := none }

def pool3 : Array CpInfo := pool [(1, u "java/lang/Cloneable"), (0, .class_ 1), (0, u "java/lang/Object"), (0, .class_ 3)] 3

/-- java/lang/Cloneable -/
def k3 : Class := { plain "java/lang/Cloneable" (some 0) with
  accessFlags := 1537
  interfaces := #[]
  cf := some (fileOf pool3 2 #[] #[] 1537 4 #[] #[])
  fields := #[]
  methods := #[]
  instanceTypes := #[]
  staticTypes := #[]
  resolved := Array.replicate 8 none
  statics := none }

def pool4 : Array CpInfo := pool [(1, u "java/io/Serializable"), (0, .class_ 1), (0, u "java/lang/Object"), (0, .class_ 3)] 3

/-- java/io/Serializable -/
def k4 : Class := { plain "java/io/Serializable" (some 0) with
  accessFlags := 1537
  interfaces := #[]
  cf := some (fileOf pool4 2 #[] #[] 1537 4 #[] #[])
  fields := #[]
  methods := #[]
  instanceTypes := #[]
  staticTypes := #[]
  resolved := Array.replicate 8 none
  statics := none }

/-- the primitive byte -/
def k5 : Class := { plain "byte" none with kind := .primitive 'B', accessFlags := 0x411 }
/-- [B -/
def k6 : Class := { plain "[B" (some 0) with kind := .array 5 .byte, interfaces := #[3, 4], accessFlags := 1041 }

/-- the primitive int -/
def k7 : Class := { plain "int" none with kind := .primitive 'I', accessFlags := 0x411 }
/-- [I -/
def k8 : Class := { plain "[I" (some 0) with kind := .array 7 .int, interfaces := #[3, 4], accessFlags := 1041 }

def heap : Heap := #[]
def classes : Array Class := #[k0, k1, k2, k3, k4, k5, k6, k7, k8]
def interned : List (Array UInt16 × Addr) := []
def slotsUsed : Nat := 0
def theMethod : MethodId := ⟨1, 1⟩
def args0 : Array Value := #[.long 5]
def aboutOver (below : List Frame) : State where
  vm := { classes := classes, interned := interned.toArray }
  heap := heap
  slotsUsed := slotsUsed
  threads := #[{ frames := .invoking theMethod args0 :: below }]
def below0 : List Frame := [.native { method := ⟨0, 0⟩, args := #[] }]
def about1 : State := aboutOver below0
def p0 : Program := .bare "" "" ""
def e0 : Env := launch0.env 0 0 0
theorem w_frames : about1.frames = Frame.invoking theMethod args0 :: below0 := rfl
set_option maxRecDepth 65536 in
theorem w_args : argsFit about1.vm theMethod args0 = true := by decide +kernel
set_option maxRecDepth 65536 in
theorem w_heap : heapFits about1 = true := by decide +kernel
set_option maxRecDepth 65536 in
theorem w_runnable : about1.curStatus? = some .runnable := by decide +kernel
set_option maxRecDepth 65536 in
theorem w_alone : about1.alone = true := by decide +kernel
set_option maxRecDepth 65536 in
theorem w_named : about1.methodNamed? x = some theMethod := by decide +kernel
set_option maxRecDepth 65536 in
theorem w_hears : about1.hears theMethod below0 = true := by decide +kernel
set_option maxRecDepth 65536 in
theorem w_ripe : about1.ripe theMethod args0 below0 = true := by decide +kernel
theorem w_running : about1.status = .running := rfl
set_option maxRecDepth 65536 in
theorem w_room : about1.hasRoom e0.platform room_1 = true :=
  launch0.hasRoom_least _ room_1 (by decide +kernel) (by decide +kernel) (by decide +kernel) (by decide +kernel) (by decide +kernel) (by decide +kernel)
theorem allAtoms_all (ts : List Jvm.Cond) (a : Array Jvm.Value) (st : Jvm.State) : (allAtoms ts).before a st = ts.all (fun c => c.before a st) := by
  induction ts with
  | nil => rfl
  | cons c t ih =>
    show (Jvm.Cond.and c (allAtoms t)).before a st = _
    rw [Jvm.Cond.before_and, ih, List.all_cons]
def words1 : List Jvm.Cond := Jvm.Cond.code x code maxLocals ret :: tables_1
/-- a 'code' word, met by the world's own term for the bytes: nothing is compared byte by byte -/
theorem code_word {y : MethodName} {bytes : ByteArray} {mx : Nat} {rt : Option FieldType} {a : Array Value} {s : State} {m : MethodId} {meth : Method} {c : Code} (h1 : s.methodNamed? y = some m) (h2 : s.vm.method? m = some meth) (h3 : meth.code = some c) (h4 : c.code = bytes)
    (h5 : (c.maxLocals == mx && c.exceptionTable.isEmpty && decide (c.maxStack ≤ mostOperands) && decide (meth.sig.returnType = rt) && !meth.locks && decide (parseMethodDescriptor y.desc = some meth.sig)) = true) : (Jvm.Cond.code y bytes mx rt).before a s = true := by
  simp only [Bool.and_eq_true, beq_iff_eq, Bool.not_eq_true', decide_eq_true_eq] at h5
  obtain ⟨⟨⟨⟨⟨g1, g2⟩, g3⟩, g4⟩, g5⟩, g6⟩ := h5
  simp [Cond.before, Cond.holds, Cond.value, h1, h2, h3, h4, g1, g2, g3, g4, g5, g6]
def isCode : Jvm.Cond → Bool
  | .code _ _ _ _ => true
  | _ => false
theorem all_split {L : List Jvm.Cond} {P : Jvm.Cond → Bool} (h1 : L.all (fun c => isCode c || P c) = true) (h2 : ∀ c ∈ L.filter isCode, P c = true) : L.all P = true := by
  refine List.all_eq_true.mpr fun c hc => ?_
  have h := List.all_eq_true.mp h1 c hc
  rcases Bool.eq_false_or_eq_true (isCode c) with hi | hi
  · exact h2 c (List.mem_filter.mpr ⟨hc, hi⟩)
  · simpa [hi] using h
set_option maxRecDepth 65536 in
theorem w_c0 : (Jvm.Cond.code x code maxLocals ret).before args0 about1 = true := code_word (m := ⟨1, 1⟩) (meth := k1m1) (c := k1c1) (by decide +kernel) rfl rfl rfl (by decide +kernel)
set_option maxRecDepth 65536 in
theorem w_c1 : (Jvm.Cond.code ({ cls := "com/example/proset/proset/BitArray", name := "wordCount", desc := "(J)I" } : Jvm.MethodName) prog_1_method_3_code (2 : Nat) (Option.some Jvm.ClassFile.FieldType.int)).before args0 about1 = true := code_word (m := ⟨2, 0⟩) (meth := k2m0) (c := k2c0) (by decide +kernel) rfl rfl rfl (by decide +kernel)
def codes1 : List Jvm.Cond := [Jvm.Cond.code x code maxLocals ret, Jvm.Cond.code ({ cls := "com/example/proset/proset/BitArray", name := "wordCount", desc := "(J)I" } : Jvm.MethodName) prog_1_method_3_code (2 : Nat) (Option.some Jvm.ClassFile.FieldType.int)]
set_option maxRecDepth 65536 in
theorem codes_eq : words1.filter isCode = codes1 := rfl
theorem w_codes : ∀ c ∈ words1.filter isCode, c.before args0 about1 = true := by
  rw [codes_eq]
  intro c hc
  simp only [codes1, List.mem_cons, List.not_mem_nil, or_false] at hc
  rcases hc with rfl | rfl
  · exact w_c0
  · exact w_c1
set_option maxRecDepth 65536 in
theorem w_t1 : words1.all (fun c => isCode c || c.before args0 about1) = true := by decide +kernel
theorem w_tables : (allAtoms (Jvm.Cond.code x code maxLocals ret :: tables_1)).before args0 about1 = true := by
  rw [allAtoms_all]
  show words1.all (fun c => c.before args0 about1) = true
  refine all_split ?_ w_codes
  rw [w_t1]
set_option maxRecDepth 65536 in
theorem w_case : (Jvm.Cond.and given_1 narrow_1).before args0 about1 = true := by decide +kernel
theorem w_applies : (headSpec (Jvm.Cond.code x code maxLocals ret :: tables_1) room_1).applies x e0.platform about1 = true :=
  (Spec.applies_iff w_frames).mpr ⟨w_running, w_runnable, w_alone, w_named, w_hears, w_ripe, w_room, w_tables⟩
theorem atStart : AtStart classFile x code maxLocals ret World_1 tables_1 room_1 Calls_1 rest_1 Pre_1 launch0 p0 e0 about1 theMethod args0 below0 :=
  ⟨lists_1, trivial, launch0.admits_env _ _ _, launch0.least_env, fairChoices_fair.cas, fairChoices_fair.clock, w_frames, w_args, w_heap, w_applies, trivial, trivial, w_case⟩
end start1
theorem witness_1 : WitnessClaimed_1 := ⟨start1.p0, start1.e0, start1.about1, start1.theMethod, start1.args0, start1.below0, start1.atStart⟩
end Jvm.Pilot.@@N@@
