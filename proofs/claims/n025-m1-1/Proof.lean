import JvmDerived
import JvmDerived.Pilot.@@N@@Statement
import JvmDerived.Pilot.@@N@@Code
set_option linter.unusedVariables false
set_option linter.unusedSimpArgs false
namespace Jvm.Pilot.@@N@@
open Jvm Jvm.ClassFile Sem Op Lib Jvm.Free Jvm.Stand Jvm.LawKit Jvm.RoadKit Bundle Jvm.Pilot.@@N@@.Jvm.D
/-- what a walk must still come to -/
def OwnG (p : Program) (e : Env) (below : List Frame) (s : State) (C S : Nat) (Q : Option Value → Heap → List Loc → Prop) (A : State) : Prop :=
  ∃ s₂ o, Steps p.tables e below A s₂ ∧ s₂.status = .running ∧ Ended s₂ below o ∧ ∃ v L, o = .returned v ∧ Q v s₂.heap L ∧ FrameEnd s o s₂ L C S
theorem OwnG.go {p : Program} {e : Env} {below : List Frame} {s : State} {C S : Nat} {Q : Option Value → Heap → List Loc → Prop} {A B : State} (h : ∀ t, Steps p.tables e below A t → Steps p.tables e below B t) (k : OwnG p e below s C S Q A) : OwnG p e below s C S Q B := by
  obtain ⟨s₂, o, k1, k2⟩ := k
  exact ⟨s₂, o, h _ k1, k2⟩
theorem own_fin {p : Program} {l : Launch} {e : Env} {R : Room} {s : State} {m : MethodId} {args : Array Value} {below : List Frame} {meth : Method} {c : Code} {T : State} {locs : List Loc} {cells slots : Nat}
    (X : Stand p l e R s m args below meth c T locs cells slots) {C S : Nat} {Q : Option Value → Heap → List Loc → Prop} (hlocks : meth.locks = false) {v : Option Value} (hv : meth.sig.returnType = none → v = none) {A : State}
    (hst : ∀ fs, (∀ (f : JFrame) (acts : List Action), f.method = m → f.locked = none → f.entered = [] → (doReturn e (T.setTop f) acts v).1 = T.setFrames fs) → Steps p.tables e below A (T.setFrames fs))
    (hQ : Q v T.heap locs) (hc : cells ≤ C) (hs : slots ≤ S) : OwnG p e below s C S Q A := by
  obtain ⟨fs, hr, hrun, hended, hW, hsame⟩ := X.leave (v := v) hv hlocks
  exact ⟨_, _, hst fs hr, hrun, hended, v, locs, rfl, hQ, ⟨_, rfl⟩, hW, hsame.mono hc hs⟩
theorem own_lrem {p : Program} {l : Launch} {e : Env} {R : Room} {s : State} {m : MethodId} {args : Array Value} {below : List Frame} {meth : Method} {c : Code} {T : State} {locs : List Loc} {cells slots : Nat} {g : JFrame} {target : State}
    (X : Stand p l e R s m args below meth c T locs cells slots) (hx : p.tables.exec = Jvm.exec) (hg : g.method = m) {x y : Int64} {rest : List Value} (hd : decode c.code g.pc = .ok (.lrem, 1)) (hs : g.stack = .long y :: .long x :: rest) (hy : y ≠ 0)
    (hr : Steps p.tables e below (T.setTop { g with pc := g.pc + 1, stack := .long (x % y) :: rest }) target) : Steps p.tables e below (T.setTop g) target := by
  have q : x - x / y * y = x % y := lrem_mod x y
  exact XS.lrem X.here hx hg hd hs hy (by rw [q]; exact hr)
theorem own_lclt {a b : Int64} : lcmpW a b < 0 ↔ a < b := by
  unfold lcmpW
  by_cases h1 : a > b
  · simp only [h1, if_true]
    refine ⟨fun h => absurd h (by decide), fun h => ?_⟩
    rw [Int64.lt_iff_toInt_lt] at h; rw [gt_iff_lt, Int64.lt_iff_toInt_lt] at h1; omega
  · by_cases h2 : a = b
    · subst h2; simp [h1]
    · simp only [h1, h2, if_false]
      refine ⟨fun _ => ?_, fun _ => by decide⟩
      rw [gt_iff_lt, Int64.lt_iff_toInt_lt] at h1; rw [Int64.lt_iff_toInt_lt]
      have : a.toInt ≠ b.toInt := fun q => h2 (Int64.toInt_inj.mp q)
      omega
theorem own_lceq {a b : Int64} : lcmpW a b = 0 ↔ a = b := by
  unfold lcmpW
  by_cases h1 : a > b
  · simp only [h1, if_true]
    refine ⟨fun h => absurd h (by decide), fun h => ?_⟩
    subst h; rw [gt_iff_lt, Int64.lt_iff_toInt_lt] at h1; omega
  · by_cases h2 : a = b
    · subst h2; simp [h1]
    · simp only [h1, h2, if_false]
      exact ⟨fun h => absurd h (by decide), fun h => h.elim⟩
theorem own_lcgt {a b : Int64} : 0 < lcmpW a b ↔ b < a := by
  unfold lcmpW
  by_cases h1 : a > b
  · rw [if_pos h1]
    exact ⟨fun _ => h1, fun _ => by decide⟩
  · rw [if_neg h1]
    refine ⟨fun h => ?_, fun h => absurd h h1⟩
    by_cases h2 : a = b
    · rw [if_pos h2] at h; exact absurd h (by decide)
    · rw [if_neg h2] at h; exact absurd h (by decide)

theorem own_mask32 (x m : Int32) (h : 0 ≤ m.toInt) : 0 ≤ (x &&& m).toInt ∧ (x &&& m).toInt ≤ m.toInt := by
  have e : (x &&& m).toInt = (x.toBitVec &&& m.toBitVec).toInt := rfl
  have em : m.toInt = m.toBitVec.toInt := rfl
  have h1 : (x.toBitVec &&& m.toBitVec).toNat ≤ m.toBitVec.toNat := by rw [BitVec.toNat_and]; exact Nat.and_le_right
  have h2 := m.toBitVec.isLt
  rw [BitVec.toInt_eq_toNat_cond] at e em
  rw [em] at h
  rw [e, em]
  generalize (x.toBitVec &&& m.toBitVec).toNat = u at *
  generalize m.toBitVec.toNat = w at *
  split at h <;> split <;> omega
theorem own_mask64 (x m : Int64) (h : 0 ≤ m.toInt) : 0 ≤ (x &&& m).toInt ∧ (x &&& m).toInt ≤ m.toInt := by
  have e : (x &&& m).toInt = (x.toBitVec &&& m.toBitVec).toInt := rfl
  have em : m.toInt = m.toBitVec.toInt := rfl
  have h1 : (x.toBitVec &&& m.toBitVec).toNat ≤ m.toBitVec.toNat := by rw [BitVec.toNat_and]; exact Nat.and_le_right
  have h2 := m.toBitVec.isLt
  rw [BitVec.toInt_eq_toNat_cond] at e em
  rw [em] at h
  rw [e, em]
  generalize (x.toBitVec &&& m.toBitVec).toNat = u at *
  generalize m.toBitVec.toNat = w at *
  split at h <;> split <;> omega
theorem own_add32 {a b : Int32} (h1 : -2147483648 ≤ a.toInt + b.toInt) (h2 : a.toInt + b.toInt < 2147483648) : (a + b).toInt = a.toInt + b.toInt := by
  rw [Int32.toInt_add, Int.bmod_def]; omega
theorem own_sub32 {a b : Int32} (h1 : -2147483648 ≤ a.toInt - b.toInt) (h2 : a.toInt - b.toInt < 2147483648) : (a - b).toInt = a.toInt - b.toInt := by
  rw [Int32.toInt_sub, Int.bmod_def]; omega
theorem own_add64 {a b : Int64} (h1 : -9223372036854775808 ≤ a.toInt + b.toInt) (h2 : a.toInt + b.toInt < 9223372036854775808) : (a + b).toInt = a.toInt + b.toInt := by
  rw [Int64.toInt_add, Int.bmod_def]; omega
theorem own_sub64 {a b : Int64} (h1 : -9223372036854775808 ≤ a.toInt - b.toInt) (h2 : a.toInt - b.toInt < 9223372036854775808) : (a - b).toInt = a.toInt - b.toInt := by
  rw [Int64.toInt_sub, Int.bmod_def]; omega
theorem own_mul64 {a b : Int64} (h1 : -9223372036854775808 ≤ a.toInt * b.toInt) (h2 : a.toInt * b.toInt < 9223372036854775808) : (a * b).toInt = a.toInt * b.toInt := by
  rw [Int64.toInt_mul, Int.bmod_def]
  generalize a.toInt * b.toInt = z at *
  omega
theorem own_rem32 {a b : Int32} (h1 : 0 ≤ a.toInt) (h2 : 0 < b.toInt) : (a % b).toInt = a.toInt % b.toInt := by
  rw [Int32.toInt_mod, Int.tmod_eq_emod_of_nonneg h1]
theorem own_rem64 {a b : Int64} (h1 : 0 ≤ a.toInt) (h2 : 0 < b.toInt) : (a % b).toInt = a.toInt % b.toInt := by
  rw [Int64.toInt_mod, Int.tmod_eq_emod_of_nonneg h1]


def rup (w f : Int64) : Int64 := if 0 < f then w + 1 else w
theorem own_d (x : Int64) : 1 ≤ ((x &&& (4611686018427387903 : Int64)) + (1 : Int64)).toInt ∧ ((x &&& (4611686018427387903 : Int64)) + (1 : Int64)).toInt ≤ 4611686018427387904 := by
  have h := own_mask64 x 4611686018427387903 (by decide)
  have e1 : (1 : Int64).toInt = 1 := rfl
  have e2 : (4611686018427387903 : Int64).toInt = 4611686018427387903 := rfl
  rw [own_add64 (by omega) (by omega)]; omega
theorem own_f (x d : Int64) (hd : 1 ≤ d.toInt ∧ d.toInt ≤ 4611686018427387904) : 0 ≤ ((x &&& (9223372036854775807 : Int64)) % d).toInt ∧ ((x &&& (9223372036854775807 : Int64)) % d).toInt < d.toInt := by
  have h := own_mask64 x 9223372036854775807 (by decide)
  rw [own_rem64 h.1 (by omega)]
  exact ⟨Int.emod_nonneg _ (by omega), Int.emod_lt_of_pos _ (by omega)⟩
theorem own_dnz (d : Int64) (hd : 1 ≤ d.toInt ∧ d.toInt ≤ 4611686018427387904) : d ≠ 0 := fun h => by
  have e0 : (0 : Int64).toInt = 0 := rfl
  rw [h, e0] at hd; omega
theorem own_k (w f : Int64) : rup w f - w = if 0 < f then 1 else 0 := by
  unfold rup
  by_cases h : 0 < f
  · rw [if_pos h, if_pos h, Int64.add_comm, Int64.add_sub_cancel]
  · rw [if_neg h, if_neg h, Int64.sub_self]
theorem own_facts (w f d : Int64) (hd : 1 ≤ d.toInt ∧ d.toInt ≤ 4611686018427387904) (hf : 0 ≤ f.toInt ∧ f.toInt < d.toInt) :
    ¬ (rup w f - w < 0) ∧ ¬ ((1 : Int64) < rup w f - w) ∧ ¬ ((rup w f - w) * d < f) ∧ (rup w f - w - 1) * d < f := by
  have e0 : (0 : Int64).toInt = 0 := rfl
  have e1 : (1 : Int64).toInt = 1 := rfl
  rw [own_k]
  by_cases h : 0 < f
  · rw [if_pos h]
    have h0 : (1 - 1 : Int64) = 0 := by decide
    rw [h0, Int64.one_mul, Int64.zero_mul]
    refine ⟨by decide, by decide, ?_, h⟩
    rw [Int64.lt_iff_toInt_lt]; omega
  · rw [if_neg h]
    have h0 : (0 - 1 : Int64) = -1 := by decide
    have hm : ((-1 : Int64) * d).toInt = - d.toInt := by
      have e : (-1 : Int64).toInt = -1 := rfl
      rw [own_mul64 (by rw [e]; omega) (by rw [e]; omega), e]; omega
    rw [h0, Int64.zero_mul]
    refine ⟨by decide, by decide, h, ?_⟩
    rw [Int64.lt_iff_toInt_lt, hm]; omega

theorem d2_0 : decode jdk_30_method_1_code 0 = .ok (.aload_n 0, 1) := by decide +kernel
theorem d2_1 : decode jdk_30_method_1_code 1 = .ok (.invokespecial 1, 3) := by decide +kernel
theorem d2_4 : decode jdk_30_method_1_code 4 = .ok (.return_, 1) := by decide +kernel
theorem pn_2 : plainName "java/lang/Record" = true := by first | (simp [plainName, overriddenIn]; done) | decide +kernel
theorem ef_rm2 (m : MethodId) (a1 : Addr) : entryFrame m #[(.ref a1)] 1 = mkF m 0 #[.val (.ref a1)] [] := by first | (simp [entryFrame, mkF, argsToLocals, Value.category]; done) | rfl
def Q2 (Z : State) (a1 : Addr) (h0 : Heap) (n0 : Nat) (v : Option Value) (h : Heap) (L : List Loc) : Prop := v = none ∧ Fr n0 L ∧ h = h0
set_option maxRecDepth 65536 in
set_option maxHeartbeats 40000000 in
theorem rm2 (l : Launch) (Z : State) (a0 : Array Value) (hw : ∀ d ∈ tables_1, d.before a0 Z = true) (ws : List Jvm.Cond) (a1 : Addr) (h0 : Heap) (n0 : Nat) (Z0 : n0 ≤ h0.size) :
    MetFree l (⟨"java/lang/Record", "<init>", "()V"⟩ : MethodName) (head1 (Jvm.Cond.code (⟨"java/lang/Record", "<init>", "()V"⟩ : MethodName) jdk_30_method_1_code 1 none :: ws) ({ frames := 1, cells := 0, slots := 0, locals := 12 } : Room)) (fun a U => a = #[(.ref a1)] ∧ Z.Warmed39 U.vm ∧ U.heap = h0) (fun _ _ _ _ _ => True) (fun _ U o U' => ∃ v L, o = .returned v ∧ Q2 Z a1 h0 n0 v U'.heap L ∧ FrameEnd U o U' L ({ frames := 1, cells := 0, slots := 0, locals := 12 } : Room).cells ({ frames := 1, cells := 0, slots := 0, locals := 12 } : Room).slots) := by
  refine MetFree.of_bodySF (plainFor_of_name pn_2) hisR ?_
  intro p e s m args below meth c s₁ Bd hml0 hP hK
  obtain ⟨rfl, hZ, hh⟩ := hP
  have hx := Bd.exec
  have hby := Bd.bytes
  have hml : c.maxLocals = 1 := hml0
  have hown : s.vm.findClass "java/lang/Record" = some m.cls := findClass_of_methodNamed Bd.named
  have hnm := (name_of_methodNamed Bd.named Bd.method).1
  have X0 : Stand p l e ({ frames := 1, cells := 0, slots := 0, locals := 12 } : Room) s m #[(.ref a1)] below meth c s₁ [] 0 0 := Stand.of_body Bd
  have e0 : s₁.heap = h0 := by rw [← hh, Bd.state]; rfl
  have N0 := Fr.nil n0
  obtain ⟨G, hG⟩ : ∃ G : State → Prop, G = OwnG p e below s ({ frames := 1, cells := 0, slots := 0, locals := 12 } : Room).cells ({ frames := 1, cells := 0, slots := 0, locals := 12 } : Room).slots (Q2 Z a1 h0 n0) := ⟨_, rfl⟩
  have go : ∀ {A B : State}, (∀ t, Steps p.tables e below A t → Steps p.tables e below B t) → G A → G B := fun h k => by rw [hG] at k ⊢; exact OwnG.go h k
  suffices k0 : G (s₁.setTop (mkF m 0 #[.val (.ref a1)] [])) by
    rw [hG] at k0; exact OwnG.go (fun t k => castTop (ef_rm2 m a1) k) k0
  refine go (fun _ k => XS.aloadN X0.here hx rfl (hb hby d2_0) rfl rfl k) ?_
  show G (s₁.setTop (mkF m 1 #[.val (.ref a1)] [(.ref a1)]))
  obtain ⟨T1, X1, e1, st1⟩ := initO X0 hx hZ hown (hw _ (List.mem_of_getElem? (i := 13) rfl)) (hw _ (List.mem_of_getElem? (i := 14) rfl)) (hw _ (List.mem_of_getElem? (i := 15) rfl)) e0 (g := (mkF m 1 #[.val (.ref a1)] [(.ref a1)])) rfl (by rw [hml]; rfl) rfl (hb hby d2_1) (by decide) (W := 0) (by show 2 * 0 + _ ≤ _; exact Nat.le_of_eq rfl) (by decide)
  refine go st1 ?_
  show G (T1.setTop (mkF m 4 #[.val (.ref a1)] []))
  rw [hG]
  refine own_fin X1 Bd.notSynchronized (v := none) (fun _ => rfl) (fun fs hr => X1.returnOut hx Bd.returns (hb hby d2_4) hr) ?_ (by decide) (by decide)
  show Q2 Z a1 h0 n0 (none) T1.heap _
  rw [e1]
  exact ⟨rfl, N0, rfl⟩

theorem d1_0 : decode prog_14_method_1_code 0 = .ok (.aload_n 0, 1) := by decide +kernel
theorem d1_1 : decode prog_14_method_1_code 1 = .ok (.invokespecial 1, 3) := by decide +kernel
theorem d1_4 : decode prog_14_method_1_code 4 = .ok (.aload_n 0, 1) := by decide +kernel
theorem d1_5 : decode prog_14_method_1_code 5 = .ok (.lload_n 1, 1) := by decide +kernel
theorem d1_6 : decode prog_14_method_1_code 6 = .ok (.putfield 7, 3) := by decide +kernel
theorem d1_9 : decode prog_14_method_1_code 9 = .ok (.aload_n 0, 1) := by decide +kernel
theorem d1_10 : decode prog_14_method_1_code 10 = .ok (.lload_n 3, 1) := by decide +kernel
theorem d1_11 : decode prog_14_method_1_code 11 = .ok (.putfield 13, 3) := by decide +kernel
theorem d1_14 : decode prog_14_method_1_code 14 = .ok (.return_, 1) := by decide +kernel
theorem pn_1 : plainName "com/example/clepsydra/clepsydra/PermitCost$Nanos" = true := by first | (simp [plainName, overriddenIn]; done) | decide +kernel
theorem pd_1_0 : parseMethodDescriptor "()V" = some ⟨[], none⟩ := by decide +kernel
theorem ef_rm1 (m : MethodId) (a1 : Addr) (q2 : Int64) (q3 : Int64) : entryFrame m #[(.ref a1), (.long q2), (.long q3)] 5 = mkF m 0 #[.val (.ref a1), .val (.long q2), .second, .val (.long q3), .second] [] := by first | (simp [entryFrame, mkF, argsToLocals, Value.category]; done) | rfl
def Q1 (Z : State) (a1 : Addr) (q2 : Int64) (q3 : Int64) (h0 : Heap) (n0 : Nat) (v : Option Value) (h : Heap) (L : List Loc) : Prop := v = none ∧ Fr n0 L ∧ Keep h0 h [a1] ∧ Fld Z h a1 "com/example/clepsydra/clepsydra/PermitCost$Nanos" "whole" "J" (.long q2) ∧ Fld Z h a1 "com/example/clepsydra/clepsydra/PermitCost$Nanos" "fraction" "J" (.long q3)
set_option maxRecDepth 65536 in
set_option maxHeartbeats 40000000 in
theorem rm1 (l : Launch) (Z : State) (a0 : Array Value) (hw : ∀ d ∈ tables_1, d.before a0 Z = true) (ws : List Jvm.Cond) (a1 : Addr) (q2 : Int64) (q3 : Int64) (h0 : Heap) (n0 : Nat) (Z0 : n0 ≤ h0.size) (F1 : Fld Z h0 a1 "com/example/clepsydra/clepsydra/PermitCost$Nanos" "whole" "J" (.long (0 : Int64))) (F2 : Fld Z h0 a1 "com/example/clepsydra/clepsydra/PermitCost$Nanos" "fraction" "J" (.long (0 : Int64))) (E : Exa Z h0 a1 "com/example/clepsydra/clepsydra/PermitCost$Nanos") (g_a1 : n0 ≤ a1) :
    MetFree l (⟨"com/example/clepsydra/clepsydra/PermitCost$Nanos", "<init>", "(JJ)V"⟩ : MethodName) (head1 (Jvm.Cond.code (⟨"com/example/clepsydra/clepsydra/PermitCost$Nanos", "<init>", "(JJ)V"⟩ : MethodName) prog_14_method_1_code 5 none :: ws) ({ frames := 2, cells := 0, slots := 0, locals := 24 } : Room)) (fun a U => a = #[(.ref a1), (.long q2), (.long q3)] ∧ Z.Warmed39 U.vm ∧ U.heap = h0) (fun _ _ _ _ _ => True) (fun _ U o U' => ∃ v L, o = .returned v ∧ Q1 Z a1 q2 q3 h0 n0 v U'.heap L ∧ FrameEnd U o U' L ({ frames := 2, cells := 0, slots := 0, locals := 24 } : Room).cells ({ frames := 2, cells := 0, slots := 0, locals := 24 } : Room).slots) := by
  refine MetFree.of_bodySF (plainFor_of_name pn_1) hisR ?_
  intro p e s m args below meth c s₁ Bd hml0 hP hK
  obtain ⟨rfl, hZ, hh⟩ := hP
  have hx := Bd.exec
  have hby := Bd.bytes
  have hml : c.maxLocals = 5 := hml0
  have hown : s.vm.findClass "com/example/clepsydra/clepsydra/PermitCost$Nanos" = some m.cls := findClass_of_methodNamed Bd.named
  have hnm := (name_of_methodNamed Bd.named Bd.method).1
  have X0 : Stand p l e ({ frames := 2, cells := 0, slots := 0, locals := 24 } : Room) s m #[(.ref a1), (.long q2), (.long q3)] below meth c s₁ [] 0 0 := Stand.of_body Bd
  have e0 : s₁.heap = h0 := by rw [← hh, Bd.state]; rfl
  have N0 := Fr.nil n0
  obtain ⟨G, hG⟩ : ∃ G : State → Prop, G = OwnG p e below s ({ frames := 2, cells := 0, slots := 0, locals := 24 } : Room).cells ({ frames := 2, cells := 0, slots := 0, locals := 24 } : Room).slots (Q1 Z a1 q2 q3 h0 n0) := ⟨_, rfl⟩
  have go : ∀ {A B : State}, (∀ t, Steps p.tables e below A t → Steps p.tables e below B t) → G A → G B := fun h k => by rw [hG] at k ⊢; exact OwnG.go h k
  suffices k0 : G (s₁.setTop (mkF m 0 #[.val (.ref a1), .val (.long q2), .second, .val (.long q3), .second] [])) by
    rw [hG] at k0; exact OwnG.go (fun t k => castTop (ef_rm1 m a1 q2 q3) k) k0
  have K0 : Keep h0 h0 [a1] := Keep.refl _ _
  refine go (fun _ k => XS.aloadN X0.here hx rfl (hb hby d1_0) rfl rfl k) ?_
  show G (s₁.setTop (mkF m 1 #[.val (.ref a1), .val (.long q2), .second, .val (.long q3), .second] [(.ref a1)]))
  obtain ⟨_, _, ⟨T1, L1, k1, n1⟩, -, X1, ⟨Lc1, hQ1, l1, y1, z1⟩, st1⟩ := X0.specialBack hx (y := (⟨"java/lang/Record", "<init>", "()V"⟩ : MethodName)) rfl hown (mvT hZ (hw _ (List.mem_of_getElem? (i := 8) rfl))) (mvT hZ (hw _ (List.mem_of_getElem? (i := 9) rfl))) (mvT hZ (hw _ (List.mem_of_getElem? (i := 12) rfl))) (by decide) (backOf (W := 0) (rm2 l Z a0 hw [] a1 h0 n0 Z0) hZ (hw _ (List.mem_of_getElem? (i := 12) rfl)) (hw _ (List.mem_of_getElem? (i := 11) rfl)) (by decide) (by decide)) (g := (mkF m 1 #[.val (.ref a1), .val (.long q2), .second, .val (.long q3), .second] [(.ref a1)])) rfl (by rw [hml]; rfl) (Steps.refl _) (a := a1) (argsL := []) (rest := []) (lenOf pd_1_0 rfl) rfl (by show 2 * 0 + _ ≤ _; exact Nat.le_of_eq rfl) (hb hby d1_1) (fun _ _ => ⟨rfl, e0, (by decide : 0 + 0 ≤ _), (by decide : 0 + 0 ≤ _)⟩)
  dsimp only [Pt.U, Pt.locs, Pt.cells, Pt.slots] at X1 l1 y1 z1 st1 hQ1
  subst l1 y1 z1
  obtain ⟨rfl, N1q, e1⟩ := hQ1
  have N1 := Fr.app N0 N1q
  refine go (fun _ k => st1.trans k) ?_
  show G (T1.setTop (mkF m 4 #[.val (.ref a1), .val (.long q2), .second, .val (.long q3), .second] []))
  refine go (fun _ k => XS.aloadN X1.here hx rfl (hb hby d1_4) rfl rfl k) ?_
  show G (T1.setTop (mkF m 5 #[.val (.ref a1), .val (.long q2), .second, .val (.long q3), .second] [(.ref a1)]))
  refine go (fun _ k => XS.lloadN X1.here hx rfl (hb hby d1_5) rfl k) ?_
  show G (T1.setTop (mkF m 6 #[.val (.ref a1), .val (.long q2), .second, .val (.long q3), .second] [(.long q2), (.ref a1)]))
  obtain ⟨T2, h2, X2, e2, W2, st2⟩ := putF X1 hx hZ hown (host := "") (Or.inl (hw _ (List.mem_of_getElem? (i := 16) rfl))) Via.refl e1 F1 E (Or.inr ⟨(hw _ (List.mem_of_getElem? (i := 17) rfl)), rfl, hnm⟩) (hw _ (List.mem_of_getElem? (i := 3) rfl)) (ty := .long) (by decide) rfl rfl (g := (mkF m 6 #[.val (.ref a1), .val (.long q2), .second, .val (.long q3), .second] [(.long q2), (.ref a1)])) rfl rfl (hb hby d1_6)
  have f3 := E.wr W2
  have f4 := F2.other W2 (Or.inr (slot_ne (Or.inr (hw _ (List.mem_of_getElem? (i := 19) rfl))) (Or.inr (hw _ (List.mem_of_getElem? (i := 17) rfl))) (by decide) (t := .long) (t' := .long) (by decide) (by decide)))
  have K2 : Keep h0 h2 [a1] := K0.wr W2 (Or.inl (List.mem_of_getElem? (i := 0) rfl))
  have Zs2 : n0 ≤ h2.size := Nat.le_trans Z0 (Keep.of_wr W2).1
  have N2 := Fr.snoc X2 N1 g_a1
  have Fw2 := F1.same W2
  refine go st2 ?_
  show G (T2.setTop (mkF m 9 #[.val (.ref a1), .val (.long q2), .second, .val (.long q3), .second] []))
  refine go (fun _ k => XS.aloadN X2.here hx rfl (hb hby d1_9) rfl rfl k) ?_
  show G (T2.setTop (mkF m 10 #[.val (.ref a1), .val (.long q2), .second, .val (.long q3), .second] [(.ref a1)]))
  refine go (fun _ k => XS.lloadN X2.here hx rfl (hb hby d1_10) rfl k) ?_
  show G (T2.setTop (mkF m 11 #[.val (.ref a1), .val (.long q2), .second, .val (.long q3), .second] [(.long q3), (.ref a1)]))
  obtain ⟨T5, h5, X5, e5, W5, st5⟩ := putF X2 hx hZ hown (host := "") (Or.inl (hw _ (List.mem_of_getElem? (i := 18) rfl))) Via.refl e2 f4 f3 (Or.inr ⟨(hw _ (List.mem_of_getElem? (i := 19) rfl)), rfl, hnm⟩) (hw _ (List.mem_of_getElem? (i := 3) rfl)) (ty := .long) (by decide) rfl rfl (g := (mkF m 11 #[.val (.ref a1), .val (.long q2), .second, .val (.long q3), .second] [(.long q3), (.ref a1)])) rfl rfl (hb hby d1_11)
  have f6 := f3.wr W5
  have f7 := Fw2.other W5 (Or.inr (slot_ne (Or.inr (hw _ (List.mem_of_getElem? (i := 17) rfl))) (Or.inr (hw _ (List.mem_of_getElem? (i := 19) rfl))) (by decide) (t := .long) (t' := .long) (by decide) (by decide)))
  have K5 : Keep h0 h5 [a1] := K2.wr W5 (Or.inl (List.mem_of_getElem? (i := 0) rfl))
  have Zs5 : n0 ≤ h5.size := Nat.le_trans Zs2 (Keep.of_wr W5).1
  have N5 := Fr.snoc X5 N2 g_a1
  have Fw5 := f4.same W5
  refine go st5 ?_
  show G (T5.setTop (mkF m 14 #[.val (.ref a1), .val (.long q2), .second, .val (.long q3), .second] []))
  rw [hG]
  refine own_fin X5 Bd.notSynchronized (v := none) (fun _ => rfl) (fun fs hr => X5.returnOut hx Bd.returns (hb hby d1_14) hr) ?_ (by decide) (by decide)
  show Q1 Z a1 q2 q3 h0 n0 (none) T5.heap _
  rw [e5]
  exact ⟨rfl, N5, K5, f7, Fw5⟩

theorem d4_0 : decode prog_14_method_2_code 0 = .ok (.aload_n 0, 1) := by decide +kernel
theorem d4_1 : decode prog_14_method_2_code 1 = .ok (.getfield 13, 3) := by decide +kernel
theorem d4_4 : decode prog_14_method_2_code 4 = .ok (.lconst 0, 1) := by decide +kernel
theorem d4_5 : decode prog_14_method_2_code 5 = .ok (.lcmp, 1) := by decide +kernel
theorem d4_6 : decode prog_14_method_2_code 6 = .ok (.ifCond .le 12, 3) := by decide +kernel
theorem d4_9 : decode prog_14_method_2_code 9 = .ok (.aload_n 0, 1) := by decide +kernel
theorem d4_10 : decode prog_14_method_2_code 10 = .ok (.getfield 7, 3) := by decide +kernel
theorem d4_13 : decode prog_14_method_2_code 13 = .ok (.lconst 1, 1) := by decide +kernel
theorem d4_14 : decode prog_14_method_2_code 14 = .ok (.ladd, 1) := by decide +kernel
theorem d4_15 : decode prog_14_method_2_code 15 = .ok (.goto 7, 3) := by decide +kernel
theorem d4_18 : decode prog_14_method_2_code 18 = .ok (.aload_n 0, 1) := by decide +kernel
theorem d4_19 : decode prog_14_method_2_code 19 = .ok (.getfield 7, 3) := by decide +kernel
theorem d4_22 : decode prog_14_method_2_code 22 = .ok (.lreturn, 1) := by decide +kernel
theorem pn_4 : plainName "com/example/clepsydra/clepsydra/PermitCost$Nanos" = true := by first | (simp [plainName, overriddenIn]; done) | decide +kernel
theorem ef_rm4 (m : MethodId) (a1 : Addr) : entryFrame m #[(.ref a1)] 1 = mkF m 0 #[.val (.ref a1)] [] := by first | (simp [entryFrame, mkF, argsToLocals, Value.category]; done) | rfl
def Q4 (Z : State) (a1 : Addr) (x : Int64) (f : Int64) (h0 : Heap) (n0 : Nat) (v : Option Value) (h : Heap) (L : List Loc) : Prop := v = some (.long (rup x f)) ∧ Fr n0 L ∧ h = h0
set_option maxRecDepth 65536 in
set_option maxHeartbeats 40000000 in
theorem rm4 (l : Launch) (Z : State) (a0 : Array Value) (hw : ∀ d ∈ tables_1, d.before a0 Z = true) (ws : List Jvm.Cond) (a1 : Addr) (x : Int64) (f : Int64) (h0 : Heap) (n0 : Nat) (Z0 : n0 ≤ h0.size) (F1 : Fld Z h0 a1 "com/example/clepsydra/clepsydra/PermitCost$Nanos" "whole" "J" (.long x)) (F2 : Fld Z h0 a1 "com/example/clepsydra/clepsydra/PermitCost$Nanos" "fraction" "J" (.long f)) :
    MetFree l (⟨"com/example/clepsydra/clepsydra/PermitCost$Nanos", "roundedUp", "()J"⟩ : MethodName) (head1 (Jvm.Cond.code (⟨"com/example/clepsydra/clepsydra/PermitCost$Nanos", "roundedUp", "()J"⟩ : MethodName) prog_14_method_2_code 1 (some .long) :: ws) ({ frames := 0, cells := 0, slots := 0, locals := 0 } : Room)) (fun a U => a = #[(.ref a1)] ∧ Z.Warmed39 U.vm ∧ U.heap = h0) (fun _ _ _ _ _ => True) (fun _ U o U' => ∃ v L, o = .returned v ∧ Q4 Z a1 x f h0 n0 v U'.heap L ∧ FrameEnd U o U' L ({ frames := 0, cells := 0, slots := 0, locals := 0 } : Room).cells ({ frames := 0, cells := 0, slots := 0, locals := 0 } : Room).slots) := by
  refine MetFree.of_bodySF (plainFor_of_name pn_4) hisR ?_
  intro p e s m args below meth c s₁ Bd hml0 hP hK
  obtain ⟨rfl, hZ, hh⟩ := hP
  have hx := Bd.exec
  have hby := Bd.bytes
  have hml : c.maxLocals = 1 := hml0
  have hown : s.vm.findClass "com/example/clepsydra/clepsydra/PermitCost$Nanos" = some m.cls := findClass_of_methodNamed Bd.named
  have hnm := (name_of_methodNamed Bd.named Bd.method).1
  have X0 : Stand p l e ({ frames := 0, cells := 0, slots := 0, locals := 0 } : Room) s m #[(.ref a1)] below meth c s₁ [] 0 0 := Stand.of_body Bd
  have e0 : s₁.heap = h0 := by rw [← hh, Bd.state]; rfl
  have N0 := Fr.nil n0
  obtain ⟨G, hG⟩ : ∃ G : State → Prop, G = OwnG p e below s ({ frames := 0, cells := 0, slots := 0, locals := 0 } : Room).cells ({ frames := 0, cells := 0, slots := 0, locals := 0 } : Room).slots (Q4 Z a1 x f h0 n0) := ⟨_, rfl⟩
  have go : ∀ {A B : State}, (∀ t, Steps p.tables e below A t → Steps p.tables e below B t) → G A → G B := fun h k => by rw [hG] at k ⊢; exact OwnG.go h k
  suffices k0 : G (s₁.setTop (mkF m 0 #[.val (.ref a1)] [])) by
    rw [hG] at k0; exact OwnG.go (fun t k => castTop (ef_rm4 m a1) k) k0
  refine go (fun _ k => XS.aloadN X0.here hx rfl (hb hby d4_0) rfl rfl k) ?_
  show G (s₁.setTop (mkF m 1 #[.val (.ref a1)] [(.ref a1)]))
  obtain ⟨T1, X1, e1, st1⟩ := getF X0 hx hZ hown (host := "") (Or.inl (hw _ (List.mem_of_getElem? (i := 18) rfl))) Via.refl e0 F2 (g := (mkF m 1 #[.val (.ref a1)] [(.ref a1)])) rfl rfl (hb hby d4_1)
  refine go st1 ?_
  show G (T1.setTop (mkF m 4 #[.val (.ref a1)] [(.long f)]))
  refine go (fun _ k => XS.lconst X1.here hx rfl (hb hby d4_4) k) ?_
  show G (T1.setTop (mkF m 5 #[.val (.ref a1)] [(.long (0 : Int64)), (.long f)]))
  refine go (fun _ k => XS.lcmp X1.here hx rfl (hb hby d4_5) rfl k) ?_
  show G (T1.setTop (mkF m 6 #[.val (.ref a1)] [(.int (lcmpW f (0 : Int64)))]))
  by_cases hc6_2 : (0 : Int64) < f
  · refine go (fun _ k => XS.ifNo X1.here hx rfl (hb hby d4_6) rfl ((if0 _ _).trans (tlt (own_lcgt.mpr hc6_2)).2.2.2) k) ?_
    show G (T1.setTop (mkF m 9 #[.val (.ref a1)] []))
    refine go (fun _ k => XS.aloadN X1.here hx rfl (hb hby d4_9) rfl rfl k) ?_
    show G (T1.setTop (mkF m 10 #[.val (.ref a1)] [(.ref a1)]))
    obtain ⟨T3, X3, e3, st3⟩ := getF X1 hx hZ hown (host := "") (Or.inl (hw _ (List.mem_of_getElem? (i := 16) rfl))) Via.refl e1 F1 (g := (mkF m 10 #[.val (.ref a1)] [(.ref a1)])) rfl rfl (hb hby d4_10)
    refine go st3 ?_
    show G (T3.setTop (mkF m 13 #[.val (.ref a1)] [(.long x)]))
    refine go (fun _ k => XS.lconst X3.here hx rfl (hb hby d4_13) k) ?_
    show G (T3.setTop (mkF m 14 #[.val (.ref a1)] [(.long (1 : Int64)), (.long x)]))
    refine go (fun _ k => XS.ladd X3.here hx rfl (hb hby d4_14) rfl k) ?_
    show G (T3.setTop (mkF m 15 #[.val (.ref a1)] [(.long (x + (1 : Int64)))]))
    refine go (fun _ k => XS.goto X3.here hx rfl (pc0 := 15) (pc' := 22) rfl (hb hby d4_15) (by decide) (by decide) k) ?_
    show G (T3.setTop (mkF m 22 #[.val (.ref a1)] [(.long (x + (1 : Int64)))]))
    rw [hG]
    refine own_fin X3 Bd.notSynchronized (v := some (.long (x + (1 : Int64)))) (fun h => by rw [Bd.returns] at h; cases h) (fun fs hr => retOut X3 hx Bd.returns rfl (by simp [FieldType.isReference, Value.isRef]) (hb hby d4_22) hr) ?_ (by decide) (by decide)
    show Q4 Z a1 x f h0 n0 (some (.long (x + (1 : Int64)))) T3.heap _
    rw [e3]
    exact ⟨by rw [rup, if_pos hc6_2], N0, rfl⟩
  · refine go (fun _ k => XS.ifYes X1.here hx rfl (pc0 := 6) (pc' := 18) rfl (hb hby d4_6) rfl ((if0 _ _).trans (flt (fun z => hc6_2 (own_lcgt.mp z))).2.2.2) (by decide) (by decide) k) ?_
    show G (T1.setTop (mkF m 18 #[.val (.ref a1)] []))
    refine go (fun _ k => XS.aloadN X1.here hx rfl (hb hby d4_18) rfl rfl k) ?_
    show G (T1.setTop (mkF m 19 #[.val (.ref a1)] [(.ref a1)]))
    obtain ⟨T4, X4, e4, st4⟩ := getF X1 hx hZ hown (host := "") (Or.inl (hw _ (List.mem_of_getElem? (i := 16) rfl))) Via.refl e1 F1 (g := (mkF m 19 #[.val (.ref a1)] [(.ref a1)])) rfl rfl (hb hby d4_19)
    refine go st4 ?_
    show G (T4.setTop (mkF m 22 #[.val (.ref a1)] [(.long x)]))
    rw [hG]
    refine own_fin X4 Bd.notSynchronized (v := some (.long x)) (fun h => by rw [Bd.returns] at h; cases h) (fun fs hr => retOut X4 hx Bd.returns rfl (by simp [FieldType.isReference, Value.isRef]) (hb hby d4_22) hr) ?_ (by decide) (by decide)
    show Q4 Z a1 x f h0 n0 (some (.long x)) T4.heap _
    rw [e4]
    exact ⟨by rw [rup, if_neg hc6_2], N0, rfl⟩

theorem pn_0 : plainName "com/example/clepsydra/clepsydra/NanosRoundedUpPinLaw" = true := by first | (simp [plainName, overriddenIn]; done) | decide +kernel
theorem pd_0_0 : parseMethodDescriptor "(JJ)V" = some ⟨[.long, .long], none⟩ := by decide +kernel
theorem pd_0_1 : parseMethodDescriptor "()J" = some ⟨[], some .long⟩ := by decide +kernel
theorem ef_rm0 (m : MethodId) (q1 : Int64) (q2 : Int64) (q3 : Int64) (p4 : Int32) : entryFrame m #[(.long q1), (.long q2), (.long q3), (.int p4)] maxLocals = mkF m 0 #[.val (.long q1), .second, .val (.long q2), .second, .val (.long q3), .second, .val (.int p4), .unset, .unset, .unset, .unset, .unset, .unset, .unset, .unset, .unset] [] := by first | (simp [entryFrame, mkF, argsToLocals, Value.category, maxLocals]; done) | rfl
def Q0 (Z : State) (q1 : Int64) (q2 : Int64) (q3 : Int64) (p4 : Int32) (h0 : Heap) (n0 : Nat) (v : Option Value) (h : Heap) (L : List Loc) : Prop := v = some (.int (1 : Int32)) ∧ Fr n0 L
set_option maxRecDepth 65536 in
set_option maxHeartbeats 40000000 in
theorem rm0 (l : Launch) (Z : State) (a0 : Array Value) (hw : ∀ d ∈ tables_1, d.before a0 Z = true) (ws : List Jvm.Cond) (q1 : Int64) (q2 : Int64) (q3 : Int64) (p4 : Int32) (h0 : Heap) (n0 : Nat) (Z0 : n0 ≤ h0.size) :
    MetFree l x (head1 (Jvm.Cond.code x code maxLocals ret :: ws) room_1) (fun a U => a = #[(.long q1), (.long q2), (.long q3), (.int p4)] ∧ Z.Warmed39 U.vm ∧ U.heap = h0) (fun _ _ _ _ _ => True) (fun _ U o U' => ∃ v L, o = .returned v ∧ Q0 Z q1 q2 q3 p4 h0 n0 v U'.heap L ∧ FrameEnd U o U' L room_1.cells room_1.slots) := by
  refine MetFree.of_bodySF (plainFor_of_name pn_0) hisR ?_
  intro p e s m args below meth c s₁ Bd hml0 hP hK
  obtain ⟨rfl, hZ, hh⟩ := hP
  have hx := Bd.exec
  have hby := Bd.bytes
  have hml : c.maxLocals = 16 := hml0
  have hown : s.vm.findClass "com/example/clepsydra/clepsydra/NanosRoundedUpPinLaw" = some m.cls := findClass_of_methodNamed Bd.named
  have hnm := (name_of_methodNamed Bd.named Bd.method).1
  have X0 : Stand p l e room_1 s m #[(.long q1), (.long q2), (.long q3), (.int p4)] below meth c s₁ [] 0 0 := Stand.of_body Bd
  have e0 : s₁.heap = h0 := by rw [← hh, Bd.state]; rfl
  have N0 := Fr.nil n0
  obtain ⟨G, hG⟩ : ∃ G : State → Prop, G = OwnG p e below s room_1.cells room_1.slots (Q0 Z q1 q2 q3 p4 h0 n0) := ⟨_, rfl⟩
  have go : ∀ {A B : State}, (∀ t, Steps p.tables e below A t → Steps p.tables e below B t) → G A → G B := fun h k => by rw [hG] at k ⊢; exact OwnG.go h k
  suffices k0 : G (s₁.setTop (mkF m 0 #[.val (.long q1), .second, .val (.long q2), .second, .val (.long q3), .second, .val (.int p4), .unset, .unset, .unset, .unset, .unset, .unset, .unset, .unset, .unset] [])) by
    rw [hG] at k0; exact OwnG.go (fun t k => castTop (ef_rm0 m q1 q2 q3 p4) k) k0
  refine go (fun _ k => XS.lload X0.here hx rfl (hb hby at_0) rfl k) ?_
  show G (s₁.setTop (mkF m 2 #[.val (.long q1), .second, .val (.long q2), .second, .val (.long q3), .second, .val (.int p4), .unset, .unset, .unset, .unset, .unset, .unset, .unset, .unset, .unset] [(.long q3)]))
  refine go (X0.ldc2Long hx hown (mvT hZ (hw _ (List.mem_of_getElem? (i := 0) rfl))) (g := (mkF m 2 #[.val (.long q1), .second, .val (.long q2), .second, .val (.long q3), .second, .val (.int p4), .unset, .unset, .unset, .unset, .unset, .unset, .unset, .unset, .unset] [(.long q3)])) rfl (hb hby at_2)) ?_
  show G (s₁.setTop (mkF m 5 #[.val (.long q1), .second, .val (.long q2), .second, .val (.long q3), .second, .val (.int p4), .unset, .unset, .unset, .unset, .unset, .unset, .unset, .unset, .unset] [(.long (4611686018427387903 : Int64)), (.long q3)]))
  refine go (fun _ k => XS.land X0.here hx rfl (hb hby at_5) rfl k) ?_
  show G (s₁.setTop (mkF m 6 #[.val (.long q1), .second, .val (.long q2), .second, .val (.long q3), .second, .val (.int p4), .unset, .unset, .unset, .unset, .unset, .unset, .unset, .unset, .unset] [(.long (q3 &&& (4611686018427387903 : Int64)))]))
  refine go (fun _ k => XS.lconst X0.here hx rfl (hb hby at_6) k) ?_
  show G (s₁.setTop (mkF m 7 #[.val (.long q1), .second, .val (.long q2), .second, .val (.long q3), .second, .val (.int p4), .unset, .unset, .unset, .unset, .unset, .unset, .unset, .unset, .unset] [(.long (1 : Int64)), (.long (q3 &&& (4611686018427387903 : Int64)))]))
  refine go (fun _ k => XS.ladd X0.here hx rfl (hb hby at_7) rfl k) ?_
  show G (s₁.setTop (mkF m 8 #[.val (.long q1), .second, .val (.long q2), .second, .val (.long q3), .second, .val (.int p4), .unset, .unset, .unset, .unset, .unset, .unset, .unset, .unset, .unset] [(.long ((q3 &&& (4611686018427387903 : Int64)) + (1 : Int64)))]))
  refine go (fun _ k => XS.lstore X0.here hx rfl (hb hby at_8) rfl (l' := #[.val (.long q1), .second, .val (.long q2), .second, .val (.long q3), .second, .val (.int p4), .val (.long ((q3 &&& (4611686018427387903 : Int64)) + (1 : Int64))), .second, .unset, .unset, .unset, .unset, .unset, .unset, .unset]) rfl k) ?_
  show G (s₁.setTop (mkF m 10 #[.val (.long q1), .second, .val (.long q2), .second, .val (.long q3), .second, .val (.int p4), .val (.long ((q3 &&& (4611686018427387903 : Int64)) + (1 : Int64))), .second, .unset, .unset, .unset, .unset, .unset, .unset, .unset] []))
  have hd := own_d q3
  generalize ((q3 &&& (4611686018427387903 : Int64)) + (1 : Int64)) = d at hd
  show G (s₁.setTop (mkF m 10 #[.val (.long q1), .second, .val (.long q2), .second, .val (.long q3), .second, .val (.int p4), .val (.long d), .second, .unset, .unset, .unset, .unset, .unset, .unset, .unset] []))
  refine go (fun _ k => XS.lloadN X0.here hx rfl (hb hby at_10) rfl k) ?_
  show G (s₁.setTop (mkF m 11 #[.val (.long q1), .second, .val (.long q2), .second, .val (.long q3), .second, .val (.int p4), .val (.long d), .second, .unset, .unset, .unset, .unset, .unset, .unset, .unset] [(.long q2)]))
  refine go (X0.ldc2Long hx hown (mvT hZ (hw _ (List.mem_of_getElem? (i := 1) rfl))) (g := (mkF m 11 #[.val (.long q1), .second, .val (.long q2), .second, .val (.long q3), .second, .val (.int p4), .val (.long d), .second, .unset, .unset, .unset, .unset, .unset, .unset, .unset] [(.long q2)])) rfl (hb hby at_11)) ?_
  show G (s₁.setTop (mkF m 14 #[.val (.long q1), .second, .val (.long q2), .second, .val (.long q3), .second, .val (.int p4), .val (.long d), .second, .unset, .unset, .unset, .unset, .unset, .unset, .unset] [(.long (9223372036854775807 : Int64)), (.long q2)]))
  refine go (fun _ k => XS.land X0.here hx rfl (hb hby at_14) rfl k) ?_
  show G (s₁.setTop (mkF m 15 #[.val (.long q1), .second, .val (.long q2), .second, .val (.long q3), .second, .val (.int p4), .val (.long d), .second, .unset, .unset, .unset, .unset, .unset, .unset, .unset] [(.long (q2 &&& (9223372036854775807 : Int64)))]))
  refine go (fun _ k => XS.lload X0.here hx rfl (hb hby at_15) rfl k) ?_
  show G (s₁.setTop (mkF m 17 #[.val (.long q1), .second, .val (.long q2), .second, .val (.long q3), .second, .val (.int p4), .val (.long d), .second, .unset, .unset, .unset, .unset, .unset, .unset, .unset] [(.long d), (.long (q2 &&& (9223372036854775807 : Int64)))]))
  refine go (fun _ k => own_lrem X0 hx rfl (hb hby at_17) rfl (own_dnz d hd) k) ?_
  show G (s₁.setTop (mkF m 18 #[.val (.long q1), .second, .val (.long q2), .second, .val (.long q3), .second, .val (.int p4), .val (.long d), .second, .unset, .unset, .unset, .unset, .unset, .unset, .unset] [(.long ((q2 &&& (9223372036854775807 : Int64)) % d))]))
  refine go (fun _ k => XS.lstore X0.here hx rfl (hb hby at_18) rfl (l' := #[.val (.long q1), .second, .val (.long q2), .second, .val (.long q3), .second, .val (.int p4), .val (.long d), .second, .val (.long ((q2 &&& (9223372036854775807 : Int64)) % d)), .second, .unset, .unset, .unset, .unset, .unset]) rfl k) ?_
  show G (s₁.setTop (mkF m 20 #[.val (.long q1), .second, .val (.long q2), .second, .val (.long q3), .second, .val (.int p4), .val (.long d), .second, .val (.long ((q2 &&& (9223372036854775807 : Int64)) % d)), .second, .unset, .unset, .unset, .unset, .unset] []))
  have hf := own_f q2 d hd
  generalize ((q2 &&& (9223372036854775807 : Int64)) % d) = f at hf
  have J30 : ∀ z : Int64, 0 ≤ z.toInt ∧ z.toInt < d.toInt → G (s₁.setTop (mkF m 30 #[.val (.long q1), .second, .val (.long q2), .second, .val (.long q3), .second, .val (.int p4), .val (.long d), .second, .val (.long z), .second, .unset, .unset, .unset, .unset, .unset] [])) := by
    intro z hz
    refine go (fun _ k => XS.lloadN X0.here hx rfl (hb hby at_30) rfl k) ?_
    show G (s₁.setTop (mkF m 31 #[.val (.long q1), .second, .val (.long q2), .second, .val (.long q3), .second, .val (.int p4), .val (.long d), .second, .val (.long z), .second, .unset, .unset, .unset, .unset, .unset] [(.long q1)]))
    refine go (X0.ldc2Long hx hown (mvT hZ (hw _ (List.mem_of_getElem? (i := 1) rfl))) (g := (mkF m 31 #[.val (.long q1), .second, .val (.long q2), .second, .val (.long q3), .second, .val (.int p4), .val (.long d), .second, .val (.long z), .second, .unset, .unset, .unset, .unset, .unset] [(.long q1)])) rfl (hb hby at_31)) ?_
    show G (s₁.setTop (mkF m 34 #[.val (.long q1), .second, .val (.long q2), .second, .val (.long q3), .second, .val (.int p4), .val (.long d), .second, .val (.long z), .second, .unset, .unset, .unset, .unset, .unset] [(.long (9223372036854775807 : Int64)), (.long q1)]))
    refine go (fun _ k => XS.lcmp X0.here hx rfl (hb hby at_34) rfl k) ?_
    show G (s₁.setTop (mkF m 35 #[.val (.long q1), .second, .val (.long q2), .second, .val (.long q3), .second, .val (.int p4), .val (.long d), .second, .val (.long z), .second, .unset, .unset, .unset, .unset, .unset] [(.int (lcmpW q1 (9223372036854775807 : Int64)))]))
    by_cases hc35_1 : q1 = (9223372036854775807 : Int64)
    · refine go (fun _ k => XS.ifNo X0.here hx rfl (hb hby at_35) rfl ((if0 _ _).trans (teq (own_lceq.mpr hc35_1)).2) k) ?_
      show G (s₁.setTop (mkF m 38 #[.val (.long q1), .second, .val (.long q2), .second, .val (.long q3), .second, .val (.int p4), .val (.long d), .second, .val (.long z), .second, .unset, .unset, .unset, .unset, .unset] []))
      refine go (fun _ k => XS.lload X0.here hx rfl (hb hby at_38) rfl k) ?_
      show G (s₁.setTop (mkF m 40 #[.val (.long q1), .second, .val (.long q2), .second, .val (.long q3), .second, .val (.int p4), .val (.long d), .second, .val (.long z), .second, .unset, .unset, .unset, .unset, .unset] [(.long z)]))
      refine go (fun _ k => XS.lconst X0.here hx rfl (hb hby at_40) k) ?_
      show G (s₁.setTop (mkF m 41 #[.val (.long q1), .second, .val (.long q2), .second, .val (.long q3), .second, .val (.int p4), .val (.long d), .second, .val (.long z), .second, .unset, .unset, .unset, .unset, .unset] [(.long (0 : Int64)), (.long z)]))
      refine go (fun _ k => XS.lcmp X0.here hx rfl (hb hby at_41) rfl k) ?_
      show G (s₁.setTop (mkF m 42 #[.val (.long q1), .second, .val (.long q2), .second, .val (.long q3), .second, .val (.int p4), .val (.long d), .second, .val (.long z), .second, .unset, .unset, .unset, .unset, .unset] [(.int (lcmpW z (0 : Int64)))]))
      by_cases hc42_2 : (0 : Int64) < z
      · refine go (fun _ k => XS.ifNo X0.here hx rfl (hb hby at_42) rfl ((if0 _ _).trans (tlt (own_lcgt.mpr hc42_2)).2.2.2) k) ?_
        show G (s₁.setTop (mkF m 45 #[.val (.long q1), .second, .val (.long q2), .second, .val (.long q3), .second, .val (.int p4), .val (.long d), .second, .val (.long z), .second, .unset, .unset, .unset, .unset, .unset] []))
        refine go (fun _ k => XS.iconst X0.here hx rfl (hb hby at_45) k) ?_
        show G (s₁.setTop (mkF m 46 #[.val (.long q1), .second, .val (.long q2), .second, .val (.long q3), .second, .val (.int p4), .val (.long d), .second, .val (.long z), .second, .unset, .unset, .unset, .unset, .unset] [(.int (1 : Int32))]))
        rw [hG]
        refine own_fin X0 Bd.notSynchronized (v := some (.int (1 : Int32))) (fun h => by rw [Bd.returns] at h; cases h) (fun fs hr => retOut X0 hx Bd.returns rfl (by simp [FieldType.isReference, Value.isRef]) (hb hby at_46) hr) ?_ (by decide) (by decide)
        show Q0 Z q1 q2 q3 p4 h0 n0 (some (.int (1 : Int32))) s₁.heap _
        rw [e0]
        exact ⟨rfl, N0⟩
      · refine go (fun _ k => XS.ifYes X0.here hx rfl (pc0 := 42) (pc' := 47) rfl (hb hby at_42) rfl ((if0 _ _).trans (flt (fun z => hc42_2 (own_lcgt.mp z))).2.2.2) (by decide) (by decide) k) ?_
        show G (s₁.setTop (mkF m 47 #[.val (.long q1), .second, .val (.long q2), .second, .val (.long q3), .second, .val (.int p4), .val (.long d), .second, .val (.long z), .second, .unset, .unset, .unset, .unset, .unset] []))
        obtain ⟨T3, h3, X3, e3, E3, A3, D3, -, st3⟩ := newO X0 hx hZ hown (hw _ (List.mem_of_getElem? (i := 2) rfl)) (hw _ (List.mem_of_getElem? (i := 3) rfl)) (hw _ (List.mem_of_getElem? (i := 4) rfl)) e0 (g := (mkF m 47 #[.val (.long q1), .second, .val (.long q2), .second, .val (.long q3), .second, .val (.int p4), .val (.long d), .second, .val (.long z), .second, .unset, .unset, .unset, .unset, .unset] [])) rfl (hb hby at_47) (by decide) (by decide)
        obtain ⟨b3, ga3⟩ : ∃ z, z = h0.size := ⟨_, rfl⟩
        have g_b3 : n0 ≤ b3 := Nat.le_trans Z0 (Nat.le_of_eq ga3.symm)
        rw [← ga3] at A3 D3 st3
        have Zs3 : n0 ≤ h3.size := Nat.le_trans Z0 E3.1
        have F3_whole : Fld Z h3 b3 "com/example/clepsydra/clepsydra/PermitCost$Nanos" "whole" "J" (.long (0 : Int64)) := D3 (Or.inr (hw _ (List.mem_of_getElem? (i := 17) rfl))) (ty := .long) (by decide)
        have F3_fraction : Fld Z h3 b3 "com/example/clepsydra/clepsydra/PermitCost$Nanos" "fraction" "J" (.long (0 : Int64)) := D3 (Or.inr (hw _ (List.mem_of_getElem? (i := 19) rfl))) (ty := .long) (by decide)
        refine go st3 ?_
        show G (T3.setTop (mkF m 50 #[.val (.long q1), .second, .val (.long q2), .second, .val (.long q3), .second, .val (.int p4), .val (.long d), .second, .val (.long z), .second, .unset, .unset, .unset, .unset, .unset] [(.ref b3)]))
        refine go (fun _ k => XS.dup X3.here hx rfl (hb hby at_50) rfl rfl k) ?_
        show G (T3.setTop (mkF m 51 #[.val (.long q1), .second, .val (.long q2), .second, .val (.long q3), .second, .val (.int p4), .val (.long d), .second, .val (.long z), .second, .unset, .unset, .unset, .unset, .unset] [(.ref b3), (.ref b3)]))
        refine go (fun _ k => XS.lloadN X3.here hx rfl (hb hby at_51) rfl k) ?_
        show G (T3.setTop (mkF m 52 #[.val (.long q1), .second, .val (.long q2), .second, .val (.long q3), .second, .val (.int p4), .val (.long d), .second, .val (.long z), .second, .unset, .unset, .unset, .unset, .unset] [(.long q1), (.ref b3), (.ref b3)]))
        refine go (fun _ k => XS.lload X3.here hx rfl (hb hby at_52) rfl k) ?_
        show G (T3.setTop (mkF m 54 #[.val (.long q1), .second, .val (.long q2), .second, .val (.long q3), .second, .val (.int p4), .val (.long d), .second, .val (.long z), .second, .unset, .unset, .unset, .unset, .unset] [(.long z), (.long q1), (.ref b3), (.ref b3)]))
        obtain ⟨_, _, ⟨T4, L4, k4, n4⟩, -, X4, ⟨Lc4, hQ4, l4, y4, z4⟩, st4⟩ := X3.specialBack hx (y := (⟨"com/example/clepsydra/clepsydra/PermitCost$Nanos", "<init>", "(JJ)V"⟩ : MethodName)) rfl hown (mvT hZ (hw _ (List.mem_of_getElem? (i := 5) rfl))) (mvT hZ (hw _ (List.mem_of_getElem? (i := 6) rfl))) (mvT hZ (hw _ (List.mem_of_getElem? (i := 7) rfl))) (by decide) (backOf (W := 1) (rm1 l Z a0 hw [] b3 q1 z h3 n0 Zs3 F3_whole F3_fraction A3 g_b3) hZ (hw _ (List.mem_of_getElem? (i := 7) rfl)) (hw _ (List.mem_of_getElem? (i := 4) rfl)) (by decide) (by decide)) (g := (mkF m 54 #[.val (.long q1), .second, .val (.long q2), .second, .val (.long q3), .second, .val (.int p4), .val (.long d), .second, .val (.long z), .second, .unset, .unset, .unset, .unset, .unset] [(.long z), (.long q1), (.ref b3), (.ref b3)])) rfl (by rw [hml]; rfl) (Steps.refl _) (a := b3) (argsL := [(.long q1), (.long z)]) (rest := [(.ref b3)]) (lenOf pd_0_0 rfl) rfl (by show 2 * 0 + _ ≤ _; exact Nat.le_of_eq rfl) (hb hby at_54) (fun _ _ => ⟨rfl, e3, (by decide : 1 + 0 ≤ _), (by decide : 2 + 0 ≤ _)⟩)
        dsimp only [Pt.U, Pt.locs, Pt.cells, Pt.slots] at X4 l4 y4 z4 st4 hQ4
        subst l4 y4 z4
        obtain ⟨rfl, N4q, Kc4, c4_0, c4_1⟩ := hQ4
        have f5 := A3.keep Kc4
        have Zs4 : n0 ≤ T4.heap.size := Nat.le_trans Zs3 Kc4.1
        have N4 := Fr.app N0 N4q
        refine go (fun _ k => st4.trans k) ?_
        show G (T4.setTop (mkF m 57 #[.val (.long q1), .second, .val (.long q2), .second, .val (.long q3), .second, .val (.int p4), .val (.long d), .second, .val (.long z), .second, .unset, .unset, .unset, .unset, .unset] [(.ref b3)]))
        refine go (fun _ k => XS.astore X4.here hx rfl (hb hby at_57) rfl rfl (l' := #[.val (.long q1), .second, .val (.long q2), .second, .val (.long q3), .second, .val (.int p4), .val (.long d), .second, .val (.long z), .second, .val (.ref b3), .unset, .unset, .unset, .unset]) rfl k) ?_
        show G (T4.setTop (mkF m 59 #[.val (.long q1), .second, .val (.long q2), .second, .val (.long q3), .second, .val (.int p4), .val (.long d), .second, .val (.long z), .second, .val (.ref b3), .unset, .unset, .unset, .unset] []))
        refine go (fun _ k => XS.aload X4.here hx rfl (hb hby at_59) rfl rfl k) ?_
        show G (T4.setTop (mkF m 61 #[.val (.long q1), .second, .val (.long q2), .second, .val (.long q3), .second, .val (.int p4), .val (.long d), .second, .val (.long z), .second, .val (.ref b3), .unset, .unset, .unset, .unset] [(.ref b3)]))
        obtain ⟨cq6, kq6, qa6, qb6, qc6⟩ := isOf hZ rfl f5
        obtain ⟨_, _, ⟨T6, L6, k6, n6⟩, -, X6, ⟨Lc6, hQ6, l6, y6, z6⟩, st6⟩ := X4.virtualBack hx (y := (⟨"com/example/clepsydra/clepsydra/PermitCost$Nanos", "roundedUp", "()J"⟩ : MethodName)) (z := (⟨"com/example/clepsydra/clepsydra/PermitCost$Nanos", "roundedUp", "()J"⟩ : MethodName)) hown (mvT hZ (hw _ (List.mem_of_getElem? (i := 20) rfl))) (mvT hZ (hw _ (List.mem_of_getElem? (i := 21) rfl))) (notFace_of_selects (args := #[]) (mvT hZ (hw _ (List.mem_of_getElem? (i := 23) rfl)))) (mvT hZ (hw _ (List.mem_of_getElem? (i := 23) rfl))) (mvT hZ (hw _ (List.mem_of_getElem? (i := 22) rfl))) (by decide) (backOf (W := 0) (rm4 l Z a0 hw [] b3 q1 z T4.heap n0 Zs4 c4_0 c4_1) hZ (hw _ (List.mem_of_getElem? (i := 24) rfl)) (hw _ (List.mem_of_getElem? (i := 4) rfl)) (by decide) (by decide)) qa6 qc6 (g := (mkF m 61 #[.val (.long q1), .second, .val (.long q2), .second, .val (.long q3), .second, .val (.int p4), .val (.long d), .second, .val (.long z), .second, .val (.ref b3), .unset, .unset, .unset, .unset] [(.ref b3)])) rfl (by rw [hml]; rfl) (Steps.refl _) (argsL := []) (rest := []) (lenOf pd_0_1 rfl) rfl (by show 2 * 0 + _ ≤ _; exact Nat.le_of_eq rfl) (hb hby at_61) (fun _ _ => ⟨rfl, rfl, (by decide : 1 + 0 ≤ _), (by decide : 2 + 0 ≤ _)⟩)
        dsimp only [Pt.U, Pt.locs, Pt.cells, Pt.slots] at X6 l6 y6 z6 st6 hQ6
        subst l6 y6 z6
        obtain ⟨rfl, N6q, e6⟩ := hQ6
        have N6 := Fr.app N4 N6q
        refine go (fun _ k => st6.trans k) ?_
        show G (T6.setTop (mkF m 64 #[.val (.long q1), .second, .val (.long q2), .second, .val (.long q3), .second, .val (.int p4), .val (.long d), .second, .val (.long z), .second, .val (.ref b3), .unset, .unset, .unset, .unset] [(.long (rup q1 z))]))
        refine go (fun _ k => XS.lstore X6.here hx rfl (hb hby at_64) rfl (l' := #[.val (.long q1), .second, .val (.long q2), .second, .val (.long q3), .second, .val (.int p4), .val (.long d), .second, .val (.long z), .second, .val (.ref b3), .val (.long (rup q1 z)), .second, .unset, .unset]) rfl k) ?_
        show G (T6.setTop (mkF m 66 #[.val (.long q1), .second, .val (.long q2), .second, .val (.long q3), .second, .val (.int p4), .val (.long d), .second, .val (.long z), .second, .val (.ref b3), .val (.long (rup q1 z)), .second, .unset, .unset] []))
        refine go (fun _ k => XS.lload X6.here hx rfl (hb hby at_66) rfl k) ?_
        show G (T6.setTop (mkF m 68 #[.val (.long q1), .second, .val (.long q2), .second, .val (.long q3), .second, .val (.int p4), .val (.long d), .second, .val (.long z), .second, .val (.ref b3), .val (.long (rup q1 z)), .second, .unset, .unset] [(.long (rup q1 z))]))
        refine go (fun _ k => XS.lloadN X6.here hx rfl (hb hby at_68) rfl k) ?_
        show G (T6.setTop (mkF m 69 #[.val (.long q1), .second, .val (.long q2), .second, .val (.long q3), .second, .val (.int p4), .val (.long d), .second, .val (.long z), .second, .val (.ref b3), .val (.long (rup q1 z)), .second, .unset, .unset] [(.long q1), (.long (rup q1 z))]))
        refine go (fun _ k => XS.lsub X6.here hx rfl (hb hby at_69) rfl k) ?_
        show G (T6.setTop (mkF m 70 #[.val (.long q1), .second, .val (.long q2), .second, .val (.long q3), .second, .val (.int p4), .val (.long d), .second, .val (.long z), .second, .val (.ref b3), .val (.long (rup q1 z)), .second, .unset, .unset] [(.long ((rup q1 z) - q1))]))
        refine go (fun _ k => XS.lstore X6.here hx rfl (hb hby at_70) rfl (l' := #[.val (.long q1), .second, .val (.long q2), .second, .val (.long q3), .second, .val (.int p4), .val (.long d), .second, .val (.long z), .second, .val (.ref b3), .val (.long (rup q1 z)), .second, .val (.long ((rup q1 z) - q1)), .second]) rfl k) ?_
        show G (T6.setTop (mkF m 72 #[.val (.long q1), .second, .val (.long q2), .second, .val (.long q3), .second, .val (.int p4), .val (.long d), .second, .val (.long z), .second, .val (.ref b3), .val (.long (rup q1 z)), .second, .val (.long ((rup q1 z) - q1)), .second] []))
        refine go (fun _ k => XS.lload X6.here hx rfl (hb hby at_72) rfl k) ?_
        show G (T6.setTop (mkF m 74 #[.val (.long q1), .second, .val (.long q2), .second, .val (.long q3), .second, .val (.int p4), .val (.long d), .second, .val (.long z), .second, .val (.ref b3), .val (.long (rup q1 z)), .second, .val (.long ((rup q1 z) - q1)), .second] [(.long ((rup q1 z) - q1))]))
        refine go (fun _ k => XS.lconst X6.here hx rfl (hb hby at_74) k) ?_
        show G (T6.setTop (mkF m 75 #[.val (.long q1), .second, .val (.long q2), .second, .val (.long q3), .second, .val (.int p4), .val (.long d), .second, .val (.long z), .second, .val (.ref b3), .val (.long (rup q1 z)), .second, .val (.long ((rup q1 z) - q1)), .second] [(.long (0 : Int64)), (.long ((rup q1 z) - q1))]))
        refine go (fun _ k => XS.lcmp X6.here hx rfl (hb hby at_75) rfl k) ?_
        show G (T6.setTop (mkF m 76 #[.val (.long q1), .second, .val (.long q2), .second, .val (.long q3), .second, .val (.int p4), .val (.long d), .second, .val (.long z), .second, .val (.ref b3), .val (.long (rup q1 z)), .second, .val (.long ((rup q1 z) - q1)), .second] [(.int (lcmpW ((rup q1 z) - q1) (0 : Int64)))]))
        have hc7 : ¬ (((rup q1 z) - q1) < (0 : Int64)) := (own_facts q1 z d hd hz).1
        refine go (fun _ k => XS.ifNo X6.here hx rfl (hb hby at_76) rfl ((if0 _ _).trans (flt (fun z => hc7 (own_lclt.mp z))).1) k) ?_
        show G (T6.setTop (mkF m 79 #[.val (.long q1), .second, .val (.long q2), .second, .val (.long q3), .second, .val (.int p4), .val (.long d), .second, .val (.long z), .second, .val (.ref b3), .val (.long (rup q1 z)), .second, .val (.long ((rup q1 z) - q1)), .second] []))
        refine go (fun _ k => XS.lload X6.here hx rfl (hb hby at_79) rfl k) ?_
        show G (T6.setTop (mkF m 81 #[.val (.long q1), .second, .val (.long q2), .second, .val (.long q3), .second, .val (.int p4), .val (.long d), .second, .val (.long z), .second, .val (.ref b3), .val (.long (rup q1 z)), .second, .val (.long ((rup q1 z) - q1)), .second] [(.long ((rup q1 z) - q1))]))
        refine go (fun _ k => XS.lconst X6.here hx rfl (hb hby at_81) k) ?_
        show G (T6.setTop (mkF m 82 #[.val (.long q1), .second, .val (.long q2), .second, .val (.long q3), .second, .val (.int p4), .val (.long d), .second, .val (.long z), .second, .val (.ref b3), .val (.long (rup q1 z)), .second, .val (.long ((rup q1 z) - q1)), .second] [(.long (1 : Int64)), (.long ((rup q1 z) - q1))]))
        refine go (fun _ k => XS.lcmp X6.here hx rfl (hb hby at_82) rfl k) ?_
        show G (T6.setTop (mkF m 83 #[.val (.long q1), .second, .val (.long q2), .second, .val (.long q3), .second, .val (.int p4), .val (.long d), .second, .val (.long z), .second, .val (.ref b3), .val (.long (rup q1 z)), .second, .val (.long ((rup q1 z) - q1)), .second] [(.int (lcmpW ((rup q1 z) - q1) (1 : Int64)))]))
        have hc8 : ¬ ((1 : Int64) < ((rup q1 z) - q1)) := (own_facts q1 z d hd hz).2.1
        refine go (fun _ k => XS.ifYes X6.here hx rfl (pc0 := 83) (pc' := 88) rfl (hb hby at_83) rfl ((if0 _ _).trans (flt (fun z => hc8 (own_lcgt.mp z))).2.2.2) (by decide) (by decide) k) ?_
        show G (T6.setTop (mkF m 88 #[.val (.long q1), .second, .val (.long q2), .second, .val (.long q3), .second, .val (.int p4), .val (.long d), .second, .val (.long z), .second, .val (.ref b3), .val (.long (rup q1 z)), .second, .val (.long ((rup q1 z) - q1)), .second] []))
        refine go (fun _ k => XS.lload X6.here hx rfl (hb hby at_88) rfl k) ?_
        show G (T6.setTop (mkF m 90 #[.val (.long q1), .second, .val (.long q2), .second, .val (.long q3), .second, .val (.int p4), .val (.long d), .second, .val (.long z), .second, .val (.ref b3), .val (.long (rup q1 z)), .second, .val (.long ((rup q1 z) - q1)), .second] [(.long ((rup q1 z) - q1))]))
        refine go (fun _ k => XS.lload X6.here hx rfl (hb hby at_90) rfl k) ?_
        show G (T6.setTop (mkF m 92 #[.val (.long q1), .second, .val (.long q2), .second, .val (.long q3), .second, .val (.int p4), .val (.long d), .second, .val (.long z), .second, .val (.ref b3), .val (.long (rup q1 z)), .second, .val (.long ((rup q1 z) - q1)), .second] [(.long d), (.long ((rup q1 z) - q1))]))
        refine go (fun _ k => XS.lmul X6.here hx rfl (hb hby at_92) rfl k) ?_
        show G (T6.setTop (mkF m 93 #[.val (.long q1), .second, .val (.long q2), .second, .val (.long q3), .second, .val (.int p4), .val (.long d), .second, .val (.long z), .second, .val (.ref b3), .val (.long (rup q1 z)), .second, .val (.long ((rup q1 z) - q1)), .second] [(.long (((rup q1 z) - q1) * d))]))
        refine go (fun _ k => XS.lload X6.here hx rfl (hb hby at_93) rfl k) ?_
        show G (T6.setTop (mkF m 95 #[.val (.long q1), .second, .val (.long q2), .second, .val (.long q3), .second, .val (.int p4), .val (.long d), .second, .val (.long z), .second, .val (.ref b3), .val (.long (rup q1 z)), .second, .val (.long ((rup q1 z) - q1)), .second] [(.long z), (.long (((rup q1 z) - q1) * d))]))
        refine go (fun _ k => XS.lcmp X6.here hx rfl (hb hby at_95) rfl k) ?_
        show G (T6.setTop (mkF m 96 #[.val (.long q1), .second, .val (.long q2), .second, .val (.long q3), .second, .val (.int p4), .val (.long d), .second, .val (.long z), .second, .val (.ref b3), .val (.long (rup q1 z)), .second, .val (.long ((rup q1 z) - q1)), .second] [(.int (lcmpW (((rup q1 z) - q1) * d) z))]))
        have hc9 : ¬ ((((rup q1 z) - q1) * d) < z) := (own_facts q1 z d hd hz).2.2.1
        refine go (fun _ k => XS.ifNo X6.here hx rfl (hb hby at_96) rfl ((if0 _ _).trans (flt (fun z => hc9 (own_lclt.mp z))).1) k) ?_
        show G (T6.setTop (mkF m 99 #[.val (.long q1), .second, .val (.long q2), .second, .val (.long q3), .second, .val (.int p4), .val (.long d), .second, .val (.long z), .second, .val (.ref b3), .val (.long (rup q1 z)), .second, .val (.long ((rup q1 z) - q1)), .second] []))
        refine go (fun _ k => XS.lload X6.here hx rfl (hb hby at_99) rfl k) ?_
        show G (T6.setTop (mkF m 101 #[.val (.long q1), .second, .val (.long q2), .second, .val (.long q3), .second, .val (.int p4), .val (.long d), .second, .val (.long z), .second, .val (.ref b3), .val (.long (rup q1 z)), .second, .val (.long ((rup q1 z) - q1)), .second] [(.long ((rup q1 z) - q1))]))
        refine go (fun _ k => XS.lconst X6.here hx rfl (hb hby at_101) k) ?_
        show G (T6.setTop (mkF m 102 #[.val (.long q1), .second, .val (.long q2), .second, .val (.long q3), .second, .val (.int p4), .val (.long d), .second, .val (.long z), .second, .val (.ref b3), .val (.long (rup q1 z)), .second, .val (.long ((rup q1 z) - q1)), .second] [(.long (1 : Int64)), (.long ((rup q1 z) - q1))]))
        refine go (fun _ k => XS.lsub X6.here hx rfl (hb hby at_102) rfl k) ?_
        show G (T6.setTop (mkF m 103 #[.val (.long q1), .second, .val (.long q2), .second, .val (.long q3), .second, .val (.int p4), .val (.long d), .second, .val (.long z), .second, .val (.ref b3), .val (.long (rup q1 z)), .second, .val (.long ((rup q1 z) - q1)), .second] [(.long (((rup q1 z) - q1) - (1 : Int64)))]))
        refine go (fun _ k => XS.lload X6.here hx rfl (hb hby at_103) rfl k) ?_
        show G (T6.setTop (mkF m 105 #[.val (.long q1), .second, .val (.long q2), .second, .val (.long q3), .second, .val (.int p4), .val (.long d), .second, .val (.long z), .second, .val (.ref b3), .val (.long (rup q1 z)), .second, .val (.long ((rup q1 z) - q1)), .second] [(.long d), (.long (((rup q1 z) - q1) - (1 : Int64)))]))
        refine go (fun _ k => XS.lmul X6.here hx rfl (hb hby at_105) rfl k) ?_
        show G (T6.setTop (mkF m 106 #[.val (.long q1), .second, .val (.long q2), .second, .val (.long q3), .second, .val (.int p4), .val (.long d), .second, .val (.long z), .second, .val (.ref b3), .val (.long (rup q1 z)), .second, .val (.long ((rup q1 z) - q1)), .second] [(.long ((((rup q1 z) - q1) - (1 : Int64)) * d))]))
        refine go (fun _ k => XS.lload X6.here hx rfl (hb hby at_106) rfl k) ?_
        show G (T6.setTop (mkF m 108 #[.val (.long q1), .second, .val (.long q2), .second, .val (.long q3), .second, .val (.int p4), .val (.long d), .second, .val (.long z), .second, .val (.ref b3), .val (.long (rup q1 z)), .second, .val (.long ((rup q1 z) - q1)), .second] [(.long z), (.long ((((rup q1 z) - q1) - (1 : Int64)) * d))]))
        refine go (fun _ k => XS.lcmp X6.here hx rfl (hb hby at_108) rfl k) ?_
        show G (T6.setTop (mkF m 109 #[.val (.long q1), .second, .val (.long q2), .second, .val (.long q3), .second, .val (.int p4), .val (.long d), .second, .val (.long z), .second, .val (.ref b3), .val (.long (rup q1 z)), .second, .val (.long ((rup q1 z) - q1)), .second] [(.int (lcmpW ((((rup q1 z) - q1) - (1 : Int64)) * d) z))]))
        have hc10 : ((((rup q1 z) - q1) - (1 : Int64)) * d) < z := (own_facts q1 z d hd hz).2.2.2
        refine go (fun _ k => XS.ifNo X6.here hx rfl (hb hby at_109) rfl ((if0 _ _).trans (tlt (own_lclt.mpr hc10)).2.1) k) ?_
        show G (T6.setTop (mkF m 112 #[.val (.long q1), .second, .val (.long q2), .second, .val (.long q3), .second, .val (.int p4), .val (.long d), .second, .val (.long z), .second, .val (.ref b3), .val (.long (rup q1 z)), .second, .val (.long ((rup q1 z) - q1)), .second] []))
        refine go (fun _ k => XS.iconst X6.here hx rfl (hb hby at_112) k) ?_
        show G (T6.setTop (mkF m 113 #[.val (.long q1), .second, .val (.long q2), .second, .val (.long q3), .second, .val (.int p4), .val (.long d), .second, .val (.long z), .second, .val (.ref b3), .val (.long (rup q1 z)), .second, .val (.long ((rup q1 z) - q1)), .second] [(.int (1 : Int32))]))
        refine go (fun _ k => XS.goto X6.here hx rfl (pc0 := 113) (pc' := 117) rfl (hb hby at_113) (by decide) (by decide) k) ?_
        show G (T6.setTop (mkF m 117 #[.val (.long q1), .second, .val (.long q2), .second, .val (.long q3), .second, .val (.int p4), .val (.long d), .second, .val (.long z), .second, .val (.ref b3), .val (.long (rup q1 z)), .second, .val (.long ((rup q1 z) - q1)), .second] [(.int (1 : Int32))]))
        rw [hG]
        refine own_fin X6 Bd.notSynchronized (v := some (.int (1 : Int32))) (fun h => by rw [Bd.returns] at h; cases h) (fun fs hr => retOut X6 hx Bd.returns rfl (by simp [FieldType.isReference, Value.isRef]) (hb hby at_117) hr) ?_ (by decide) (by decide)
        show Q0 Z q1 q2 q3 p4 h0 n0 (some (.int (1 : Int32))) T6.heap _
        rw [e6]
        exact ⟨rfl, N6⟩
    · refine go (fun _ k => XS.ifYes X0.here hx rfl (pc0 := 35) (pc' := 47) rfl (hb hby at_35) rfl ((if0 _ _).trans (feq (fun z => hc35_1 (own_lceq.mp z))).2) (by decide) (by decide) k) ?_
      show G (s₁.setTop (mkF m 47 #[.val (.long q1), .second, .val (.long q2), .second, .val (.long q3), .second, .val (.int p4), .val (.long d), .second, .val (.long z), .second, .unset, .unset, .unset, .unset, .unset] []))
      obtain ⟨T11, h11, X11, e11, E11, A11, D11, -, st11⟩ := newO X0 hx hZ hown (hw _ (List.mem_of_getElem? (i := 2) rfl)) (hw _ (List.mem_of_getElem? (i := 3) rfl)) (hw _ (List.mem_of_getElem? (i := 4) rfl)) e0 (g := (mkF m 47 #[.val (.long q1), .second, .val (.long q2), .second, .val (.long q3), .second, .val (.int p4), .val (.long d), .second, .val (.long z), .second, .unset, .unset, .unset, .unset, .unset] [])) rfl (hb hby at_47) (by decide) (by decide)
      obtain ⟨b11, ga11⟩ : ∃ z, z = h0.size := ⟨_, rfl⟩
      have g_b11 : n0 ≤ b11 := Nat.le_trans Z0 (Nat.le_of_eq ga11.symm)
      rw [← ga11] at A11 D11 st11
      have Zs11 : n0 ≤ h11.size := Nat.le_trans Z0 E11.1
      have F11_whole : Fld Z h11 b11 "com/example/clepsydra/clepsydra/PermitCost$Nanos" "whole" "J" (.long (0 : Int64)) := D11 (Or.inr (hw _ (List.mem_of_getElem? (i := 17) rfl))) (ty := .long) (by decide)
      have F11_fraction : Fld Z h11 b11 "com/example/clepsydra/clepsydra/PermitCost$Nanos" "fraction" "J" (.long (0 : Int64)) := D11 (Or.inr (hw _ (List.mem_of_getElem? (i := 19) rfl))) (ty := .long) (by decide)
      refine go st11 ?_
      show G (T11.setTop (mkF m 50 #[.val (.long q1), .second, .val (.long q2), .second, .val (.long q3), .second, .val (.int p4), .val (.long d), .second, .val (.long z), .second, .unset, .unset, .unset, .unset, .unset] [(.ref b11)]))
      refine go (fun _ k => XS.dup X11.here hx rfl (hb hby at_50) rfl rfl k) ?_
      show G (T11.setTop (mkF m 51 #[.val (.long q1), .second, .val (.long q2), .second, .val (.long q3), .second, .val (.int p4), .val (.long d), .second, .val (.long z), .second, .unset, .unset, .unset, .unset, .unset] [(.ref b11), (.ref b11)]))
      refine go (fun _ k => XS.lloadN X11.here hx rfl (hb hby at_51) rfl k) ?_
      show G (T11.setTop (mkF m 52 #[.val (.long q1), .second, .val (.long q2), .second, .val (.long q3), .second, .val (.int p4), .val (.long d), .second, .val (.long z), .second, .unset, .unset, .unset, .unset, .unset] [(.long q1), (.ref b11), (.ref b11)]))
      refine go (fun _ k => XS.lload X11.here hx rfl (hb hby at_52) rfl k) ?_
      show G (T11.setTop (mkF m 54 #[.val (.long q1), .second, .val (.long q2), .second, .val (.long q3), .second, .val (.int p4), .val (.long d), .second, .val (.long z), .second, .unset, .unset, .unset, .unset, .unset] [(.long z), (.long q1), (.ref b11), (.ref b11)]))
      obtain ⟨_, _, ⟨T12, L12, k12, n12⟩, -, X12, ⟨Lc12, hQ12, l12, y12, z12⟩, st12⟩ := X11.specialBack hx (y := (⟨"com/example/clepsydra/clepsydra/PermitCost$Nanos", "<init>", "(JJ)V"⟩ : MethodName)) rfl hown (mvT hZ (hw _ (List.mem_of_getElem? (i := 5) rfl))) (mvT hZ (hw _ (List.mem_of_getElem? (i := 6) rfl))) (mvT hZ (hw _ (List.mem_of_getElem? (i := 7) rfl))) (by decide) (backOf (W := 1) (rm1 l Z a0 hw [] b11 q1 z h11 n0 Zs11 F11_whole F11_fraction A11 g_b11) hZ (hw _ (List.mem_of_getElem? (i := 7) rfl)) (hw _ (List.mem_of_getElem? (i := 4) rfl)) (by decide) (by decide)) (g := (mkF m 54 #[.val (.long q1), .second, .val (.long q2), .second, .val (.long q3), .second, .val (.int p4), .val (.long d), .second, .val (.long z), .second, .unset, .unset, .unset, .unset, .unset] [(.long z), (.long q1), (.ref b11), (.ref b11)])) rfl (by rw [hml]; rfl) (Steps.refl _) (a := b11) (argsL := [(.long q1), (.long z)]) (rest := [(.ref b11)]) (lenOf pd_0_0 rfl) rfl (by show 2 * 0 + _ ≤ _; exact Nat.le_of_eq rfl) (hb hby at_54) (fun _ _ => ⟨rfl, e11, (by decide : 1 + 0 ≤ _), (by decide : 2 + 0 ≤ _)⟩)
      dsimp only [Pt.U, Pt.locs, Pt.cells, Pt.slots] at X12 l12 y12 z12 st12 hQ12
      subst l12 y12 z12
      obtain ⟨rfl, N12q, Kc12, c12_0, c12_1⟩ := hQ12
      have f13 := A11.keep Kc12
      have Zs12 : n0 ≤ T12.heap.size := Nat.le_trans Zs11 Kc12.1
      have N12 := Fr.app N0 N12q
      refine go (fun _ k => st12.trans k) ?_
      show G (T12.setTop (mkF m 57 #[.val (.long q1), .second, .val (.long q2), .second, .val (.long q3), .second, .val (.int p4), .val (.long d), .second, .val (.long z), .second, .unset, .unset, .unset, .unset, .unset] [(.ref b11)]))
      refine go (fun _ k => XS.astore X12.here hx rfl (hb hby at_57) rfl rfl (l' := #[.val (.long q1), .second, .val (.long q2), .second, .val (.long q3), .second, .val (.int p4), .val (.long d), .second, .val (.long z), .second, .val (.ref b11), .unset, .unset, .unset, .unset]) rfl k) ?_
      show G (T12.setTop (mkF m 59 #[.val (.long q1), .second, .val (.long q2), .second, .val (.long q3), .second, .val (.int p4), .val (.long d), .second, .val (.long z), .second, .val (.ref b11), .unset, .unset, .unset, .unset] []))
      refine go (fun _ k => XS.aload X12.here hx rfl (hb hby at_59) rfl rfl k) ?_
      show G (T12.setTop (mkF m 61 #[.val (.long q1), .second, .val (.long q2), .second, .val (.long q3), .second, .val (.int p4), .val (.long d), .second, .val (.long z), .second, .val (.ref b11), .unset, .unset, .unset, .unset] [(.ref b11)]))
      obtain ⟨cq14, kq14, qa14, qb14, qc14⟩ := isOf hZ rfl f13
      obtain ⟨_, _, ⟨T14, L14, k14, n14⟩, -, X14, ⟨Lc14, hQ14, l14, y14, z14⟩, st14⟩ := X12.virtualBack hx (y := (⟨"com/example/clepsydra/clepsydra/PermitCost$Nanos", "roundedUp", "()J"⟩ : MethodName)) (z := (⟨"com/example/clepsydra/clepsydra/PermitCost$Nanos", "roundedUp", "()J"⟩ : MethodName)) hown (mvT hZ (hw _ (List.mem_of_getElem? (i := 20) rfl))) (mvT hZ (hw _ (List.mem_of_getElem? (i := 21) rfl))) (notFace_of_selects (args := #[]) (mvT hZ (hw _ (List.mem_of_getElem? (i := 23) rfl)))) (mvT hZ (hw _ (List.mem_of_getElem? (i := 23) rfl))) (mvT hZ (hw _ (List.mem_of_getElem? (i := 22) rfl))) (by decide) (backOf (W := 0) (rm4 l Z a0 hw [] b11 q1 z T12.heap n0 Zs12 c12_0 c12_1) hZ (hw _ (List.mem_of_getElem? (i := 24) rfl)) (hw _ (List.mem_of_getElem? (i := 4) rfl)) (by decide) (by decide)) qa14 qc14 (g := (mkF m 61 #[.val (.long q1), .second, .val (.long q2), .second, .val (.long q3), .second, .val (.int p4), .val (.long d), .second, .val (.long z), .second, .val (.ref b11), .unset, .unset, .unset, .unset] [(.ref b11)])) rfl (by rw [hml]; rfl) (Steps.refl _) (argsL := []) (rest := []) (lenOf pd_0_1 rfl) rfl (by show 2 * 0 + _ ≤ _; exact Nat.le_of_eq rfl) (hb hby at_61) (fun _ _ => ⟨rfl, rfl, (by decide : 1 + 0 ≤ _), (by decide : 2 + 0 ≤ _)⟩)
      dsimp only [Pt.U, Pt.locs, Pt.cells, Pt.slots] at X14 l14 y14 z14 st14 hQ14
      subst l14 y14 z14
      obtain ⟨rfl, N14q, e14⟩ := hQ14
      have N14 := Fr.app N12 N14q
      refine go (fun _ k => st14.trans k) ?_
      show G (T14.setTop (mkF m 64 #[.val (.long q1), .second, .val (.long q2), .second, .val (.long q3), .second, .val (.int p4), .val (.long d), .second, .val (.long z), .second, .val (.ref b11), .unset, .unset, .unset, .unset] [(.long (rup q1 z))]))
      refine go (fun _ k => XS.lstore X14.here hx rfl (hb hby at_64) rfl (l' := #[.val (.long q1), .second, .val (.long q2), .second, .val (.long q3), .second, .val (.int p4), .val (.long d), .second, .val (.long z), .second, .val (.ref b11), .val (.long (rup q1 z)), .second, .unset, .unset]) rfl k) ?_
      show G (T14.setTop (mkF m 66 #[.val (.long q1), .second, .val (.long q2), .second, .val (.long q3), .second, .val (.int p4), .val (.long d), .second, .val (.long z), .second, .val (.ref b11), .val (.long (rup q1 z)), .second, .unset, .unset] []))
      refine go (fun _ k => XS.lload X14.here hx rfl (hb hby at_66) rfl k) ?_
      show G (T14.setTop (mkF m 68 #[.val (.long q1), .second, .val (.long q2), .second, .val (.long q3), .second, .val (.int p4), .val (.long d), .second, .val (.long z), .second, .val (.ref b11), .val (.long (rup q1 z)), .second, .unset, .unset] [(.long (rup q1 z))]))
      refine go (fun _ k => XS.lloadN X14.here hx rfl (hb hby at_68) rfl k) ?_
      show G (T14.setTop (mkF m 69 #[.val (.long q1), .second, .val (.long q2), .second, .val (.long q3), .second, .val (.int p4), .val (.long d), .second, .val (.long z), .second, .val (.ref b11), .val (.long (rup q1 z)), .second, .unset, .unset] [(.long q1), (.long (rup q1 z))]))
      refine go (fun _ k => XS.lsub X14.here hx rfl (hb hby at_69) rfl k) ?_
      show G (T14.setTop (mkF m 70 #[.val (.long q1), .second, .val (.long q2), .second, .val (.long q3), .second, .val (.int p4), .val (.long d), .second, .val (.long z), .second, .val (.ref b11), .val (.long (rup q1 z)), .second, .unset, .unset] [(.long ((rup q1 z) - q1))]))
      refine go (fun _ k => XS.lstore X14.here hx rfl (hb hby at_70) rfl (l' := #[.val (.long q1), .second, .val (.long q2), .second, .val (.long q3), .second, .val (.int p4), .val (.long d), .second, .val (.long z), .second, .val (.ref b11), .val (.long (rup q1 z)), .second, .val (.long ((rup q1 z) - q1)), .second]) rfl k) ?_
      show G (T14.setTop (mkF m 72 #[.val (.long q1), .second, .val (.long q2), .second, .val (.long q3), .second, .val (.int p4), .val (.long d), .second, .val (.long z), .second, .val (.ref b11), .val (.long (rup q1 z)), .second, .val (.long ((rup q1 z) - q1)), .second] []))
      refine go (fun _ k => XS.lload X14.here hx rfl (hb hby at_72) rfl k) ?_
      show G (T14.setTop (mkF m 74 #[.val (.long q1), .second, .val (.long q2), .second, .val (.long q3), .second, .val (.int p4), .val (.long d), .second, .val (.long z), .second, .val (.ref b11), .val (.long (rup q1 z)), .second, .val (.long ((rup q1 z) - q1)), .second] [(.long ((rup q1 z) - q1))]))
      refine go (fun _ k => XS.lconst X14.here hx rfl (hb hby at_74) k) ?_
      show G (T14.setTop (mkF m 75 #[.val (.long q1), .second, .val (.long q2), .second, .val (.long q3), .second, .val (.int p4), .val (.long d), .second, .val (.long z), .second, .val (.ref b11), .val (.long (rup q1 z)), .second, .val (.long ((rup q1 z) - q1)), .second] [(.long (0 : Int64)), (.long ((rup q1 z) - q1))]))
      refine go (fun _ k => XS.lcmp X14.here hx rfl (hb hby at_75) rfl k) ?_
      show G (T14.setTop (mkF m 76 #[.val (.long q1), .second, .val (.long q2), .second, .val (.long q3), .second, .val (.int p4), .val (.long d), .second, .val (.long z), .second, .val (.ref b11), .val (.long (rup q1 z)), .second, .val (.long ((rup q1 z) - q1)), .second] [(.int (lcmpW ((rup q1 z) - q1) (0 : Int64)))]))
      have hc15 : ¬ (((rup q1 z) - q1) < (0 : Int64)) := (own_facts q1 z d hd hz).1
      refine go (fun _ k => XS.ifNo X14.here hx rfl (hb hby at_76) rfl ((if0 _ _).trans (flt (fun z => hc15 (own_lclt.mp z))).1) k) ?_
      show G (T14.setTop (mkF m 79 #[.val (.long q1), .second, .val (.long q2), .second, .val (.long q3), .second, .val (.int p4), .val (.long d), .second, .val (.long z), .second, .val (.ref b11), .val (.long (rup q1 z)), .second, .val (.long ((rup q1 z) - q1)), .second] []))
      refine go (fun _ k => XS.lload X14.here hx rfl (hb hby at_79) rfl k) ?_
      show G (T14.setTop (mkF m 81 #[.val (.long q1), .second, .val (.long q2), .second, .val (.long q3), .second, .val (.int p4), .val (.long d), .second, .val (.long z), .second, .val (.ref b11), .val (.long (rup q1 z)), .second, .val (.long ((rup q1 z) - q1)), .second] [(.long ((rup q1 z) - q1))]))
      refine go (fun _ k => XS.lconst X14.here hx rfl (hb hby at_81) k) ?_
      show G (T14.setTop (mkF m 82 #[.val (.long q1), .second, .val (.long q2), .second, .val (.long q3), .second, .val (.int p4), .val (.long d), .second, .val (.long z), .second, .val (.ref b11), .val (.long (rup q1 z)), .second, .val (.long ((rup q1 z) - q1)), .second] [(.long (1 : Int64)), (.long ((rup q1 z) - q1))]))
      refine go (fun _ k => XS.lcmp X14.here hx rfl (hb hby at_82) rfl k) ?_
      show G (T14.setTop (mkF m 83 #[.val (.long q1), .second, .val (.long q2), .second, .val (.long q3), .second, .val (.int p4), .val (.long d), .second, .val (.long z), .second, .val (.ref b11), .val (.long (rup q1 z)), .second, .val (.long ((rup q1 z) - q1)), .second] [(.int (lcmpW ((rup q1 z) - q1) (1 : Int64)))]))
      have hc16 : ¬ ((1 : Int64) < ((rup q1 z) - q1)) := (own_facts q1 z d hd hz).2.1
      refine go (fun _ k => XS.ifYes X14.here hx rfl (pc0 := 83) (pc' := 88) rfl (hb hby at_83) rfl ((if0 _ _).trans (flt (fun z => hc16 (own_lcgt.mp z))).2.2.2) (by decide) (by decide) k) ?_
      show G (T14.setTop (mkF m 88 #[.val (.long q1), .second, .val (.long q2), .second, .val (.long q3), .second, .val (.int p4), .val (.long d), .second, .val (.long z), .second, .val (.ref b11), .val (.long (rup q1 z)), .second, .val (.long ((rup q1 z) - q1)), .second] []))
      refine go (fun _ k => XS.lload X14.here hx rfl (hb hby at_88) rfl k) ?_
      show G (T14.setTop (mkF m 90 #[.val (.long q1), .second, .val (.long q2), .second, .val (.long q3), .second, .val (.int p4), .val (.long d), .second, .val (.long z), .second, .val (.ref b11), .val (.long (rup q1 z)), .second, .val (.long ((rup q1 z) - q1)), .second] [(.long ((rup q1 z) - q1))]))
      refine go (fun _ k => XS.lload X14.here hx rfl (hb hby at_90) rfl k) ?_
      show G (T14.setTop (mkF m 92 #[.val (.long q1), .second, .val (.long q2), .second, .val (.long q3), .second, .val (.int p4), .val (.long d), .second, .val (.long z), .second, .val (.ref b11), .val (.long (rup q1 z)), .second, .val (.long ((rup q1 z) - q1)), .second] [(.long d), (.long ((rup q1 z) - q1))]))
      refine go (fun _ k => XS.lmul X14.here hx rfl (hb hby at_92) rfl k) ?_
      show G (T14.setTop (mkF m 93 #[.val (.long q1), .second, .val (.long q2), .second, .val (.long q3), .second, .val (.int p4), .val (.long d), .second, .val (.long z), .second, .val (.ref b11), .val (.long (rup q1 z)), .second, .val (.long ((rup q1 z) - q1)), .second] [(.long (((rup q1 z) - q1) * d))]))
      refine go (fun _ k => XS.lload X14.here hx rfl (hb hby at_93) rfl k) ?_
      show G (T14.setTop (mkF m 95 #[.val (.long q1), .second, .val (.long q2), .second, .val (.long q3), .second, .val (.int p4), .val (.long d), .second, .val (.long z), .second, .val (.ref b11), .val (.long (rup q1 z)), .second, .val (.long ((rup q1 z) - q1)), .second] [(.long z), (.long (((rup q1 z) - q1) * d))]))
      refine go (fun _ k => XS.lcmp X14.here hx rfl (hb hby at_95) rfl k) ?_
      show G (T14.setTop (mkF m 96 #[.val (.long q1), .second, .val (.long q2), .second, .val (.long q3), .second, .val (.int p4), .val (.long d), .second, .val (.long z), .second, .val (.ref b11), .val (.long (rup q1 z)), .second, .val (.long ((rup q1 z) - q1)), .second] [(.int (lcmpW (((rup q1 z) - q1) * d) z))]))
      have hc17 : ¬ ((((rup q1 z) - q1) * d) < z) := (own_facts q1 z d hd hz).2.2.1
      refine go (fun _ k => XS.ifNo X14.here hx rfl (hb hby at_96) rfl ((if0 _ _).trans (flt (fun z => hc17 (own_lclt.mp z))).1) k) ?_
      show G (T14.setTop (mkF m 99 #[.val (.long q1), .second, .val (.long q2), .second, .val (.long q3), .second, .val (.int p4), .val (.long d), .second, .val (.long z), .second, .val (.ref b11), .val (.long (rup q1 z)), .second, .val (.long ((rup q1 z) - q1)), .second] []))
      refine go (fun _ k => XS.lload X14.here hx rfl (hb hby at_99) rfl k) ?_
      show G (T14.setTop (mkF m 101 #[.val (.long q1), .second, .val (.long q2), .second, .val (.long q3), .second, .val (.int p4), .val (.long d), .second, .val (.long z), .second, .val (.ref b11), .val (.long (rup q1 z)), .second, .val (.long ((rup q1 z) - q1)), .second] [(.long ((rup q1 z) - q1))]))
      refine go (fun _ k => XS.lconst X14.here hx rfl (hb hby at_101) k) ?_
      show G (T14.setTop (mkF m 102 #[.val (.long q1), .second, .val (.long q2), .second, .val (.long q3), .second, .val (.int p4), .val (.long d), .second, .val (.long z), .second, .val (.ref b11), .val (.long (rup q1 z)), .second, .val (.long ((rup q1 z) - q1)), .second] [(.long (1 : Int64)), (.long ((rup q1 z) - q1))]))
      refine go (fun _ k => XS.lsub X14.here hx rfl (hb hby at_102) rfl k) ?_
      show G (T14.setTop (mkF m 103 #[.val (.long q1), .second, .val (.long q2), .second, .val (.long q3), .second, .val (.int p4), .val (.long d), .second, .val (.long z), .second, .val (.ref b11), .val (.long (rup q1 z)), .second, .val (.long ((rup q1 z) - q1)), .second] [(.long (((rup q1 z) - q1) - (1 : Int64)))]))
      refine go (fun _ k => XS.lload X14.here hx rfl (hb hby at_103) rfl k) ?_
      show G (T14.setTop (mkF m 105 #[.val (.long q1), .second, .val (.long q2), .second, .val (.long q3), .second, .val (.int p4), .val (.long d), .second, .val (.long z), .second, .val (.ref b11), .val (.long (rup q1 z)), .second, .val (.long ((rup q1 z) - q1)), .second] [(.long d), (.long (((rup q1 z) - q1) - (1 : Int64)))]))
      refine go (fun _ k => XS.lmul X14.here hx rfl (hb hby at_105) rfl k) ?_
      show G (T14.setTop (mkF m 106 #[.val (.long q1), .second, .val (.long q2), .second, .val (.long q3), .second, .val (.int p4), .val (.long d), .second, .val (.long z), .second, .val (.ref b11), .val (.long (rup q1 z)), .second, .val (.long ((rup q1 z) - q1)), .second] [(.long ((((rup q1 z) - q1) - (1 : Int64)) * d))]))
      refine go (fun _ k => XS.lload X14.here hx rfl (hb hby at_106) rfl k) ?_
      show G (T14.setTop (mkF m 108 #[.val (.long q1), .second, .val (.long q2), .second, .val (.long q3), .second, .val (.int p4), .val (.long d), .second, .val (.long z), .second, .val (.ref b11), .val (.long (rup q1 z)), .second, .val (.long ((rup q1 z) - q1)), .second] [(.long z), (.long ((((rup q1 z) - q1) - (1 : Int64)) * d))]))
      refine go (fun _ k => XS.lcmp X14.here hx rfl (hb hby at_108) rfl k) ?_
      show G (T14.setTop (mkF m 109 #[.val (.long q1), .second, .val (.long q2), .second, .val (.long q3), .second, .val (.int p4), .val (.long d), .second, .val (.long z), .second, .val (.ref b11), .val (.long (rup q1 z)), .second, .val (.long ((rup q1 z) - q1)), .second] [(.int (lcmpW ((((rup q1 z) - q1) - (1 : Int64)) * d) z))]))
      have hc18 : ((((rup q1 z) - q1) - (1 : Int64)) * d) < z := (own_facts q1 z d hd hz).2.2.2
      refine go (fun _ k => XS.ifNo X14.here hx rfl (hb hby at_109) rfl ((if0 _ _).trans (tlt (own_lclt.mpr hc18)).2.1) k) ?_
      show G (T14.setTop (mkF m 112 #[.val (.long q1), .second, .val (.long q2), .second, .val (.long q3), .second, .val (.int p4), .val (.long d), .second, .val (.long z), .second, .val (.ref b11), .val (.long (rup q1 z)), .second, .val (.long ((rup q1 z) - q1)), .second] []))
      refine go (fun _ k => XS.iconst X14.here hx rfl (hb hby at_112) k) ?_
      show G (T14.setTop (mkF m 113 #[.val (.long q1), .second, .val (.long q2), .second, .val (.long q3), .second, .val (.int p4), .val (.long d), .second, .val (.long z), .second, .val (.ref b11), .val (.long (rup q1 z)), .second, .val (.long ((rup q1 z) - q1)), .second] [(.int (1 : Int32))]))
      refine go (fun _ k => XS.goto X14.here hx rfl (pc0 := 113) (pc' := 117) rfl (hb hby at_113) (by decide) (by decide) k) ?_
      show G (T14.setTop (mkF m 117 #[.val (.long q1), .second, .val (.long q2), .second, .val (.long q3), .second, .val (.int p4), .val (.long d), .second, .val (.long z), .second, .val (.ref b11), .val (.long (rup q1 z)), .second, .val (.long ((rup q1 z) - q1)), .second] [(.int (1 : Int32))]))
      rw [hG]
      refine own_fin X14 Bd.notSynchronized (v := some (.int (1 : Int32))) (fun h => by rw [Bd.returns] at h; cases h) (fun fs hr => retOut X14 hx Bd.returns rfl (by simp [FieldType.isReference, Value.isRef]) (hb hby at_117) hr) ?_ (by decide) (by decide)
      show Q0 Z q1 q2 q3 p4 h0 n0 (some (.int (1 : Int32))) T14.heap _
      rw [e14]
      exact ⟨rfl, N14⟩
  show G (s₁.setTop (mkF m 20 #[.val (.long q1), .second, .val (.long q2), .second, .val (.long q3), .second, .val (.int p4), .val (.long d), .second, .val (.long f), .second, .unset, .unset, .unset, .unset, .unset] []))
  refine go (fun _ k => XS.iload X0.here hx rfl (hb hby at_20) rfl k) ?_
  show G (s₁.setTop (mkF m 22 #[.val (.long q1), .second, .val (.long q2), .second, .val (.long q3), .second, .val (.int p4), .val (.long d), .second, .val (.long f), .second, .unset, .unset, .unset, .unset, .unset] [(.int p4)]))
  refine go (fun _ k => XS.iconst X0.here hx rfl (hb hby at_22) k) ?_
  show G (s₁.setTop (mkF m 23 #[.val (.long q1), .second, .val (.long q2), .second, .val (.long q3), .second, .val (.int p4), .val (.long d), .second, .val (.long f), .second, .unset, .unset, .unset, .unset, .unset] [(.int (1 : Int32)), (.int p4)]))
  refine go (fun _ k => XS.iand X0.here hx rfl (hb hby at_23) rfl k) ?_
  show G (s₁.setTop (mkF m 24 #[.val (.long q1), .second, .val (.long q2), .second, .val (.long q3), .second, .val (.int p4), .val (.long d), .second, .val (.long f), .second, .unset, .unset, .unset, .unset, .unset] [(.int (p4 &&& (1 : Int32)))]))
  by_cases hc24_19 : (p4 &&& (1 : Int32)) = (0 : Int32)
  · refine go (fun _ k => XS.ifYes X0.here hx rfl (pc0 := 24) (pc' := 30) rfl (hb hby at_24) rfl ((if0 _ _).trans (teq hc24_19).1) (by decide) (by decide) k) ?_
    show G (s₁.setTop (mkF m 30 #[.val (.long q1), .second, .val (.long q2), .second, .val (.long q3), .second, .val (.int p4), .val (.long d), .second, .val (.long f), .second, .unset, .unset, .unset, .unset, .unset] []))
    exact J30 _ hf
  · refine go (fun _ k => XS.ifNo X0.here hx rfl (hb hby at_24) rfl ((if0 _ _).trans (feq hc24_19).1) k) ?_
    show G (s₁.setTop (mkF m 27 #[.val (.long q1), .second, .val (.long q2), .second, .val (.long q3), .second, .val (.int p4), .val (.long d), .second, .val (.long f), .second, .unset, .unset, .unset, .unset, .unset] []))
    refine go (fun _ k => XS.lconst X0.here hx rfl (hb hby at_27) k) ?_
    show G (s₁.setTop (mkF m 28 #[.val (.long q1), .second, .val (.long q2), .second, .val (.long q3), .second, .val (.int p4), .val (.long d), .second, .val (.long f), .second, .unset, .unset, .unset, .unset, .unset] [(.long (0 : Int64))]))
    refine go (fun _ k => XS.lstore X0.here hx rfl (hb hby at_28) rfl (l' := #[.val (.long q1), .second, .val (.long q2), .second, .val (.long q3), .second, .val (.int p4), .val (.long d), .second, .val (.long (0 : Int64)), .second, .unset, .unset, .unset, .unset, .unset]) rfl k) ?_
    show G (s₁.setTop (mkF m 30 #[.val (.long q1), .second, .val (.long q2), .second, .val (.long q3), .second, .val (.int p4), .val (.long d), .second, .val (.long (0 : Int64)), .second, .unset, .unset, .unset, .unset, .unset] []))
    exact J30 _ ⟨by decide, by show (0 : Int) < d.toInt; omega⟩

set_option maxRecDepth 65536 in
set_option maxHeartbeats 40000000 in
theorem comes_1 {Post : Tables → Env → Array Value → State → Outcome → State → Prop} (hpost : ∀ tb e args s v u, (limb_1_1.after args s (.returned v) u = true ∧ limb_1_2.after args s (.returned v) u = true ∧ True) → FrameEnd s (.returned v) u (Jvm.fieldLocs frame_1_writes args s ++ Jvm.arrayLocs frame_1_arrays args s ++ Jvm.staticLocs frame_1_statics s) 16 128 → Post tb e args s (.returned v) u) :
    ArmFor flags0 classFile x code maxLocals ret World_1 tables_1 room_1 Calls_1 rest_1 Pre_1 Post := by
  intro l hfl _ _ p e ha hc hk s m args below hf hA hF happ hP
  obtain ⟨hcalls, hrest, hpre⟩ := hP
  obtain ⟨-, -, -, hnamed, -, -, -, hat⟩ := (Spec.applies_iff hf).mp happ
  obtain ⟨hg, hn⟩ := and_e (Cond.before_iff.mp (show (Jvm.Cond.and given_1 narrow_1).before args s = true from hpre))
  obtain ⟨g2, g3⟩ := and_e hg
  obtain ⟨g4, g5⟩ := and_e g3
  obtain ⟨g6, g7⟩ := and_e g5
  obtain ⟨g8, g9⟩ := and_e g7
  obtain ⟨w0, w1, w2, w3, rfl⟩ : ∃ w0 w1 w2 w3 : Value, args = #[w0, w1, w2, w3] := by
    have hs : args.size = 4 := by simpa [Cond.value, given_1] using g2
    obtain ⟨L⟩ := args
    match L, hs with
    | [w0, w1, w2, w3], _ => exact ⟨w0, w1, w2, w3, rfl⟩
  have hw := fun d (hd : d ∈ tables_1) => atoms_spec (ws := Jvm.Cond.code x code maxLocals ret :: tables_1) hat d (List.mem_cons_of_mem _ hd)
  have hfit : Fit s := fun {y c} hc i hi => by
    obtain ⟨ha, rfl⟩ := Array.getElem?_eq_some_iff.mp hc
    have q := List.all_eq_true.mp ((Array.all_eq_true_iff_forall_mem.mp hF) _ (Array.getElem_mem ha)) i (List.mem_range.mpr hi)
    simpa [Array.getElem?_eq_getElem hi] using q
  obtain ⟨i0, ei0⟩ := isL_v g4
  obtain rfl : w0 = (.long i0) := Option.some.inj ei0
  obtain ⟨i1, ei1⟩ := isL_v g6
  obtain rfl : w1 = (.long i1) := Option.some.inj ei1
  obtain ⟨i2, ei2⟩ := isL_v g8
  obtain rfl : w2 = (.long i2) := Option.some.inj ei2
  obtain ⟨i3, ei3⟩ := is_v g9
  obtain rfl : w3 = (.int i3) := Option.some.inj ei3
  obtain ⟨n, o, h1, h2, h3, _, L, rfl, ⟨rfl, N⟩, hq⟩ := rm0 l s _ hw tables_1 i0 i1 i2 i3 s.heap s.heap.size (Nat.le_refl _)  p e ha hc hk s m _ below hf ((Spec.applies_iff_loose hf).mp happ).1 ⟨rfl, State.Warmed39.refl s, rfl⟩ trivial
  refine ⟨n, _, h1, h2, h3, hpost _ _ _ _ _ _ ⟨Cond.after_iff.mpr rfl, Cond.after_iff.mpr (eq_i res_at (Term.int_eval (1)) rfl), trivial⟩ ⟨hq.1, hq.2.1, (hq.2.2.sift fun y hy => Or.inr (N y hy)).mono (by decide) (by decide)⟩⟩
theorem main_1_1 : Claimed_1_1 := comes_1 fun _ _ _ _ _ _ h hF => ⟨h.1, hF⟩
theorem main_1_2 : Claimed_1_2 := comes_1 fun _ _ _ _ _ _ h hF => ⟨h.2.1, hF⟩
end Jvm.Pilot.@@N@@
namespace Jvm.Pilot.@@N@@
open Jvm Jvm.ClassFile Sem Op Lib Jvm.Free Jvm.Stand Jvm.Pilot.@@N@@.Jvm.D
/-! MADE BY PROGRAM (witnessworld.py) out of the Statement's table words and the real class files: 10 classes; the members and pool entries that the words name. The judged class is class 1, her method 1. -/
namespace start1
open Jvm.ClassFile
def u (s : String) : CpInfo := .utf8 (stringToUtf16 s)
/-- a pool by its gaps: so many unusable entries, then the entry; so many at the end -/
def gap : Nat → List CpInfo → List CpInfo
  | 0, r => r
  | n + 1, r => .unusable :: gap n r
def poolList (es : List (Nat × CpInfo)) (last : Nat) : List CpInfo := es.foldr (fun e r => gap e.1 (e.2 :: r)) (gap last [])
def pool (es : List (Nat × CpInfo)) (last : Nat) : Array CpInfo := ⟨poolList es last⟩
def fileOf (pool : Array CpInfo) (this : Nat) (attrs : Array Attribute := #[]) (ms : Array MethodInfo := #[]) (fl : Nat := 33) (sup : Nat := 0) (ifs : Array Nat := #[]) (fds : Array FieldInfo := #[]) : ClassFile where
  minorVersion := 0
  majorVersion := 65
  constantPool := pool
  accessFlags := fl
  thisClass := this
  superClass := sup
  interfaces := ifs
  fields := fds
  methods := ms
  attributes := attrs
def plain (name : String) (sup : Option ClassId) : Class where
  name := name
  kind := .ordinary
  loader := none
  accessFlags := 33
  super := sup
  interfaces := #[]
  cf := none
  fields := #[]
  methods := #[]
  instanceTypes := #[]
  staticTypes := #[]
  resolved := #[]
  callSites := []
  init := .initialized
  statics := none
  mirror := none

def pool0 : Array CpInfo := pool [(5, u "<init>"), (0, u "()V"), (1, .class_ 10), (1, u "java/lang/Object")] 113

def k0c0 : Code := { maxStack := 0, maxLocals := 1, code := object_method_1_code, exceptionTable := #[], attributes := #[] }
def k0m0 : Method := { name := "<init>", desc := "()V", sig := { parameters := [], returnType := none }, accessFlags := 1, code := some k0c0 }
/-- java/lang/Object -/
def k0 : Class := { plain "java/lang/Object" none with
  accessFlags := 33
  interfaces := #[]
  cf := some (fileOf pool0 8 #[] #[{ accessFlags := 1, nameIndex := 5, descriptorIndex := 6, attributes := #[] }] 33 0 #[] #[])
  fields := #[]
  methods := #[k0m0]
  instanceTypes := #[]
  staticTypes := #[]
  resolved := Array.replicate 124 none
  statics := none }

def pool1 : Array CpInfo := pool [(2, .class_ 4), (1, u "java/lang/Object"), (0, u "<init>"), (0, u "()V"), (0, .long 4611686018427387903), (3, .long 9223372036854775807), (1, .class_ 14), (0, u "com/example/clepsydra/clepsydra/PermitCost$Nanos"), (0, .methodref 13 16), (0, .nameAndType 5 17), (0, u "(JJ)V"), (0, .methodref 13 19), (0, .nameAndType 20 21), (0, u "roundedUp"), (0, u "()J"), (0, .class_ 23), (0, u "com/example/clepsydra/clepsydra/NanosRoundedUpPinLaw"), (2, u "law"), (0, u "(JJJI)Z")] 7

def k1m0 : Method := { name := "<init>", desc := "()V", sig := { parameters := [], returnType := none }, accessFlags := 1, code := none }
def k1c1 : Code := { maxStack := 6, maxLocals := 16, code := code, exceptionTable := #[], attributes := #[] }
def k1m1 : Method := { name := "law", desc := "(JJJI)Z", sig := { parameters := [.long, .long, .long, .int], returnType := some .boolean }, accessFlags := 9, code := some k1c1 }
/-- com/example/clepsydra/clepsydra/NanosRoundedUpPinLaw -/
def k1 : Class := { plain "com/example/clepsydra/clepsydra/NanosRoundedUpPinLaw" (some 0) with
  accessFlags := 49
  interfaces := #[]
  cf := some (fileOf pool1 22 #[] #[{ accessFlags := 1, nameIndex := 5, descriptorIndex := 6, attributes := #[] }, { accessFlags := 9, nameIndex := 26, descriptorIndex := 27, attributes := #[] }] 49 2 #[] #[])
  fields := #[]
  methods := #[k1m0, k1m1]
  instanceTypes := #[]
  staticTypes := #[]
  resolved := Array.replicate 35 none
  statics := none }

def pool2 : Array CpInfo := pool [(1, .methodref 2 3), (0, .class_ 4), (0, .nameAndType 5 6), (0, u "java/lang/Object"), (0, u "<init>"), (0, u "()V"), (0, .class_ 8), (0, u "java/lang/Record")] 13

def k2c0 : Code := { maxStack := 1, maxLocals := 1, code := jdk_30_method_1_code, exceptionTable := #[], attributes := #[] }
def k2m0 : Method := { name := "<init>", desc := "()V", sig := { parameters := [], returnType := none }, accessFlags := 4, code := some k2c0 }
/-- java/lang/Record -/
def k2 : Class := { plain "java/lang/Record" (some 0) with
  accessFlags := 1057
  interfaces := #[]
  cf := some (fileOf pool2 7 #[] #[{ accessFlags := 4, nameIndex := 5, descriptorIndex := 6, attributes := #[] }] 1057 2 #[] #[])
  fields := #[]
  methods := #[k2m0]
  instanceTypes := #[]
  staticTypes := #[]
  resolved := Array.replicate 22 none
  statics := none }

def pool3 : Array CpInfo := pool [(1, .methodref 2 3), (0, .class_ 4), (0, .nameAndType 5 6), (0, u "java/lang/Record"), (0, u "<init>"), (0, u "()V"), (0, .fieldref 8 9), (0, .class_ 10), (0, .nameAndType 11 12), (0, u "com/example/clepsydra/clepsydra/PermitCost$Nanos"), (0, u "whole"), (0, u "J"), (0, .fieldref 8 14), (0, .nameAndType 15 12), (0, u "fraction"), (12, u "(JJ)V"), (3, u "roundedUp"), (0, u "()J"), (7, .class_ 42), (0, u "com/example/clepsydra/clepsydra/PermitCost")] 20

def k3c0 : Code := { maxStack := 3, maxLocals := 5, code := prog_14_method_1_code, exceptionTable := #[], attributes := #[] }
def k3m0 : Method := { name := "<init>", desc := "(JJ)V", sig := { parameters := [.long, .long], returnType := none }, accessFlags := 0, code := some k3c0 }
def k3c1 : Code := { maxStack := 4, maxLocals := 1, code := prog_14_method_2_code, exceptionTable := #[], attributes := #[] }
def k3m1 : Method := { name := "roundedUp", desc := "()J", sig := { parameters := [], returnType := some .long }, accessFlags := 0, code := some k3c1 }
/-- com/example/clepsydra/clepsydra/PermitCost$Nanos -/
def k3 : Class := { plain "com/example/clepsydra/clepsydra/PermitCost$Nanos" (some 2) with
  accessFlags := 48
  interfaces := #[]
  cf := some (fileOf pool3 8 #[.nestHost 41] #[{ accessFlags := 0, nameIndex := 5, descriptorIndex := 28, attributes := #[] }, { accessFlags := 0, nameIndex := 32, descriptorIndex := 33, attributes := #[] }] 48 2 #[] #[{ accessFlags := 18, nameIndex := 11, descriptorIndex := 12, attributes := #[] }, { accessFlags := 18, nameIndex := 15, descriptorIndex := 12, attributes := #[] }])
  fields := #[{ name := "whole", type := .long, accessFlags := 18, slot := 0, constantValue := 0 }, { name := "fraction", type := .long, accessFlags := 18, slot := 1, constantValue := 0 }]
  methods := #[k3m0, k3m1]
  instanceTypes := #[.long, .long]
  staticTypes := #[]
  resolved := Array.replicate 63 none
  statics := none }

def pool4 : Array CpInfo := pool [(1, u "java/lang/Cloneable"), (0, .class_ 1), (0, u "java/lang/Object"), (0, .class_ 3)] 3

/-- java/lang/Cloneable -/
def k4 : Class := { plain "java/lang/Cloneable" (some 0) with
  accessFlags := 1537
  interfaces := #[]
  cf := some (fileOf pool4 2 #[] #[] 1537 4 #[] #[])
  fields := #[]
  methods := #[]
  instanceTypes := #[]
  staticTypes := #[]
  resolved := Array.replicate 8 none
  statics := none }

def pool5 : Array CpInfo := pool [(1, u "java/io/Serializable"), (0, .class_ 1), (0, u "java/lang/Object"), (0, .class_ 3)] 3

/-- java/io/Serializable -/
def k5 : Class := { plain "java/io/Serializable" (some 0) with
  accessFlags := 1537
  interfaces := #[]
  cf := some (fileOf pool5 2 #[] #[] 1537 4 #[] #[])
  fields := #[]
  methods := #[]
  instanceTypes := #[]
  staticTypes := #[]
  resolved := Array.replicate 8 none
  statics := none }

/-- the primitive byte -/
def k6 : Class := { plain "byte" none with kind := .primitive 'B', accessFlags := 0x411 }
/-- [B -/
def k7 : Class := { plain "[B" (some 0) with kind := .array 6 .byte, interfaces := #[4, 5], accessFlags := 1041 }

/-- the primitive int -/
def k8 : Class := { plain "int" none with kind := .primitive 'I', accessFlags := 0x411 }
/-- [I -/
def k9 : Class := { plain "[I" (some 0) with kind := .array 8 .int, interfaces := #[4, 5], accessFlags := 1041 }

def heap : Heap := #[]
def classes : Array Class := #[k0, k1, k2, k3, k4, k5, k6, k7, k8, k9]
def interned : List (Array UInt16 × Addr) := []
def slotsUsed : Nat := 0
def theMethod : MethodId := ⟨1, 1⟩
def args0 : Array Value := #[.long 5, .long 7, .long 9, .int 1]
def aboutOver (below : List Frame) : State where
  vm := { classes := classes, interned := interned.toArray }
  heap := heap
  slotsUsed := slotsUsed
  threads := #[{ frames := .invoking theMethod args0 :: below }]
def below0 : List Frame := [.native { method := ⟨0, 0⟩, args := #[] }]
def about1 : State := aboutOver below0
def p0 : Program := .bare "" "" ""
def e0 : Env := launch0.env 0 0 0
theorem w_frames : about1.frames = Frame.invoking theMethod args0 :: below0 := rfl
set_option maxRecDepth 65536 in
theorem w_args : argsFit about1.vm theMethod args0 = true := by decide +kernel
set_option maxRecDepth 65536 in
theorem w_heap : heapFits about1 = true := by decide +kernel
set_option maxRecDepth 65536 in
theorem w_runnable : about1.curStatus? = some .runnable := by decide +kernel
set_option maxRecDepth 65536 in
theorem w_alone : about1.alone = true := by decide +kernel
set_option maxRecDepth 65536 in
theorem w_named : about1.methodNamed? x = some theMethod := by decide +kernel
set_option maxRecDepth 65536 in
theorem w_hears : about1.hears theMethod below0 = true := by decide +kernel
set_option maxRecDepth 65536 in
theorem w_ripe : about1.ripe theMethod args0 below0 = true := by decide +kernel
theorem w_running : about1.status = .running := rfl
set_option maxRecDepth 65536 in
theorem w_room : about1.hasRoom e0.platform room_1 = true :=
  launch0.hasRoom_least _ room_1 (by decide +kernel) (by decide +kernel) (by decide +kernel) (by decide +kernel) (by decide +kernel) (by decide +kernel)
theorem allAtoms_all (ts : List Jvm.Cond) (a : Array Jvm.Value) (st : Jvm.State) : (allAtoms ts).before a st = ts.all (fun c => c.before a st) := by
  induction ts with
  | nil => rfl
  | cons c t ih =>
    show (Jvm.Cond.and c (allAtoms t)).before a st = _
    rw [Jvm.Cond.before_and, ih, List.all_cons]
def words1 : List Jvm.Cond := Jvm.Cond.code x code maxLocals ret :: tables_1
/-- a 'code' word, met by the world's own term for the bytes: nothing is compared byte by byte -/
theorem code_word {y : MethodName} {bytes : ByteArray} {mx : Nat} {rt : Option FieldType} {a : Array Value} {s : State} {m : MethodId} {meth : Method} {c : Code} (h1 : s.methodNamed? y = some m) (h2 : s.vm.method? m = some meth) (h3 : meth.code = some c) (h4 : c.code = bytes)
    (h5 : (c.maxLocals == mx && c.exceptionTable.isEmpty && decide (c.maxStack ≤ mostOperands) && decide (meth.sig.returnType = rt) && !meth.locks && decide (parseMethodDescriptor y.desc = some meth.sig)) = true) : (Jvm.Cond.code y bytes mx rt).before a s = true := by
  simp only [Bool.and_eq_true, beq_iff_eq, Bool.not_eq_true', decide_eq_true_eq] at h5
  obtain ⟨⟨⟨⟨⟨g1, g2⟩, g3⟩, g4⟩, g5⟩, g6⟩ := h5
  simp [Cond.before, Cond.holds, Cond.value, h1, h2, h3, h4, g1, g2, g3, g4, g5, g6]
def isCode : Jvm.Cond → Bool
  | .code _ _ _ _ => true
  | _ => false
theorem all_split {L : List Jvm.Cond} {P : Jvm.Cond → Bool} (h1 : L.all (fun c => isCode c || P c) = true) (h2 : ∀ c ∈ L.filter isCode, P c = true) : L.all P = true := by
  refine List.all_eq_true.mpr fun c hc => ?_
  have h := List.all_eq_true.mp h1 c hc
  rcases Bool.eq_false_or_eq_true (isCode c) with hi | hi
  · exact h2 c (List.mem_filter.mpr ⟨hc, hi⟩)
  · simpa [hi] using h
set_option maxRecDepth 65536 in
theorem w_c0 : (Jvm.Cond.code x code maxLocals ret).before args0 about1 = true := code_word (m := ⟨1, 1⟩) (meth := k1m1) (c := k1c1) (by decide +kernel) rfl rfl rfl (by decide +kernel)
set_option maxRecDepth 65536 in
theorem w_c1 : (Jvm.Cond.code ({ cls := "com/example/clepsydra/clepsydra/PermitCost$Nanos", name := "<init>", desc := "(JJ)V" } : Jvm.MethodName) prog_14_method_1_code (5 : Nat) (Option.none : Option Jvm.ClassFile.FieldType)).before args0 about1 = true := code_word (m := ⟨3, 0⟩) (meth := k3m0) (c := k3c0) (by decide +kernel) rfl rfl rfl (by decide +kernel)
set_option maxRecDepth 65536 in
theorem w_c2 : (Jvm.Cond.code ({ cls := "java/lang/Record", name := "<init>", desc := "()V" } : Jvm.MethodName) jdk_30_method_1_code (1 : Nat) (Option.none : Option Jvm.ClassFile.FieldType)).before args0 about1 = true := code_word (m := ⟨2, 0⟩) (meth := k2m0) (c := k2c0) (by decide +kernel) rfl rfl rfl (by decide +kernel)
set_option maxRecDepth 65536 in
theorem w_c3 : (Jvm.Cond.code ({ cls := "java/lang/Object", name := "<init>", desc := "()V" } : Jvm.MethodName) object_method_1_code (1 : Nat) (Option.none : Option Jvm.ClassFile.FieldType)).before args0 about1 = true := code_word (m := ⟨0, 0⟩) (meth := k0m0) (c := k0c0) (by decide +kernel) rfl rfl rfl (by decide +kernel)
set_option maxRecDepth 65536 in
theorem w_c4 : (Jvm.Cond.code ({ cls := "com/example/clepsydra/clepsydra/PermitCost$Nanos", name := "roundedUp", desc := "()J" } : Jvm.MethodName) prog_14_method_2_code (1 : Nat) (Option.some Jvm.ClassFile.FieldType.long)).before args0 about1 = true := code_word (m := ⟨3, 1⟩) (meth := k3m1) (c := k3c1) (by decide +kernel) rfl rfl rfl (by decide +kernel)
def codes1 : List Jvm.Cond := [Jvm.Cond.code x code maxLocals ret, Jvm.Cond.code ({ cls := "com/example/clepsydra/clepsydra/PermitCost$Nanos", name := "<init>", desc := "(JJ)V" } : Jvm.MethodName) prog_14_method_1_code (5 : Nat) (Option.none : Option Jvm.ClassFile.FieldType), Jvm.Cond.code ({ cls := "java/lang/Record", name := "<init>", desc := "()V" } : Jvm.MethodName) jdk_30_method_1_code (1 : Nat) (Option.none : Option Jvm.ClassFile.FieldType), Jvm.Cond.code ({ cls := "java/lang/Object", name := "<init>", desc := "()V" } : Jvm.MethodName) object_method_1_code (1 : Nat) (Option.none : Option Jvm.ClassFile.FieldType), Jvm.Cond.code ({ cls := "com/example/clepsydra/clepsydra/PermitCost$Nanos", name := "roundedUp", desc := "()J" } : Jvm.MethodName) prog_14_method_2_code (1 : Nat) (Option.some Jvm.ClassFile.FieldType.long)]
set_option maxRecDepth 65536 in
theorem codes_eq : words1.filter isCode = codes1 := rfl
theorem w_codes : ∀ c ∈ words1.filter isCode, c.before args0 about1 = true := by
  rw [codes_eq]
  intro c hc
  simp only [codes1, List.mem_cons, List.not_mem_nil, or_false] at hc
  rcases hc with rfl | rfl | rfl | rfl | rfl
  · exact w_c0
  · exact w_c1
  · exact w_c2
  · exact w_c3
  · exact w_c4
set_option maxRecDepth 65536 in
theorem w_t1 : (words1.take 24).all (fun c => isCode c || c.before args0 about1) = true := by decide +kernel
set_option maxRecDepth 65536 in
theorem w_t2 : (words1.drop 24).all (fun c => isCode c || c.before args0 about1) = true := by decide +kernel
theorem w_tables : (allAtoms (Jvm.Cond.code x code maxLocals ret :: tables_1)).before args0 about1 = true := by
  rw [allAtoms_all]
  show words1.all (fun c => c.before args0 about1) = true
  refine all_split ?_ w_codes
  rw [← List.take_append_drop 24 words1, List.all_append, w_t1, w_t2]
  rfl
set_option maxRecDepth 65536 in
theorem w_case : (Jvm.Cond.and given_1 narrow_1).before args0 about1 = true := by decide +kernel
theorem w_applies : (headSpec (Jvm.Cond.code x code maxLocals ret :: tables_1) room_1).applies x e0.platform about1 = true :=
  (Spec.applies_iff w_frames).mpr ⟨w_running, w_runnable, w_alone, w_named, w_hears, w_ripe, w_room, w_tables⟩
theorem atStart : AtStart classFile x code maxLocals ret World_1 tables_1 room_1 Calls_1 rest_1 Pre_1 launch0 p0 e0 about1 theMethod args0 below0 :=
  ⟨lists_1, trivial, launch0.admits_env _ _ _, launch0.least_env, fairChoices_fair.cas, fairChoices_fair.clock, w_frames, w_args, w_heap, w_applies, trivial, trivial, w_case⟩
end start1
theorem witness_1 : WitnessClaimed_1 := ⟨start1.p0, start1.e0, start1.about1, start1.theMethod, start1.args0, start1.below0, start1.atStart⟩
end Jvm.Pilot.@@N@@
