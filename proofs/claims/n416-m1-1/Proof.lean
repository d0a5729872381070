import JvmDerived
import JvmDerived.Pilot.@@N@@Statement
import JvmDerived.Pilot.@@N@@Code
set_option linter.unusedVariables false
set_option linter.unusedSimpArgs false
namespace Jvm.Pilot.@@N@@
open Jvm Jvm.ClassFile Sem Op Lib Jvm.Free Jvm.Stand Jvm.LawKit Jvm.RoadKit Bundle Jvm.Pilot.@@N@@.Jvm.D
/-- what a walk must still come to -/
def OwnG (p : Program) (e : Env) (below : List Frame) (s : State) (C S : Nat) (Q : Option Value → Heap → List Loc → Prop) (A : State) : Prop :=
  ∃ s₂ o, Steps p.tables e below A s₂ ∧ s₂.status = .running ∧ Ended s₂ below o ∧ ∃ v L, o = .returned v ∧ Q v s₂.heap L ∧ FrameEnd s o s₂ L C S
theorem OwnG.go {p : Program} {e : Env} {below : List Frame} {s : State} {C S : Nat} {Q : Option Value → Heap → List Loc → Prop} {A B : State} (h : ∀ t, Steps p.tables e below A t → Steps p.tables e below B t) (k : OwnG p e below s C S Q A) : OwnG p e below s C S Q B := by
  obtain ⟨s₂, o, k1, k2⟩ := k
  exact ⟨s₂, o, h _ k1, k2⟩
theorem own_fin {p : Program} {l : Launch} {e : Env} {R : Room} {s : State} {m : MethodId} {args : Array Value} {below : List Frame} {meth : Method} {c : Code} {T : State} {locs : List Loc} {cells slots : Nat}
    (X : Stand p l e R s m args below meth c T locs cells slots) {C S : Nat} {Q : Option Value → Heap → List Loc → Prop} (hlocks : meth.locks = false) {v : Option Value} (hv : meth.sig.returnType = none → v = none) {A : State}
    (hst : ∀ fs, (∀ (f : JFrame) (acts : List Action), f.method = m → f.locked = none → f.entered = [] → (doReturn e (T.setTop f) acts v).1 = T.setFrames fs) → Steps p.tables e below A (T.setFrames fs))
    (hQ : Q v T.heap locs) (hc : cells ≤ C) (hs : slots ≤ S) : OwnG p e below s C S Q A := by
  obtain ⟨fs, hr, hrun, hended, hW, hsame⟩ := X.leave (v := v) hv hlocks
  exact ⟨_, _, hst fs hr, hrun, hended, v, locs, rfl, hQ, ⟨_, rfl⟩, hW, hsame.mono hc hs⟩
theorem own_lrem {p : Program} {l : Launch} {e : Env} {R : Room} {s : State} {m : MethodId} {args : Array Value} {below : List Frame} {meth : Method} {c : Code} {T : State} {locs : List Loc} {cells slots : Nat} {g : JFrame} {target : State}
    (X : Stand p l e R s m args below meth c T locs cells slots) (hx : p.tables.exec = Jvm.exec) (hg : g.method = m) {x y : Int64} {rest : List Value} (hd : decode c.code g.pc = .ok (.lrem, 1)) (hs : g.stack = .long y :: .long x :: rest) (hy : y ≠ 0)
    (hr : Steps p.tables e below (T.setTop { g with pc := g.pc + 1, stack := .long (x % y) :: rest }) target) : Steps p.tables e below (T.setTop g) target := by
  have q : x - x / y * y = x % y := lrem_mod x y
  exact XS.lrem X.here hx hg hd hs hy (by rw [q]; exact hr)
theorem own_lclt {a b : Int64} : lcmpW a b < 0 ↔ a < b := by
  unfold lcmpW
  by_cases h1 : a > b
  · simp only [h1, if_true]
    refine ⟨fun h => absurd h (by decide), fun h => ?_⟩
    rw [Int64.lt_iff_toInt_lt] at h; rw [gt_iff_lt, Int64.lt_iff_toInt_lt] at h1; omega
  · by_cases h2 : a = b
    · subst h2; simp [h1]
    · simp only [h1, h2, if_false]
      refine ⟨fun _ => ?_, fun _ => by decide⟩
      rw [gt_iff_lt, Int64.lt_iff_toInt_lt] at h1; rw [Int64.lt_iff_toInt_lt]
      have : a.toInt ≠ b.toInt := fun q => h2 (Int64.toInt_inj.mp q)
      omega
theorem own_lceq {a b : Int64} : lcmpW a b = 0 ↔ a = b := by
  unfold lcmpW
  by_cases h1 : a > b
  · simp only [h1, if_true]
    refine ⟨fun h => absurd h (by decide), fun h => ?_⟩
    subst h; rw [gt_iff_lt, Int64.lt_iff_toInt_lt] at h1; omega
  · by_cases h2 : a = b
    · subst h2; simp [h1]
    · simp only [h1, h2, if_false]
      exact ⟨fun h => absurd h (by decide), fun h => h.elim⟩
theorem own_lcgt {a b : Int64} : 0 < lcmpW a b ↔ b < a := by
  unfold lcmpW
  by_cases h1 : a > b
  · rw [if_pos h1]
    exact ⟨fun _ => h1, fun _ => by decide⟩
  · rw [if_neg h1]
    refine ⟨fun h => ?_, fun h => absurd h h1⟩
    by_cases h2 : a = b
    · rw [if_pos h2] at h; exact absurd h (by decide)
    · rw [if_neg h2] at h; exact absurd h (by decide)

theorem own_mask32 (x m : Int32) (h : 0 ≤ m.toInt) : 0 ≤ (x &&& m).toInt ∧ (x &&& m).toInt ≤ m.toInt := by
  have e : (x &&& m).toInt = (x.toBitVec &&& m.toBitVec).toInt := rfl
  have em : m.toInt = m.toBitVec.toInt := rfl
  have h1 : (x.toBitVec &&& m.toBitVec).toNat ≤ m.toBitVec.toNat := by rw [BitVec.toNat_and]; exact Nat.and_le_right
  have h2 := m.toBitVec.isLt
  rw [BitVec.toInt_eq_toNat_cond] at e em
  rw [em] at h
  rw [e, em]
  generalize (x.toBitVec &&& m.toBitVec).toNat = u at *
  generalize m.toBitVec.toNat = w at *
  split at h <;> split <;> omega
theorem own_mask64 (x m : Int64) (h : 0 ≤ m.toInt) : 0 ≤ (x &&& m).toInt ∧ (x &&& m).toInt ≤ m.toInt := by
  have e : (x &&& m).toInt = (x.toBitVec &&& m.toBitVec).toInt := rfl
  have em : m.toInt = m.toBitVec.toInt := rfl
  have h1 : (x.toBitVec &&& m.toBitVec).toNat ≤ m.toBitVec.toNat := by rw [BitVec.toNat_and]; exact Nat.and_le_right
  have h2 := m.toBitVec.isLt
  rw [BitVec.toInt_eq_toNat_cond] at e em
  rw [em] at h
  rw [e, em]
  generalize (x.toBitVec &&& m.toBitVec).toNat = u at *
  generalize m.toBitVec.toNat = w at *
  split at h <;> split <;> omega
theorem own_add32 {a b : Int32} (h1 : -2147483648 ≤ a.toInt + b.toInt) (h2 : a.toInt + b.toInt < 2147483648) : (a + b).toInt = a.toInt + b.toInt := by
  rw [Int32.toInt_add, Int.bmod_def]; omega
theorem own_sub32 {a b : Int32} (h1 : -2147483648 ≤ a.toInt - b.toInt) (h2 : a.toInt - b.toInt < 2147483648) : (a - b).toInt = a.toInt - b.toInt := by
  rw [Int32.toInt_sub, Int.bmod_def]; omega
theorem own_add64 {a b : Int64} (h1 : -9223372036854775808 ≤ a.toInt + b.toInt) (h2 : a.toInt + b.toInt < 9223372036854775808) : (a + b).toInt = a.toInt + b.toInt := by
  rw [Int64.toInt_add, Int.bmod_def]; omega
theorem own_sub64 {a b : Int64} (h1 : -9223372036854775808 ≤ a.toInt - b.toInt) (h2 : a.toInt - b.toInt < 9223372036854775808) : (a - b).toInt = a.toInt - b.toInt := by
  rw [Int64.toInt_sub, Int.bmod_def]; omega
theorem own_mul64 {a b : Int64} (h1 : -9223372036854775808 ≤ a.toInt * b.toInt) (h2 : a.toInt * b.toInt < 9223372036854775808) : (a * b).toInt = a.toInt * b.toInt := by
  rw [Int64.toInt_mul, Int.bmod_def]
  generalize a.toInt * b.toInt = z at *
  omega
theorem own_rem32 {a b : Int32} (h1 : 0 ≤ a.toInt) (h2 : 0 < b.toInt) : (a % b).toInt = a.toInt % b.toInt := by
  rw [Int32.toInt_mod, Int.tmod_eq_emod_of_nonneg h1]
theorem own_rem64 {a b : Int64} (h1 : 0 ≤ a.toInt) (h2 : 0 < b.toInt) : (a % b).toInt = a.toInt % b.toInt := by
  rw [Int64.toInt_mod, Int.tmod_eq_emod_of_nonneg h1]


def isS (x : Int32) : Int32 := if x < 200 then 0 else if 299 < x then 0 else 1
theorem own_isS (x : Int32) : isS x = if 200 ≤ x.toInt ∧ x.toInt ≤ 299 then 1 else 0 := by
  have e1 : (200 : Int32).toInt = 200 := rfl
  have e2 : (299 : Int32).toInt = 299 := rfl
  unfold isS
  by_cases h1 : x < 200
  · rw [if_pos h1, if_neg]; rw [Int32.lt_iff_toInt_lt] at h1; omega
  · by_cases h2 : 299 < x
    · rw [if_neg h1, if_pos h2, if_neg]; rw [Int32.lt_iff_toInt_lt] at h1 h2; omega
    · rw [if_neg h1, if_neg h2, if_pos]; rw [Int32.lt_iff_toInt_lt] at h1 h2; omega
theorem own_div100 (x : Int32) : x / 100 = 2 ↔ 200 ≤ x.toInt ∧ x.toInt ≤ 299 := by
  have e1 : (100 : Int32).toInt = 100 := rfl
  have e2 : (2 : Int32).toInt = 2 := rfl
  have hb := Int32.toInt_lt x
  have hc := Int32.le_toInt x
  rw [← Int32.toInt_inj, Int32.toInt_div, e1, e2]
  rcases Int.le_total 0 x.toInt with h | h
  · rw [Int.tdiv_eq_ediv_of_nonneg h, Int.bmod_def]; omega
  · have e : x.toInt = -(-x.toInt) := by omega
    have h3 : x.toInt.tdiv 100 = -((-x.toInt) / 100) := by
      conv => lhs; rw [e]
      rw [Int.neg_tdiv, Int.tdiv_eq_ediv_of_nonneg (by omega)]
    rw [h3, Int.bmod_def]; omega
theorem own_t0 (x : Int32) (h : x / 100 = 2) : isS x = 1 := by rw [own_isS, if_pos ((own_div100 x).mp h)]
theorem own_f0 (x : Int32) (h : ¬ x / 100 = 2) : isS x = 0 := by rw [own_isS, if_neg (fun q => h ((own_div100 x).mpr q))]
theorem own_inside (t : Int32) : ¬ (isS ((200 : Int32) + ((t &&& (2147483647 : Int32)) % (100 : Int32))) = 0) := by
  have h := own_mask32 t 2147483647 (by decide)
  have e1 : (100 : Int32).toInt = 100 := rfl
  have e2 : (200 : Int32).toInt = 200 := rfl
  have h2 := own_rem32 (b := 100) h.1 (by decide)
  rw [e1] at h2
  have h3 : ((200 : Int32) + ((t &&& (2147483647 : Int32)) % (100 : Int32))).toInt = 200 + ((t &&& (2147483647 : Int32)) % (100 : Int32)).toInt := own_add32 (by omega) (by omega)
  rw [own_isS, if_pos (by omega)]; decide
theorem own_below (t : Int32) : isS ((199 : Int32) - ((t &&& (2147483647 : Int32)) % (1000 : Int32))) = 0 := by
  have h := own_mask32 t 2147483647 (by decide)
  have e1 : (1000 : Int32).toInt = 1000 := rfl
  have e2 : (199 : Int32).toInt = 199 := rfl
  have h2 := own_rem32 (b := 1000) h.1 (by decide)
  rw [e1] at h2
  have h3 : ((199 : Int32) - ((t &&& (2147483647 : Int32)) % (1000 : Int32))).toInt = 199 - ((t &&& (2147483647 : Int32)) % (1000 : Int32)).toInt := own_sub32 (by omega) (by omega)
  rw [own_isS, if_neg (by omega)]
theorem own_above (t : Int32) : isS ((300 : Int32) + ((t &&& (2147483647 : Int32)) % (1000 : Int32))) = 0 := by
  have h := own_mask32 t 2147483647 (by decide)
  have e1 : (1000 : Int32).toInt = 1000 := rfl
  have e2 : (300 : Int32).toInt = 300 := rfl
  have h2 := own_rem32 (b := 1000) h.1 (by decide)
  rw [e1] at h2
  have h3 : ((300 : Int32) + ((t &&& (2147483647 : Int32)) % (1000 : Int32))).toInt = 300 + ((t &&& (2147483647 : Int32)) % (1000 : Int32)).toInt := own_add32 (by omega) (by omega)
  rw [own_isS, if_neg (by omega)]

theorem d1_0 : decode prog_11_method_6_code 0 = .ok (.iload_n 0, 1) := by decide +kernel
theorem d1_1 : decode prog_11_method_6_code 1 = .ok (.sipush 200, 3) := by decide +kernel
theorem d1_4 : decode prog_11_method_6_code 4 = .ok (.if_icmp .lt 14, 3) := by decide +kernel
theorem d1_7 : decode prog_11_method_6_code 7 = .ok (.iload_n 0, 1) := by decide +kernel
theorem d1_8 : decode prog_11_method_6_code 8 = .ok (.sipush 299, 3) := by decide +kernel
theorem d1_11 : decode prog_11_method_6_code 11 = .ok (.if_icmp .gt 7, 3) := by decide +kernel
theorem d1_14 : decode prog_11_method_6_code 14 = .ok (.iconst 1, 1) := by decide +kernel
theorem d1_15 : decode prog_11_method_6_code 15 = .ok (.goto 4, 3) := by decide +kernel
theorem d1_18 : decode prog_11_method_6_code 18 = .ok (.iconst 0, 1) := by decide +kernel
theorem d1_19 : decode prog_11_method_6_code 19 = .ok (.ireturn, 1) := by decide +kernel
theorem pn_1 : plainName "com/example/answer_once/answeronce/model/Answer" = true := by first | (simp [plainName, overriddenIn]; done) | decide +kernel
theorem ef_rm1 (m : MethodId) (p1 : Int32) : entryFrame m #[(.int p1)] 1 = mkF m 0 #[.val (.int p1)] [] := by first | (simp [entryFrame, mkF, argsToLocals, Value.category]; done) | rfl
def Q1 (Z : State) (p1 : Int32) (h0 : Heap) (n0 : Nat) (v : Option Value) (h : Heap) (L : List Loc) : Prop := v = some (.int (isS p1)) ∧ Fr n0 L ∧ h = h0
set_option maxRecDepth 65536 in
set_option maxHeartbeats 40000000 in
theorem rm1 (l : Launch) (Z : State) (a0 : Array Value) (hw : ∀ d ∈ tables_1, d.before a0 Z = true) (ws : List Jvm.Cond) (p1 : Int32) (h0 : Heap) (n0 : Nat) (Z0 : n0 ≤ h0.size) :
    MetFree l (⟨"com/example/answer_once/answeronce/model/Answer", "isSuccess", "(I)Z"⟩ : MethodName) (head1 (Jvm.Cond.code (⟨"com/example/answer_once/answeronce/model/Answer", "isSuccess", "(I)Z"⟩ : MethodName) prog_11_method_6_code 1 (some .boolean) :: ws) ({ frames := 0, cells := 0, slots := 0, locals := 0 } : Room)) (fun a U => a = #[(.int p1)] ∧ Z.Warmed39 U.vm ∧ U.heap = h0) (fun _ _ _ _ _ => True) (fun _ U o U' => ∃ v L, o = .returned v ∧ Q1 Z p1 h0 n0 v U'.heap L ∧ FrameEnd U o U' L ({ frames := 0, cells := 0, slots := 0, locals := 0 } : Room).cells ({ frames := 0, cells := 0, slots := 0, locals := 0 } : Room).slots) := by
  refine MetFree.of_bodySF (plainFor_of_name pn_1) hisR ?_
  intro p e s m args below meth c s₁ Bd hml0 hP hK
  obtain ⟨rfl, hZ, hh⟩ := hP
  have hx := Bd.exec
  have hby := Bd.bytes
  have hml : c.maxLocals = 1 := hml0
  have hown : s.vm.findClass "com/example/answer_once/answeronce/model/Answer" = some m.cls := findClass_of_methodNamed Bd.named
  have hnm := (name_of_methodNamed Bd.named Bd.method).1
  have X0 : Stand p l e ({ frames := 0, cells := 0, slots := 0, locals := 0 } : Room) s m #[(.int p1)] below meth c s₁ [] 0 0 := Stand.of_body Bd
  have e0 : s₁.heap = h0 := by rw [← hh, Bd.state]; rfl
  have N0 := Fr.nil n0
  obtain ⟨G, hG⟩ : ∃ G : State → Prop, G = OwnG p e below s ({ frames := 0, cells := 0, slots := 0, locals := 0 } : Room).cells ({ frames := 0, cells := 0, slots := 0, locals := 0 } : Room).slots (Q1 Z p1 h0 n0) := ⟨_, rfl⟩
  have go : ∀ {A B : State}, (∀ t, Steps p.tables e below A t → Steps p.tables e below B t) → G A → G B := fun h k => by rw [hG] at k ⊢; exact OwnG.go h k
  suffices k0 : G (s₁.setTop (mkF m 0 #[.val (.int p1)] [])) by
    rw [hG] at k0; exact OwnG.go (fun t k => castTop (ef_rm1 m p1) k) k0
  refine go (fun _ k => XS.iloadN X0.here hx rfl (hb hby d1_0) rfl k) ?_
  show G (s₁.setTop (mkF m 1 #[.val (.int p1)] [(.int p1)]))
  refine go (fun _ k => XS.sipush X0.here hx rfl (hb hby d1_1) k) ?_
  show G (s₁.setTop (mkF m 4 #[.val (.int p1)] [(.int (200 : Int32)), (.int p1)]))
  by_cases hc4_1 : p1 < (200 : Int32)
  · refine go (fun _ k => XS.icmpYes X0.here hx rfl (pc0 := 4) (pc' := 18) rfl (hb hby d1_4) rfl (tlt hc4_1).1 (by decide) (by decide) k) ?_
    show G (s₁.setTop (mkF m 18 #[.val (.int p1)] []))
    refine go (fun _ k => XS.iconst X0.here hx rfl (hb hby d1_18) k) ?_
    show G (s₁.setTop (mkF m 19 #[.val (.int p1)] [(.int (0 : Int32))]))
    rw [hG]
    refine own_fin X0 Bd.notSynchronized (v := some (.int (0 : Int32))) (fun h => by rw [Bd.returns] at h; cases h) (fun fs hr => retOut X0 hx Bd.returns rfl (by simp [FieldType.isReference, Value.isRef]) (hb hby d1_19) hr) ?_ (by decide) (by decide)
    show Q1 Z p1 h0 n0 (some (.int (0 : Int32))) s₁.heap _
    rw [e0]
    exact ⟨by simp only [isS, if_pos hc4_1], N0, rfl⟩
  · refine go (fun _ k => XS.icmpNo X0.here hx rfl (hb hby d1_4) rfl (flt hc4_1).1 k) ?_
    show G (s₁.setTop (mkF m 7 #[.val (.int p1)] []))
    refine go (fun _ k => XS.iloadN X0.here hx rfl (hb hby d1_7) rfl k) ?_
    show G (s₁.setTop (mkF m 8 #[.val (.int p1)] [(.int p1)]))
    refine go (fun _ k => XS.sipush X0.here hx rfl (hb hby d1_8) k) ?_
    show G (s₁.setTop (mkF m 11 #[.val (.int p1)] [(.int (299 : Int32)), (.int p1)]))
    by_cases hc11_2 : (299 : Int32) < p1
    · refine go (fun _ k => XS.icmpYes X0.here hx rfl (pc0 := 11) (pc' := 18) rfl (hb hby d1_11) rfl (tlt hc11_2).2.2.1 (by decide) (by decide) k) ?_
      show G (s₁.setTop (mkF m 18 #[.val (.int p1)] []))
      refine go (fun _ k => XS.iconst X0.here hx rfl (hb hby d1_18) k) ?_
      show G (s₁.setTop (mkF m 19 #[.val (.int p1)] [(.int (0 : Int32))]))
      rw [hG]
      refine own_fin X0 Bd.notSynchronized (v := some (.int (0 : Int32))) (fun h => by rw [Bd.returns] at h; cases h) (fun fs hr => retOut X0 hx Bd.returns rfl (by simp [FieldType.isReference, Value.isRef]) (hb hby d1_19) hr) ?_ (by decide) (by decide)
      show Q1 Z p1 h0 n0 (some (.int (0 : Int32))) s₁.heap _
      rw [e0]
      exact ⟨by simp only [isS, if_neg hc4_1, if_pos hc11_2], N0, rfl⟩
    · refine go (fun _ k => XS.icmpNo X0.here hx rfl (hb hby d1_11) rfl (flt hc11_2).2.2.1 k) ?_
      show G (s₁.setTop (mkF m 14 #[.val (.int p1)] []))
      refine go (fun _ k => XS.iconst X0.here hx rfl (hb hby d1_14) k) ?_
      show G (s₁.setTop (mkF m 15 #[.val (.int p1)] [(.int (1 : Int32))]))
      refine go (fun _ k => XS.goto X0.here hx rfl (pc0 := 15) (pc' := 19) rfl (hb hby d1_15) (by decide) (by decide) k) ?_
      show G (s₁.setTop (mkF m 19 #[.val (.int p1)] [(.int (1 : Int32))]))
      rw [hG]
      refine own_fin X0 Bd.notSynchronized (v := some (.int (1 : Int32))) (fun h => by rw [Bd.returns] at h; cases h) (fun fs hr => retOut X0 hx Bd.returns rfl (by simp [FieldType.isReference, Value.isRef]) (hb hby d1_19) hr) ?_ (by decide) (by decide)
      show Q1 Z p1 h0 n0 (some (.int (1 : Int32))) s₁.heap _
      rw [e0]
      exact ⟨by simp only [isS, if_neg hc4_1, if_neg hc11_2], N0, rfl⟩

theorem pn_0 : plainName "com/example/answer_once/answeronce/model/AnswerIsSuccessPinLaw" = true := by first | (simp [plainName, overriddenIn]; done) | decide +kernel
theorem pd_0_0 : parseMethodDescriptor "(I)Z" = some ⟨[.int], some .boolean⟩ := by decide +kernel
theorem ef_rm0 (m : MethodId) (p1 : Int32) (p2 : Int32) : entryFrame m #[(.int p1), (.int p2)] maxLocals = mkF m 0 #[.val (.int p1), .val (.int p2), .unset, .unset, .unset, .unset] [] := by first | (simp [entryFrame, mkF, argsToLocals, Value.category, maxLocals]; done) | rfl
def Q0 (Z : State) (p1 : Int32) (p2 : Int32) (h0 : Heap) (n0 : Nat) (v : Option Value) (h : Heap) (L : List Loc) : Prop := v = some (.int (1 : Int32)) ∧ Fr n0 L
set_option maxRecDepth 65536 in
set_option maxHeartbeats 40000000 in
theorem rm0 (l : Launch) (Z : State) (a0 : Array Value) (hw : ∀ d ∈ tables_1, d.before a0 Z = true) (ws : List Jvm.Cond) (p1 : Int32) (p2 : Int32) (h0 : Heap) (n0 : Nat) (Z0 : n0 ≤ h0.size) :
    MetFree l x (head1 (Jvm.Cond.code x code maxLocals ret :: ws) room_1) (fun a U => a = #[(.int p1), (.int p2)] ∧ Z.Warmed39 U.vm ∧ U.heap = h0) (fun _ _ _ _ _ => True) (fun _ U o U' => ∃ v L, o = .returned v ∧ Q0 Z p1 p2 h0 n0 v U'.heap L ∧ FrameEnd U o U' L room_1.cells room_1.slots) := by
  refine MetFree.of_bodySF (plainFor_of_name pn_0) hisR ?_
  intro p e s m args below meth c s₁ Bd hml0 hP hK
  obtain ⟨rfl, hZ, hh⟩ := hP
  have hx := Bd.exec
  have hby := Bd.bytes
  have hml : c.maxLocals = 6 := hml0
  have hown : s.vm.findClass "com/example/answer_once/answeronce/model/AnswerIsSuccessPinLaw" = some m.cls := findClass_of_methodNamed Bd.named
  have hnm := (name_of_methodNamed Bd.named Bd.method).1
  have X0 : Stand p l e room_1 s m #[(.int p1), (.int p2)] below meth c s₁ [] 0 0 := Stand.of_body Bd
  have e0 : s₁.heap = h0 := by rw [← hh, Bd.state]; rfl
  have N0 := Fr.nil n0
  obtain ⟨G, hG⟩ : ∃ G : State → Prop, G = OwnG p e below s room_1.cells room_1.slots (Q0 Z p1 p2 h0 n0) := ⟨_, rfl⟩
  have go : ∀ {A B : State}, (∀ t, Steps p.tables e below A t → Steps p.tables e below B t) → G A → G B := fun h k => by rw [hG] at k ⊢; exact OwnG.go h k
  suffices k0 : G (s₁.setTop (mkF m 0 #[.val (.int p1), .val (.int p2), .unset, .unset, .unset, .unset] [])) by
    rw [hG] at k0; exact OwnG.go (fun t k => castTop (ef_rm0 m p1 p2) k) k0
  refine go (fun _ k => XS.iloadN X0.here hx rfl (hb hby at_0) rfl k) ?_
  show G (s₁.setTop (mkF m 1 #[.val (.int p1), .val (.int p2), .unset, .unset, .unset, .unset] [(.int p1)]))
  refine go (fun _ k => XS.bipush X0.here hx rfl (hb hby at_1) k) ?_
  show G (s₁.setTop (mkF m 3 #[.val (.int p1), .val (.int p2), .unset, .unset, .unset, .unset] [(.int (100 : Int32)), (.int p1)]))
  refine go (fun _ k => XS.idiv X0.here hx rfl (hb hby at_3) rfl (by decide) k) ?_
  show G (s₁.setTop (mkF m 4 #[.val (.int p1), .val (.int p2), .unset, .unset, .unset, .unset] [(.int (p1 / (100 : Int32)))]))
  refine go (fun _ k => XS.iconst X0.here hx rfl (hb hby at_4) k) ?_
  show G (s₁.setTop (mkF m 5 #[.val (.int p1), .val (.int p2), .unset, .unset, .unset, .unset] [(.int (2 : Int32)), (.int (p1 / (100 : Int32)))]))
  by_cases hc5_1 : (p1 / (100 : Int32)) = (2 : Int32)
  · refine go (fun _ k => XS.icmpNo X0.here hx rfl (hb hby at_5) rfl (teq hc5_1).2 k) ?_
    show G (s₁.setTop (mkF m 8 #[.val (.int p1), .val (.int p2), .unset, .unset, .unset, .unset] []))
    refine go (fun _ k => XS.iconst X0.here hx rfl (hb hby at_8) k) ?_
    show G (s₁.setTop (mkF m 9 #[.val (.int p1), .val (.int p2), .unset, .unset, .unset, .unset] [(.int (1 : Int32))]))
    refine go (fun _ k => XS.goto X0.here hx rfl (pc0 := 9) (pc' := 13) rfl (hb hby at_9) (by decide) (by decide) k) ?_
    show G (s₁.setTop (mkF m 13 #[.val (.int p1), .val (.int p2), .unset, .unset, .unset, .unset] [(.int (1 : Int32))]))
    refine go (fun _ k => XS.istoreN X0.here hx rfl (hb hby at_13) rfl (l' := #[.val (.int p1), .val (.int p2), .val (.int (1 : Int32)), .unset, .unset, .unset]) rfl k) ?_
    show G (s₁.setTop (mkF m 14 #[.val (.int p1), .val (.int p2), .val (.int (1 : Int32)), .unset, .unset, .unset] []))
    refine go (fun _ k => XS.iloadN X0.here hx rfl (hb hby at_14) rfl k) ?_
    show G (s₁.setTop (mkF m 15 #[.val (.int p1), .val (.int p2), .val (.int (1 : Int32)), .unset, .unset, .unset] [(.int p1)]))
    obtain ⟨_, _, ⟨T2, L2, k2, n2⟩, -, X2, ⟨Lc2, hQ2, l2, y2, z2⟩, st2⟩ := Jvm.LawKit.callS X0 hx (y := (⟨"com/example/answer_once/answeronce/model/Answer", "isSuccess", "(I)Z"⟩ : MethodName)) hown (mvT hZ (hw _ (List.mem_of_getElem? (i := 0) rfl))) (mvT hZ (hw _ (List.mem_of_getElem? (i := 1) rfl))) (mvT hZ (hw _ (List.mem_of_getElem? (i := 2) rfl))) (mvT hZ (hw _ (List.mem_of_getElem? (i := 3) rfl))) (by decide) (backOf (W := 0) (rm1 l Z a0 hw [] p1 h0 n0 Z0) hZ (hw _ (List.mem_of_getElem? (i := 3) rfl)) (hw _ (List.mem_of_getElem? (i := 2) rfl)) (by decide) (by decide)) (g := (mkF m 15 #[.val (.int p1), .val (.int p2), .val (.int (1 : Int32)), .unset, .unset, .unset] [(.int p1)])) rfl (by rw [hml]; rfl) (argsL := [(.int p1)]) (rest := []) (lenOf pd_0_0 rfl) rfl (by show 2 * 0 + _ ≤ _; exact Nat.le_of_eq rfl) (hb hby at_15) (fun _ _ => ⟨rfl, e0, (by decide : 0 + 0 ≤ _), (by decide : 0 + 0 ≤ _)⟩)
    dsimp only [Pt.U, Pt.locs, Pt.cells, Pt.slots] at X2 l2 y2 z2 st2 hQ2
    subst l2 y2 z2
    obtain ⟨rfl, N2q, e2⟩ := hQ2
    have N2 := Fr.app N0 N2q
    refine go st2 ?_
    show G (T2.setTop (mkF m 18 #[.val (.int p1), .val (.int p2), .val (.int (1 : Int32)), .unset, .unset, .unset] [(.int (isS p1))]))
    refine go (fun _ k => XS.iloadN X2.here hx rfl (hb hby at_18) rfl k) ?_
    show G (T2.setTop (mkF m 19 #[.val (.int p1), .val (.int p2), .val (.int (1 : Int32)), .unset, .unset, .unset] [(.int (1 : Int32)), (.int (isS p1))]))
    have hc3 : (isS p1) = (1 : Int32) := own_t0 _ hc5_1
    refine go (fun _ k => XS.icmpYes X2.here hx rfl (pc0 := 19) (pc' := 24) rfl (hb hby at_19) rfl (teq hc3).1 (by decide) (by decide) k) ?_
    show G (T2.setTop (mkF m 24 #[.val (.int p1), .val (.int p2), .val (.int (1 : Int32)), .unset, .unset, .unset] []))
    refine go (fun _ k => XS.sipush X2.here hx rfl (hb hby at_24) k) ?_
    show G (T2.setTop (mkF m 27 #[.val (.int p1), .val (.int p2), .val (.int (1 : Int32)), .unset, .unset, .unset] [(.int (200 : Int32))]))
    refine go (fun _ k => XS.iloadN X2.here hx rfl (hb hby at_27) rfl k) ?_
    show G (T2.setTop (mkF m 28 #[.val (.int p1), .val (.int p2), .val (.int (1 : Int32)), .unset, .unset, .unset] [(.int p2), (.int (200 : Int32))]))
    refine go (X2.ldcInt hx hown (mvT hZ (hw _ (List.mem_of_getElem? (i := 4) rfl))) (g := (mkF m 28 #[.val (.int p1), .val (.int p2), .val (.int (1 : Int32)), .unset, .unset, .unset] [(.int p2), (.int (200 : Int32))])) rfl (hb hby at_28)) ?_
    show G (T2.setTop (mkF m 30 #[.val (.int p1), .val (.int p2), .val (.int (1 : Int32)), .unset, .unset, .unset] [(.int (2147483647 : Int32)), (.int p2), (.int (200 : Int32))]))
    refine go (fun _ k => XS.iand X2.here hx rfl (hb hby at_30) rfl k) ?_
    show G (T2.setTop (mkF m 31 #[.val (.int p1), .val (.int p2), .val (.int (1 : Int32)), .unset, .unset, .unset] [(.int (p2 &&& (2147483647 : Int32))), (.int (200 : Int32))]))
    refine go (fun _ k => XS.bipush X2.here hx rfl (hb hby at_31) k) ?_
    show G (T2.setTop (mkF m 33 #[.val (.int p1), .val (.int p2), .val (.int (1 : Int32)), .unset, .unset, .unset] [(.int (100 : Int32)), (.int (p2 &&& (2147483647 : Int32))), (.int (200 : Int32))]))
    refine go (fun _ k => iremM X2 hx rfl (hb hby at_33) rfl (by decide) k) ?_
    show G (T2.setTop (mkF m 34 #[.val (.int p1), .val (.int p2), .val (.int (1 : Int32)), .unset, .unset, .unset] [(.int ((p2 &&& (2147483647 : Int32)) % (100 : Int32))), (.int (200 : Int32))]))
    refine go (fun _ k => XS.iadd X2.here hx rfl (hb hby at_34) rfl k) ?_
    show G (T2.setTop (mkF m 35 #[.val (.int p1), .val (.int p2), .val (.int (1 : Int32)), .unset, .unset, .unset] [(.int ((200 : Int32) + ((p2 &&& (2147483647 : Int32)) % (100 : Int32))))]))
    refine go (fun _ k => XS.istoreN X2.here hx rfl (hb hby at_35) rfl (l' := #[.val (.int p1), .val (.int p2), .val (.int (1 : Int32)), .val (.int ((200 : Int32) + ((p2 &&& (2147483647 : Int32)) % (100 : Int32)))), .unset, .unset]) rfl k) ?_
    show G (T2.setTop (mkF m 36 #[.val (.int p1), .val (.int p2), .val (.int (1 : Int32)), .val (.int ((200 : Int32) + ((p2 &&& (2147483647 : Int32)) % (100 : Int32)))), .unset, .unset] []))
    refine go (fun _ k => XS.iloadN X2.here hx rfl (hb hby at_36) rfl k) ?_
    show G (T2.setTop (mkF m 37 #[.val (.int p1), .val (.int p2), .val (.int (1 : Int32)), .val (.int ((200 : Int32) + ((p2 &&& (2147483647 : Int32)) % (100 : Int32)))), .unset, .unset] [(.int ((200 : Int32) + ((p2 &&& (2147483647 : Int32)) % (100 : Int32))))]))
    obtain ⟨_, _, ⟨T4, L4, k4, n4⟩, -, X4, ⟨Lc4, hQ4, l4, y4, z4⟩, st4⟩ := Jvm.LawKit.callS X2 hx (y := (⟨"com/example/answer_once/answeronce/model/Answer", "isSuccess", "(I)Z"⟩ : MethodName)) hown (mvT hZ (hw _ (List.mem_of_getElem? (i := 0) rfl))) (mvT hZ (hw _ (List.mem_of_getElem? (i := 1) rfl))) (mvT hZ (hw _ (List.mem_of_getElem? (i := 2) rfl))) (mvT hZ (hw _ (List.mem_of_getElem? (i := 3) rfl))) (by decide) (backOf (W := 0) (rm1 l Z a0 hw [] ((200 : Int32) + ((p2 &&& (2147483647 : Int32)) % (100 : Int32))) h0 n0 Z0) hZ (hw _ (List.mem_of_getElem? (i := 3) rfl)) (hw _ (List.mem_of_getElem? (i := 2) rfl)) (by decide) (by decide)) (g := (mkF m 37 #[.val (.int p1), .val (.int p2), .val (.int (1 : Int32)), .val (.int ((200 : Int32) + ((p2 &&& (2147483647 : Int32)) % (100 : Int32)))), .unset, .unset] [(.int ((200 : Int32) + ((p2 &&& (2147483647 : Int32)) % (100 : Int32))))])) rfl (by rw [hml]; rfl) (argsL := [(.int ((200 : Int32) + ((p2 &&& (2147483647 : Int32)) % (100 : Int32))))]) (rest := []) (lenOf pd_0_0 rfl) rfl (by show 2 * 0 + _ ≤ _; exact Nat.le_of_eq rfl) (hb hby at_37) (fun _ _ => ⟨rfl, e2, (by decide : 0 + 0 ≤ _), (by decide : 0 + 0 ≤ _)⟩)
    dsimp only [Pt.U, Pt.locs, Pt.cells, Pt.slots] at X4 l4 y4 z4 st4 hQ4
    subst l4 y4 z4
    obtain ⟨rfl, N4q, e4⟩ := hQ4
    have N4 := Fr.app N2 N4q
    refine go st4 ?_
    show G (T4.setTop (mkF m 40 #[.val (.int p1), .val (.int p2), .val (.int (1 : Int32)), .val (.int ((200 : Int32) + ((p2 &&& (2147483647 : Int32)) % (100 : Int32)))), .unset, .unset] [(.int (isS ((200 : Int32) + ((p2 &&& (2147483647 : Int32)) % (100 : Int32)))))]))
    have hc5 : ¬ ((isS ((200 : Int32) + ((p2 &&& (2147483647 : Int32)) % (100 : Int32)))) = (0 : Int32)) := own_inside _
    refine go (fun _ k => XS.ifYes X4.here hx rfl (pc0 := 40) (pc' := 45) rfl (hb hby at_40) rfl ((if0 _ _).trans (feq hc5).2) (by decide) (by decide) k) ?_
    show G (T4.setTop (mkF m 45 #[.val (.int p1), .val (.int p2), .val (.int (1 : Int32)), .val (.int ((200 : Int32) + ((p2 &&& (2147483647 : Int32)) % (100 : Int32)))), .unset, .unset] []))
    refine go (fun _ k => XS.sipush X4.here hx rfl (hb hby at_45) k) ?_
    show G (T4.setTop (mkF m 48 #[.val (.int p1), .val (.int p2), .val (.int (1 : Int32)), .val (.int ((200 : Int32) + ((p2 &&& (2147483647 : Int32)) % (100 : Int32)))), .unset, .unset] [(.int (199 : Int32))]))
    refine go (fun _ k => XS.iloadN X4.here hx rfl (hb hby at_48) rfl k) ?_
    show G (T4.setTop (mkF m 49 #[.val (.int p1), .val (.int p2), .val (.int (1 : Int32)), .val (.int ((200 : Int32) + ((p2 &&& (2147483647 : Int32)) % (100 : Int32)))), .unset, .unset] [(.int p2), (.int (199 : Int32))]))
    refine go (X4.ldcInt hx hown (mvT hZ (hw _ (List.mem_of_getElem? (i := 4) rfl))) (g := (mkF m 49 #[.val (.int p1), .val (.int p2), .val (.int (1 : Int32)), .val (.int ((200 : Int32) + ((p2 &&& (2147483647 : Int32)) % (100 : Int32)))), .unset, .unset] [(.int p2), (.int (199 : Int32))])) rfl (hb hby at_49)) ?_
    show G (T4.setTop (mkF m 51 #[.val (.int p1), .val (.int p2), .val (.int (1 : Int32)), .val (.int ((200 : Int32) + ((p2 &&& (2147483647 : Int32)) % (100 : Int32)))), .unset, .unset] [(.int (2147483647 : Int32)), (.int p2), (.int (199 : Int32))]))
    refine go (fun _ k => XS.iand X4.here hx rfl (hb hby at_51) rfl k) ?_
    show G (T4.setTop (mkF m 52 #[.val (.int p1), .val (.int p2), .val (.int (1 : Int32)), .val (.int ((200 : Int32) + ((p2 &&& (2147483647 : Int32)) % (100 : Int32)))), .unset, .unset] [(.int (p2 &&& (2147483647 : Int32))), (.int (199 : Int32))]))
    refine go (fun _ k => XS.sipush X4.here hx rfl (hb hby at_52) k) ?_
    show G (T4.setTop (mkF m 55 #[.val (.int p1), .val (.int p2), .val (.int (1 : Int32)), .val (.int ((200 : Int32) + ((p2 &&& (2147483647 : Int32)) % (100 : Int32)))), .unset, .unset] [(.int (1000 : Int32)), (.int (p2 &&& (2147483647 : Int32))), (.int (199 : Int32))]))
    refine go (fun _ k => iremM X4 hx rfl (hb hby at_55) rfl (by decide) k) ?_
    show G (T4.setTop (mkF m 56 #[.val (.int p1), .val (.int p2), .val (.int (1 : Int32)), .val (.int ((200 : Int32) + ((p2 &&& (2147483647 : Int32)) % (100 : Int32)))), .unset, .unset] [(.int ((p2 &&& (2147483647 : Int32)) % (1000 : Int32))), (.int (199 : Int32))]))
    refine go (fun _ k => XS.isub X4.here hx rfl (hb hby at_56) rfl k) ?_
    show G (T4.setTop (mkF m 57 #[.val (.int p1), .val (.int p2), .val (.int (1 : Int32)), .val (.int ((200 : Int32) + ((p2 &&& (2147483647 : Int32)) % (100 : Int32)))), .unset, .unset] [(.int ((199 : Int32) - ((p2 &&& (2147483647 : Int32)) % (1000 : Int32))))]))
    refine go (fun _ k => XS.istore X4.here hx rfl (hb hby at_57) rfl (l' := #[.val (.int p1), .val (.int p2), .val (.int (1 : Int32)), .val (.int ((200 : Int32) + ((p2 &&& (2147483647 : Int32)) % (100 : Int32)))), .val (.int ((199 : Int32) - ((p2 &&& (2147483647 : Int32)) % (1000 : Int32)))), .unset]) rfl k) ?_
    show G (T4.setTop (mkF m 59 #[.val (.int p1), .val (.int p2), .val (.int (1 : Int32)), .val (.int ((200 : Int32) + ((p2 &&& (2147483647 : Int32)) % (100 : Int32)))), .val (.int ((199 : Int32) - ((p2 &&& (2147483647 : Int32)) % (1000 : Int32)))), .unset] []))
    refine go (fun _ k => XS.sipush X4.here hx rfl (hb hby at_59) k) ?_
    show G (T4.setTop (mkF m 62 #[.val (.int p1), .val (.int p2), .val (.int (1 : Int32)), .val (.int ((200 : Int32) + ((p2 &&& (2147483647 : Int32)) % (100 : Int32)))), .val (.int ((199 : Int32) - ((p2 &&& (2147483647 : Int32)) % (1000 : Int32)))), .unset] [(.int (300 : Int32))]))
    refine go (fun _ k => XS.iloadN X4.here hx rfl (hb hby at_62) rfl k) ?_
    show G (T4.setTop (mkF m 63 #[.val (.int p1), .val (.int p2), .val (.int (1 : Int32)), .val (.int ((200 : Int32) + ((p2 &&& (2147483647 : Int32)) % (100 : Int32)))), .val (.int ((199 : Int32) - ((p2 &&& (2147483647 : Int32)) % (1000 : Int32)))), .unset] [(.int p2), (.int (300 : Int32))]))
    refine go (X4.ldcInt hx hown (mvT hZ (hw _ (List.mem_of_getElem? (i := 4) rfl))) (g := (mkF m 63 #[.val (.int p1), .val (.int p2), .val (.int (1 : Int32)), .val (.int ((200 : Int32) + ((p2 &&& (2147483647 : Int32)) % (100 : Int32)))), .val (.int ((199 : Int32) - ((p2 &&& (2147483647 : Int32)) % (1000 : Int32)))), .unset] [(.int p2), (.int (300 : Int32))])) rfl (hb hby at_63)) ?_
    show G (T4.setTop (mkF m 65 #[.val (.int p1), .val (.int p2), .val (.int (1 : Int32)), .val (.int ((200 : Int32) + ((p2 &&& (2147483647 : Int32)) % (100 : Int32)))), .val (.int ((199 : Int32) - ((p2 &&& (2147483647 : Int32)) % (1000 : Int32)))), .unset] [(.int (2147483647 : Int32)), (.int p2), (.int (300 : Int32))]))
    refine go (fun _ k => XS.iand X4.here hx rfl (hb hby at_65) rfl k) ?_
    show G (T4.setTop (mkF m 66 #[.val (.int p1), .val (.int p2), .val (.int (1 : Int32)), .val (.int ((200 : Int32) + ((p2 &&& (2147483647 : Int32)) % (100 : Int32)))), .val (.int ((199 : Int32) - ((p2 &&& (2147483647 : Int32)) % (1000 : Int32)))), .unset] [(.int (p2 &&& (2147483647 : Int32))), (.int (300 : Int32))]))
    refine go (fun _ k => XS.sipush X4.here hx rfl (hb hby at_66) k) ?_
    show G (T4.setTop (mkF m 69 #[.val (.int p1), .val (.int p2), .val (.int (1 : Int32)), .val (.int ((200 : Int32) + ((p2 &&& (2147483647 : Int32)) % (100 : Int32)))), .val (.int ((199 : Int32) - ((p2 &&& (2147483647 : Int32)) % (1000 : Int32)))), .unset] [(.int (1000 : Int32)), (.int (p2 &&& (2147483647 : Int32))), (.int (300 : Int32))]))
    refine go (fun _ k => iremM X4 hx rfl (hb hby at_69) rfl (by decide) k) ?_
    show G (T4.setTop (mkF m 70 #[.val (.int p1), .val (.int p2), .val (.int (1 : Int32)), .val (.int ((200 : Int32) + ((p2 &&& (2147483647 : Int32)) % (100 : Int32)))), .val (.int ((199 : Int32) - ((p2 &&& (2147483647 : Int32)) % (1000 : Int32)))), .unset] [(.int ((p2 &&& (2147483647 : Int32)) % (1000 : Int32))), (.int (300 : Int32))]))
    refine go (fun _ k => XS.iadd X4.here hx rfl (hb hby at_70) rfl k) ?_
    show G (T4.setTop (mkF m 71 #[.val (.int p1), .val (.int p2), .val (.int (1 : Int32)), .val (.int ((200 : Int32) + ((p2 &&& (2147483647 : Int32)) % (100 : Int32)))), .val (.int ((199 : Int32) - ((p2 &&& (2147483647 : Int32)) % (1000 : Int32)))), .unset] [(.int ((300 : Int32) + ((p2 &&& (2147483647 : Int32)) % (1000 : Int32))))]))
    refine go (fun _ k => XS.istore X4.here hx rfl (hb hby at_71) rfl (l' := #[.val (.int p1), .val (.int p2), .val (.int (1 : Int32)), .val (.int ((200 : Int32) + ((p2 &&& (2147483647 : Int32)) % (100 : Int32)))), .val (.int ((199 : Int32) - ((p2 &&& (2147483647 : Int32)) % (1000 : Int32)))), .val (.int ((300 : Int32) + ((p2 &&& (2147483647 : Int32)) % (1000 : Int32))))]) rfl k) ?_
    show G (T4.setTop (mkF m 73 #[.val (.int p1), .val (.int p2), .val (.int (1 : Int32)), .val (.int ((200 : Int32) + ((p2 &&& (2147483647 : Int32)) % (100 : Int32)))), .val (.int ((199 : Int32) - ((p2 &&& (2147483647 : Int32)) % (1000 : Int32)))), .val (.int ((300 : Int32) + ((p2 &&& (2147483647 : Int32)) % (1000 : Int32))))] []))
    refine go (fun _ k => XS.iload X4.here hx rfl (hb hby at_73) rfl k) ?_
    show G (T4.setTop (mkF m 75 #[.val (.int p1), .val (.int p2), .val (.int (1 : Int32)), .val (.int ((200 : Int32) + ((p2 &&& (2147483647 : Int32)) % (100 : Int32)))), .val (.int ((199 : Int32) - ((p2 &&& (2147483647 : Int32)) % (1000 : Int32)))), .val (.int ((300 : Int32) + ((p2 &&& (2147483647 : Int32)) % (1000 : Int32))))] [(.int ((199 : Int32) - ((p2 &&& (2147483647 : Int32)) % (1000 : Int32))))]))
    obtain ⟨_, _, ⟨T6, L6, k6, n6⟩, -, X6, ⟨Lc6, hQ6, l6, y6, z6⟩, st6⟩ := Jvm.LawKit.callS X4 hx (y := (⟨"com/example/answer_once/answeronce/model/Answer", "isSuccess", "(I)Z"⟩ : MethodName)) hown (mvT hZ (hw _ (List.mem_of_getElem? (i := 0) rfl))) (mvT hZ (hw _ (List.mem_of_getElem? (i := 1) rfl))) (mvT hZ (hw _ (List.mem_of_getElem? (i := 2) rfl))) (mvT hZ (hw _ (List.mem_of_getElem? (i := 3) rfl))) (by decide) (backOf (W := 0) (rm1 l Z a0 hw [] ((199 : Int32) - ((p2 &&& (2147483647 : Int32)) % (1000 : Int32))) h0 n0 Z0) hZ (hw _ (List.mem_of_getElem? (i := 3) rfl)) (hw _ (List.mem_of_getElem? (i := 2) rfl)) (by decide) (by decide)) (g := (mkF m 75 #[.val (.int p1), .val (.int p2), .val (.int (1 : Int32)), .val (.int ((200 : Int32) + ((p2 &&& (2147483647 : Int32)) % (100 : Int32)))), .val (.int ((199 : Int32) - ((p2 &&& (2147483647 : Int32)) % (1000 : Int32)))), .val (.int ((300 : Int32) + ((p2 &&& (2147483647 : Int32)) % (1000 : Int32))))] [(.int ((199 : Int32) - ((p2 &&& (2147483647 : Int32)) % (1000 : Int32))))])) rfl (by rw [hml]; rfl) (argsL := [(.int ((199 : Int32) - ((p2 &&& (2147483647 : Int32)) % (1000 : Int32))))]) (rest := []) (lenOf pd_0_0 rfl) rfl (by show 2 * 0 + _ ≤ _; exact Nat.le_of_eq rfl) (hb hby at_75) (fun _ _ => ⟨rfl, e4, (by decide : 0 + 0 ≤ _), (by decide : 0 + 0 ≤ _)⟩)
    dsimp only [Pt.U, Pt.locs, Pt.cells, Pt.slots] at X6 l6 y6 z6 st6 hQ6
    subst l6 y6 z6
    obtain ⟨rfl, N6q, e6⟩ := hQ6
    have N6 := Fr.app N4 N6q
    refine go st6 ?_
    show G (T6.setTop (mkF m 78 #[.val (.int p1), .val (.int p2), .val (.int (1 : Int32)), .val (.int ((200 : Int32) + ((p2 &&& (2147483647 : Int32)) % (100 : Int32)))), .val (.int ((199 : Int32) - ((p2 &&& (2147483647 : Int32)) % (1000 : Int32)))), .val (.int ((300 : Int32) + ((p2 &&& (2147483647 : Int32)) % (1000 : Int32))))] [(.int (isS ((199 : Int32) - ((p2 &&& (2147483647 : Int32)) % (1000 : Int32)))))]))
    have hc7 : (isS ((199 : Int32) - ((p2 &&& (2147483647 : Int32)) % (1000 : Int32)))) = (0 : Int32) := own_below _
    refine go (fun _ k => XS.ifNo X6.here hx rfl (hb hby at_78) rfl ((if0 _ _).trans (teq hc7).2) k) ?_
    show G (T6.setTop (mkF m 81 #[.val (.int p1), .val (.int p2), .val (.int (1 : Int32)), .val (.int ((200 : Int32) + ((p2 &&& (2147483647 : Int32)) % (100 : Int32)))), .val (.int ((199 : Int32) - ((p2 &&& (2147483647 : Int32)) % (1000 : Int32)))), .val (.int ((300 : Int32) + ((p2 &&& (2147483647 : Int32)) % (1000 : Int32))))] []))
    refine go (fun _ k => XS.iload X6.here hx rfl (hb hby at_81) rfl k) ?_
    show G (T6.setTop (mkF m 83 #[.val (.int p1), .val (.int p2), .val (.int (1 : Int32)), .val (.int ((200 : Int32) + ((p2 &&& (2147483647 : Int32)) % (100 : Int32)))), .val (.int ((199 : Int32) - ((p2 &&& (2147483647 : Int32)) % (1000 : Int32)))), .val (.int ((300 : Int32) + ((p2 &&& (2147483647 : Int32)) % (1000 : Int32))))] [(.int ((300 : Int32) + ((p2 &&& (2147483647 : Int32)) % (1000 : Int32))))]))
    obtain ⟨_, _, ⟨T8, L8, k8, n8⟩, -, X8, ⟨Lc8, hQ8, l8, y8, z8⟩, st8⟩ := Jvm.LawKit.callS X6 hx (y := (⟨"com/example/answer_once/answeronce/model/Answer", "isSuccess", "(I)Z"⟩ : MethodName)) hown (mvT hZ (hw _ (List.mem_of_getElem? (i := 0) rfl))) (mvT hZ (hw _ (List.mem_of_getElem? (i := 1) rfl))) (mvT hZ (hw _ (List.mem_of_getElem? (i := 2) rfl))) (mvT hZ (hw _ (List.mem_of_getElem? (i := 3) rfl))) (by decide) (backOf (W := 0) (rm1 l Z a0 hw [] ((300 : Int32) + ((p2 &&& (2147483647 : Int32)) % (1000 : Int32))) h0 n0 Z0) hZ (hw _ (List.mem_of_getElem? (i := 3) rfl)) (hw _ (List.mem_of_getElem? (i := 2) rfl)) (by decide) (by decide)) (g := (mkF m 83 #[.val (.int p1), .val (.int p2), .val (.int (1 : Int32)), .val (.int ((200 : Int32) + ((p2 &&& (2147483647 : Int32)) % (100 : Int32)))), .val (.int ((199 : Int32) - ((p2 &&& (2147483647 : Int32)) % (1000 : Int32)))), .val (.int ((300 : Int32) + ((p2 &&& (2147483647 : Int32)) % (1000 : Int32))))] [(.int ((300 : Int32) + ((p2 &&& (2147483647 : Int32)) % (1000 : Int32))))])) rfl (by rw [hml]; rfl) (argsL := [(.int ((300 : Int32) + ((p2 &&& (2147483647 : Int32)) % (1000 : Int32))))]) (rest := []) (lenOf pd_0_0 rfl) rfl (by show 2 * 0 + _ ≤ _; exact Nat.le_of_eq rfl) (hb hby at_83) (fun _ _ => ⟨rfl, e6, (by decide : 0 + 0 ≤ _), (by decide : 0 + 0 ≤ _)⟩)
    dsimp only [Pt.U, Pt.locs, Pt.cells, Pt.slots] at X8 l8 y8 z8 st8 hQ8
    subst l8 y8 z8
    obtain ⟨rfl, N8q, e8⟩ := hQ8
    have N8 := Fr.app N6 N8q
    refine go st8 ?_
    show G (T8.setTop (mkF m 86 #[.val (.int p1), .val (.int p2), .val (.int (1 : Int32)), .val (.int ((200 : Int32) + ((p2 &&& (2147483647 : Int32)) % (100 : Int32)))), .val (.int ((199 : Int32) - ((p2 &&& (2147483647 : Int32)) % (1000 : Int32)))), .val (.int ((300 : Int32) + ((p2 &&& (2147483647 : Int32)) % (1000 : Int32))))] [(.int (isS ((300 : Int32) + ((p2 &&& (2147483647 : Int32)) % (1000 : Int32)))))]))
    have hc9 : (isS ((300 : Int32) + ((p2 &&& (2147483647 : Int32)) % (1000 : Int32)))) = (0 : Int32) := own_above _
    refine go (fun _ k => XS.ifYes X8.here hx rfl (pc0 := 86) (pc' := 91) rfl (hb hby at_86) rfl ((if0 _ _).trans (teq hc9).1) (by decide) (by decide) k) ?_
    show G (T8.setTop (mkF m 91 #[.val (.int p1), .val (.int p2), .val (.int (1 : Int32)), .val (.int ((200 : Int32) + ((p2 &&& (2147483647 : Int32)) % (100 : Int32)))), .val (.int ((199 : Int32) - ((p2 &&& (2147483647 : Int32)) % (1000 : Int32)))), .val (.int ((300 : Int32) + ((p2 &&& (2147483647 : Int32)) % (1000 : Int32))))] []))
    refine go (fun _ k => XS.sipush X8.here hx rfl (hb hby at_91) k) ?_
    show G (T8.setTop (mkF m 94 #[.val (.int p1), .val (.int p2), .val (.int (1 : Int32)), .val (.int ((200 : Int32) + ((p2 &&& (2147483647 : Int32)) % (100 : Int32)))), .val (.int ((199 : Int32) - ((p2 &&& (2147483647 : Int32)) % (1000 : Int32)))), .val (.int ((300 : Int32) + ((p2 &&& (2147483647 : Int32)) % (1000 : Int32))))] [(.int (200 : Int32))]))
    obtain ⟨_, _, ⟨T10, L10, k10, n10⟩, -, X10, ⟨Lc10, hQ10, l10, y10, z10⟩, st10⟩ := Jvm.LawKit.callS X8 hx (y := (⟨"com/example/answer_once/answeronce/model/Answer", "isSuccess", "(I)Z"⟩ : MethodName)) hown (mvT hZ (hw _ (List.mem_of_getElem? (i := 0) rfl))) (mvT hZ (hw _ (List.mem_of_getElem? (i := 1) rfl))) (mvT hZ (hw _ (List.mem_of_getElem? (i := 2) rfl))) (mvT hZ (hw _ (List.mem_of_getElem? (i := 3) rfl))) (by decide) (backOf (W := 0) (rm1 l Z a0 hw [] (200 : Int32) h0 n0 Z0) hZ (hw _ (List.mem_of_getElem? (i := 3) rfl)) (hw _ (List.mem_of_getElem? (i := 2) rfl)) (by decide) (by decide)) (g := (mkF m 94 #[.val (.int p1), .val (.int p2), .val (.int (1 : Int32)), .val (.int ((200 : Int32) + ((p2 &&& (2147483647 : Int32)) % (100 : Int32)))), .val (.int ((199 : Int32) - ((p2 &&& (2147483647 : Int32)) % (1000 : Int32)))), .val (.int ((300 : Int32) + ((p2 &&& (2147483647 : Int32)) % (1000 : Int32))))] [(.int (200 : Int32))])) rfl (by rw [hml]; rfl) (argsL := [(.int (200 : Int32))]) (rest := []) (lenOf pd_0_0 rfl) rfl (by show 2 * 0 + _ ≤ _; exact Nat.le_of_eq rfl) (hb hby at_94) (fun _ _ => ⟨rfl, e8, (by decide : 0 + 0 ≤ _), (by decide : 0 + 0 ≤ _)⟩)
    dsimp only [Pt.U, Pt.locs, Pt.cells, Pt.slots] at X10 l10 y10 z10 st10 hQ10
    subst l10 y10 z10
    obtain ⟨rfl, N10q, e10⟩ := hQ10
    have N10 := Fr.app N8 N10q
    refine go st10 ?_
    show G (T10.setTop (mkF m 97 #[.val (.int p1), .val (.int p2), .val (.int (1 : Int32)), .val (.int ((200 : Int32) + ((p2 &&& (2147483647 : Int32)) % (100 : Int32)))), .val (.int ((199 : Int32) - ((p2 &&& (2147483647 : Int32)) % (1000 : Int32)))), .val (.int ((300 : Int32) + ((p2 &&& (2147483647 : Int32)) % (1000 : Int32))))] [(.int (isS (200 : Int32)))]))
    have hc11 : ¬ ((isS (200 : Int32)) = (0 : Int32)) := by decide
    refine go (fun _ k => XS.ifNo X10.here hx rfl (hb hby at_97) rfl ((if0 _ _).trans (feq hc11).1) k) ?_
    show G (T10.setTop (mkF m 100 #[.val (.int p1), .val (.int p2), .val (.int (1 : Int32)), .val (.int ((200 : Int32) + ((p2 &&& (2147483647 : Int32)) % (100 : Int32)))), .val (.int ((199 : Int32) - ((p2 &&& (2147483647 : Int32)) % (1000 : Int32)))), .val (.int ((300 : Int32) + ((p2 &&& (2147483647 : Int32)) % (1000 : Int32))))] []))
    refine go (fun _ k => XS.sipush X10.here hx rfl (hb hby at_100) k) ?_
    show G (T10.setTop (mkF m 103 #[.val (.int p1), .val (.int p2), .val (.int (1 : Int32)), .val (.int ((200 : Int32) + ((p2 &&& (2147483647 : Int32)) % (100 : Int32)))), .val (.int ((199 : Int32) - ((p2 &&& (2147483647 : Int32)) % (1000 : Int32)))), .val (.int ((300 : Int32) + ((p2 &&& (2147483647 : Int32)) % (1000 : Int32))))] [(.int (299 : Int32))]))
    obtain ⟨_, _, ⟨T12, L12, k12, n12⟩, -, X12, ⟨Lc12, hQ12, l12, y12, z12⟩, st12⟩ := Jvm.LawKit.callS X10 hx (y := (⟨"com/example/answer_once/answeronce/model/Answer", "isSuccess", "(I)Z"⟩ : MethodName)) hown (mvT hZ (hw _ (List.mem_of_getElem? (i := 0) rfl))) (mvT hZ (hw _ (List.mem_of_getElem? (i := 1) rfl))) (mvT hZ (hw _ (List.mem_of_getElem? (i := 2) rfl))) (mvT hZ (hw _ (List.mem_of_getElem? (i := 3) rfl))) (by decide) (backOf (W := 0) (rm1 l Z a0 hw [] (299 : Int32) h0 n0 Z0) hZ (hw _ (List.mem_of_getElem? (i := 3) rfl)) (hw _ (List.mem_of_getElem? (i := 2) rfl)) (by decide) (by decide)) (g := (mkF m 103 #[.val (.int p1), .val (.int p2), .val (.int (1 : Int32)), .val (.int ((200 : Int32) + ((p2 &&& (2147483647 : Int32)) % (100 : Int32)))), .val (.int ((199 : Int32) - ((p2 &&& (2147483647 : Int32)) % (1000 : Int32)))), .val (.int ((300 : Int32) + ((p2 &&& (2147483647 : Int32)) % (1000 : Int32))))] [(.int (299 : Int32))])) rfl (by rw [hml]; rfl) (argsL := [(.int (299 : Int32))]) (rest := []) (lenOf pd_0_0 rfl) rfl (by show 2 * 0 + _ ≤ _; exact Nat.le_of_eq rfl) (hb hby at_103) (fun _ _ => ⟨rfl, e10, (by decide : 0 + 0 ≤ _), (by decide : 0 + 0 ≤ _)⟩)
    dsimp only [Pt.U, Pt.locs, Pt.cells, Pt.slots] at X12 l12 y12 z12 st12 hQ12
    subst l12 y12 z12
    obtain ⟨rfl, N12q, e12⟩ := hQ12
    have N12 := Fr.app N10 N12q
    refine go st12 ?_
    show G (T12.setTop (mkF m 106 #[.val (.int p1), .val (.int p2), .val (.int (1 : Int32)), .val (.int ((200 : Int32) + ((p2 &&& (2147483647 : Int32)) % (100 : Int32)))), .val (.int ((199 : Int32) - ((p2 &&& (2147483647 : Int32)) % (1000 : Int32)))), .val (.int ((300 : Int32) + ((p2 &&& (2147483647 : Int32)) % (1000 : Int32))))] [(.int (isS (299 : Int32)))]))
    have hc13 : ¬ ((isS (299 : Int32)) = (0 : Int32)) := by decide
    refine go (fun _ k => XS.ifNo X12.here hx rfl (hb hby at_106) rfl ((if0 _ _).trans (feq hc13).1) k) ?_
    show G (T12.setTop (mkF m 109 #[.val (.int p1), .val (.int p2), .val (.int (1 : Int32)), .val (.int ((200 : Int32) + ((p2 &&& (2147483647 : Int32)) % (100 : Int32)))), .val (.int ((199 : Int32) - ((p2 &&& (2147483647 : Int32)) % (1000 : Int32)))), .val (.int ((300 : Int32) + ((p2 &&& (2147483647 : Int32)) % (1000 : Int32))))] []))
    refine go (fun _ k => XS.sipush X12.here hx rfl (hb hby at_109) k) ?_
    show G (T12.setTop (mkF m 112 #[.val (.int p1), .val (.int p2), .val (.int (1 : Int32)), .val (.int ((200 : Int32) + ((p2 &&& (2147483647 : Int32)) % (100 : Int32)))), .val (.int ((199 : Int32) - ((p2 &&& (2147483647 : Int32)) % (1000 : Int32)))), .val (.int ((300 : Int32) + ((p2 &&& (2147483647 : Int32)) % (1000 : Int32))))] [(.int (199 : Int32))]))
    obtain ⟨_, _, ⟨T14, L14, k14, n14⟩, -, X14, ⟨Lc14, hQ14, l14, y14, z14⟩, st14⟩ := Jvm.LawKit.callS X12 hx (y := (⟨"com/example/answer_once/answeronce/model/Answer", "isSuccess", "(I)Z"⟩ : MethodName)) hown (mvT hZ (hw _ (List.mem_of_getElem? (i := 0) rfl))) (mvT hZ (hw _ (List.mem_of_getElem? (i := 1) rfl))) (mvT hZ (hw _ (List.mem_of_getElem? (i := 2) rfl))) (mvT hZ (hw _ (List.mem_of_getElem? (i := 3) rfl))) (by decide) (backOf (W := 0) (rm1 l Z a0 hw [] (199 : Int32) h0 n0 Z0) hZ (hw _ (List.mem_of_getElem? (i := 3) rfl)) (hw _ (List.mem_of_getElem? (i := 2) rfl)) (by decide) (by decide)) (g := (mkF m 112 #[.val (.int p1), .val (.int p2), .val (.int (1 : Int32)), .val (.int ((200 : Int32) + ((p2 &&& (2147483647 : Int32)) % (100 : Int32)))), .val (.int ((199 : Int32) - ((p2 &&& (2147483647 : Int32)) % (1000 : Int32)))), .val (.int ((300 : Int32) + ((p2 &&& (2147483647 : Int32)) % (1000 : Int32))))] [(.int (199 : Int32))])) rfl (by rw [hml]; rfl) (argsL := [(.int (199 : Int32))]) (rest := []) (lenOf pd_0_0 rfl) rfl (by show 2 * 0 + _ ≤ _; exact Nat.le_of_eq rfl) (hb hby at_112) (fun _ _ => ⟨rfl, e12, (by decide : 0 + 0 ≤ _), (by decide : 0 + 0 ≤ _)⟩)
    dsimp only [Pt.U, Pt.locs, Pt.cells, Pt.slots] at X14 l14 y14 z14 st14 hQ14
    subst l14 y14 z14
    obtain ⟨rfl, N14q, e14⟩ := hQ14
    have N14 := Fr.app N12 N14q
    refine go st14 ?_
    show G (T14.setTop (mkF m 115 #[.val (.int p1), .val (.int p2), .val (.int (1 : Int32)), .val (.int ((200 : Int32) + ((p2 &&& (2147483647 : Int32)) % (100 : Int32)))), .val (.int ((199 : Int32) - ((p2 &&& (2147483647 : Int32)) % (1000 : Int32)))), .val (.int ((300 : Int32) + ((p2 &&& (2147483647 : Int32)) % (1000 : Int32))))] [(.int (isS (199 : Int32)))]))
    have hc15 : (isS (199 : Int32)) = (0 : Int32) := by decide
    refine go (fun _ k => XS.ifNo X14.here hx rfl (hb hby at_115) rfl ((if0 _ _).trans (teq hc15).2) k) ?_
    show G (T14.setTop (mkF m 118 #[.val (.int p1), .val (.int p2), .val (.int (1 : Int32)), .val (.int ((200 : Int32) + ((p2 &&& (2147483647 : Int32)) % (100 : Int32)))), .val (.int ((199 : Int32) - ((p2 &&& (2147483647 : Int32)) % (1000 : Int32)))), .val (.int ((300 : Int32) + ((p2 &&& (2147483647 : Int32)) % (1000 : Int32))))] []))
    refine go (fun _ k => XS.sipush X14.here hx rfl (hb hby at_118) k) ?_
    show G (T14.setTop (mkF m 121 #[.val (.int p1), .val (.int p2), .val (.int (1 : Int32)), .val (.int ((200 : Int32) + ((p2 &&& (2147483647 : Int32)) % (100 : Int32)))), .val (.int ((199 : Int32) - ((p2 &&& (2147483647 : Int32)) % (1000 : Int32)))), .val (.int ((300 : Int32) + ((p2 &&& (2147483647 : Int32)) % (1000 : Int32))))] [(.int (300 : Int32))]))
    obtain ⟨_, _, ⟨T16, L16, k16, n16⟩, -, X16, ⟨Lc16, hQ16, l16, y16, z16⟩, st16⟩ := Jvm.LawKit.callS X14 hx (y := (⟨"com/example/answer_once/answeronce/model/Answer", "isSuccess", "(I)Z"⟩ : MethodName)) hown (mvT hZ (hw _ (List.mem_of_getElem? (i := 0) rfl))) (mvT hZ (hw _ (List.mem_of_getElem? (i := 1) rfl))) (mvT hZ (hw _ (List.mem_of_getElem? (i := 2) rfl))) (mvT hZ (hw _ (List.mem_of_getElem? (i := 3) rfl))) (by decide) (backOf (W := 0) (rm1 l Z a0 hw [] (300 : Int32) h0 n0 Z0) hZ (hw _ (List.mem_of_getElem? (i := 3) rfl)) (hw _ (List.mem_of_getElem? (i := 2) rfl)) (by decide) (by decide)) (g := (mkF m 121 #[.val (.int p1), .val (.int p2), .val (.int (1 : Int32)), .val (.int ((200 : Int32) + ((p2 &&& (2147483647 : Int32)) % (100 : Int32)))), .val (.int ((199 : Int32) - ((p2 &&& (2147483647 : Int32)) % (1000 : Int32)))), .val (.int ((300 : Int32) + ((p2 &&& (2147483647 : Int32)) % (1000 : Int32))))] [(.int (300 : Int32))])) rfl (by rw [hml]; rfl) (argsL := [(.int (300 : Int32))]) (rest := []) (lenOf pd_0_0 rfl) rfl (by show 2 * 0 + _ ≤ _; exact Nat.le_of_eq rfl) (hb hby at_121) (fun _ _ => ⟨rfl, e14, (by decide : 0 + 0 ≤ _), (by decide : 0 + 0 ≤ _)⟩)
    dsimp only [Pt.U, Pt.locs, Pt.cells, Pt.slots] at X16 l16 y16 z16 st16 hQ16
    subst l16 y16 z16
    obtain ⟨rfl, N16q, e16⟩ := hQ16
    have N16 := Fr.app N14 N16q
    refine go st16 ?_
    show G (T16.setTop (mkF m 124 #[.val (.int p1), .val (.int p2), .val (.int (1 : Int32)), .val (.int ((200 : Int32) + ((p2 &&& (2147483647 : Int32)) % (100 : Int32)))), .val (.int ((199 : Int32) - ((p2 &&& (2147483647 : Int32)) % (1000 : Int32)))), .val (.int ((300 : Int32) + ((p2 &&& (2147483647 : Int32)) % (1000 : Int32))))] [(.int (isS (300 : Int32)))]))
    have hc17 : (isS (300 : Int32)) = (0 : Int32) := by decide
    refine go (fun _ k => XS.ifNo X16.here hx rfl (hb hby at_124) rfl ((if0 _ _).trans (teq hc17).2) k) ?_
    show G (T16.setTop (mkF m 127 #[.val (.int p1), .val (.int p2), .val (.int (1 : Int32)), .val (.int ((200 : Int32) + ((p2 &&& (2147483647 : Int32)) % (100 : Int32)))), .val (.int ((199 : Int32) - ((p2 &&& (2147483647 : Int32)) % (1000 : Int32)))), .val (.int ((300 : Int32) + ((p2 &&& (2147483647 : Int32)) % (1000 : Int32))))] []))
    refine go (fun _ k => XS.iconst X16.here hx rfl (hb hby at_127) k) ?_
    show G (T16.setTop (mkF m 128 #[.val (.int p1), .val (.int p2), .val (.int (1 : Int32)), .val (.int ((200 : Int32) + ((p2 &&& (2147483647 : Int32)) % (100 : Int32)))), .val (.int ((199 : Int32) - ((p2 &&& (2147483647 : Int32)) % (1000 : Int32)))), .val (.int ((300 : Int32) + ((p2 &&& (2147483647 : Int32)) % (1000 : Int32))))] [(.int (1 : Int32))]))
    refine go (fun _ k => XS.goto X16.here hx rfl (pc0 := 128) (pc' := 132) rfl (hb hby at_128) (by decide) (by decide) k) ?_
    show G (T16.setTop (mkF m 132 #[.val (.int p1), .val (.int p2), .val (.int (1 : Int32)), .val (.int ((200 : Int32) + ((p2 &&& (2147483647 : Int32)) % (100 : Int32)))), .val (.int ((199 : Int32) - ((p2 &&& (2147483647 : Int32)) % (1000 : Int32)))), .val (.int ((300 : Int32) + ((p2 &&& (2147483647 : Int32)) % (1000 : Int32))))] [(.int (1 : Int32))]))
    rw [hG]
    refine own_fin X16 Bd.notSynchronized (v := some (.int (1 : Int32))) (fun h => by rw [Bd.returns] at h; cases h) (fun fs hr => retOut X16 hx Bd.returns rfl (by simp [FieldType.isReference, Value.isRef]) (hb hby at_132) hr) ?_ (by decide) (by decide)
    show Q0 Z p1 p2 h0 n0 (some (.int (1 : Int32))) T16.heap _
    rw [e16]
    exact ⟨rfl, N16⟩
  · refine go (fun _ k => XS.icmpYes X0.here hx rfl (pc0 := 5) (pc' := 12) rfl (hb hby at_5) rfl (feq hc5_1).2 (by decide) (by decide) k) ?_
    show G (s₁.setTop (mkF m 12 #[.val (.int p1), .val (.int p2), .unset, .unset, .unset, .unset] []))
    refine go (fun _ k => XS.iconst X0.here hx rfl (hb hby at_12) k) ?_
    show G (s₁.setTop (mkF m 13 #[.val (.int p1), .val (.int p2), .unset, .unset, .unset, .unset] [(.int (0 : Int32))]))
    refine go (fun _ k => XS.istoreN X0.here hx rfl (hb hby at_13) rfl (l' := #[.val (.int p1), .val (.int p2), .val (.int (0 : Int32)), .unset, .unset, .unset]) rfl k) ?_
    show G (s₁.setTop (mkF m 14 #[.val (.int p1), .val (.int p2), .val (.int (0 : Int32)), .unset, .unset, .unset] []))
    refine go (fun _ k => XS.iloadN X0.here hx rfl (hb hby at_14) rfl k) ?_
    show G (s₁.setTop (mkF m 15 #[.val (.int p1), .val (.int p2), .val (.int (0 : Int32)), .unset, .unset, .unset] [(.int p1)]))
    obtain ⟨_, _, ⟨T18, L18, k18, n18⟩, -, X18, ⟨Lc18, hQ18, l18, y18, z18⟩, st18⟩ := Jvm.LawKit.callS X0 hx (y := (⟨"com/example/answer_once/answeronce/model/Answer", "isSuccess", "(I)Z"⟩ : MethodName)) hown (mvT hZ (hw _ (List.mem_of_getElem? (i := 0) rfl))) (mvT hZ (hw _ (List.mem_of_getElem? (i := 1) rfl))) (mvT hZ (hw _ (List.mem_of_getElem? (i := 2) rfl))) (mvT hZ (hw _ (List.mem_of_getElem? (i := 3) rfl))) (by decide) (backOf (W := 0) (rm1 l Z a0 hw [] p1 h0 n0 Z0) hZ (hw _ (List.mem_of_getElem? (i := 3) rfl)) (hw _ (List.mem_of_getElem? (i := 2) rfl)) (by decide) (by decide)) (g := (mkF m 15 #[.val (.int p1), .val (.int p2), .val (.int (0 : Int32)), .unset, .unset, .unset] [(.int p1)])) rfl (by rw [hml]; rfl) (argsL := [(.int p1)]) (rest := []) (lenOf pd_0_0 rfl) rfl (by show 2 * 0 + _ ≤ _; exact Nat.le_of_eq rfl) (hb hby at_15) (fun _ _ => ⟨rfl, e0, (by decide : 0 + 0 ≤ _), (by decide : 0 + 0 ≤ _)⟩)
    dsimp only [Pt.U, Pt.locs, Pt.cells, Pt.slots] at X18 l18 y18 z18 st18 hQ18
    subst l18 y18 z18
    obtain ⟨rfl, N18q, e18⟩ := hQ18
    have N18 := Fr.app N0 N18q
    refine go st18 ?_
    show G (T18.setTop (mkF m 18 #[.val (.int p1), .val (.int p2), .val (.int (0 : Int32)), .unset, .unset, .unset] [(.int (isS p1))]))
    refine go (fun _ k => XS.iloadN X18.here hx rfl (hb hby at_18) rfl k) ?_
    show G (T18.setTop (mkF m 19 #[.val (.int p1), .val (.int p2), .val (.int (0 : Int32)), .unset, .unset, .unset] [(.int (0 : Int32)), (.int (isS p1))]))
    have hc19 : (isS p1) = (0 : Int32) := own_f0 _ hc5_1
    refine go (fun _ k => XS.icmpYes X18.here hx rfl (pc0 := 19) (pc' := 24) rfl (hb hby at_19) rfl (teq hc19).1 (by decide) (by decide) k) ?_
    show G (T18.setTop (mkF m 24 #[.val (.int p1), .val (.int p2), .val (.int (0 : Int32)), .unset, .unset, .unset] []))
    refine go (fun _ k => XS.sipush X18.here hx rfl (hb hby at_24) k) ?_
    show G (T18.setTop (mkF m 27 #[.val (.int p1), .val (.int p2), .val (.int (0 : Int32)), .unset, .unset, .unset] [(.int (200 : Int32))]))
    refine go (fun _ k => XS.iloadN X18.here hx rfl (hb hby at_27) rfl k) ?_
    show G (T18.setTop (mkF m 28 #[.val (.int p1), .val (.int p2), .val (.int (0 : Int32)), .unset, .unset, .unset] [(.int p2), (.int (200 : Int32))]))
    refine go (X18.ldcInt hx hown (mvT hZ (hw _ (List.mem_of_getElem? (i := 4) rfl))) (g := (mkF m 28 #[.val (.int p1), .val (.int p2), .val (.int (0 : Int32)), .unset, .unset, .unset] [(.int p2), (.int (200 : Int32))])) rfl (hb hby at_28)) ?_
    show G (T18.setTop (mkF m 30 #[.val (.int p1), .val (.int p2), .val (.int (0 : Int32)), .unset, .unset, .unset] [(.int (2147483647 : Int32)), (.int p2), (.int (200 : Int32))]))
    refine go (fun _ k => XS.iand X18.here hx rfl (hb hby at_30) rfl k) ?_
    show G (T18.setTop (mkF m 31 #[.val (.int p1), .val (.int p2), .val (.int (0 : Int32)), .unset, .unset, .unset] [(.int (p2 &&& (2147483647 : Int32))), (.int (200 : Int32))]))
    refine go (fun _ k => XS.bipush X18.here hx rfl (hb hby at_31) k) ?_
    show G (T18.setTop (mkF m 33 #[.val (.int p1), .val (.int p2), .val (.int (0 : Int32)), .unset, .unset, .unset] [(.int (100 : Int32)), (.int (p2 &&& (2147483647 : Int32))), (.int (200 : Int32))]))
    refine go (fun _ k => iremM X18 hx rfl (hb hby at_33) rfl (by decide) k) ?_
    show G (T18.setTop (mkF m 34 #[.val (.int p1), .val (.int p2), .val (.int (0 : Int32)), .unset, .unset, .unset] [(.int ((p2 &&& (2147483647 : Int32)) % (100 : Int32))), (.int (200 : Int32))]))
    refine go (fun _ k => XS.iadd X18.here hx rfl (hb hby at_34) rfl k) ?_
    show G (T18.setTop (mkF m 35 #[.val (.int p1), .val (.int p2), .val (.int (0 : Int32)), .unset, .unset, .unset] [(.int ((200 : Int32) + ((p2 &&& (2147483647 : Int32)) % (100 : Int32))))]))
    refine go (fun _ k => XS.istoreN X18.here hx rfl (hb hby at_35) rfl (l' := #[.val (.int p1), .val (.int p2), .val (.int (0 : Int32)), .val (.int ((200 : Int32) + ((p2 &&& (2147483647 : Int32)) % (100 : Int32)))), .unset, .unset]) rfl k) ?_
    show G (T18.setTop (mkF m 36 #[.val (.int p1), .val (.int p2), .val (.int (0 : Int32)), .val (.int ((200 : Int32) + ((p2 &&& (2147483647 : Int32)) % (100 : Int32)))), .unset, .unset] []))
    refine go (fun _ k => XS.iloadN X18.here hx rfl (hb hby at_36) rfl k) ?_
    show G (T18.setTop (mkF m 37 #[.val (.int p1), .val (.int p2), .val (.int (0 : Int32)), .val (.int ((200 : Int32) + ((p2 &&& (2147483647 : Int32)) % (100 : Int32)))), .unset, .unset] [(.int ((200 : Int32) + ((p2 &&& (2147483647 : Int32)) % (100 : Int32))))]))
    obtain ⟨_, _, ⟨T20, L20, k20, n20⟩, -, X20, ⟨Lc20, hQ20, l20, y20, z20⟩, st20⟩ := Jvm.LawKit.callS X18 hx (y := (⟨"com/example/answer_once/answeronce/model/Answer", "isSuccess", "(I)Z"⟩ : MethodName)) hown (mvT hZ (hw _ (List.mem_of_getElem? (i := 0) rfl))) (mvT hZ (hw _ (List.mem_of_getElem? (i := 1) rfl))) (mvT hZ (hw _ (List.mem_of_getElem? (i := 2) rfl))) (mvT hZ (hw _ (List.mem_of_getElem? (i := 3) rfl))) (by decide) (backOf (W := 0) (rm1 l Z a0 hw [] ((200 : Int32) + ((p2 &&& (2147483647 : Int32)) % (100 : Int32))) h0 n0 Z0) hZ (hw _ (List.mem_of_getElem? (i := 3) rfl)) (hw _ (List.mem_of_getElem? (i := 2) rfl)) (by decide) (by decide)) (g := (mkF m 37 #[.val (.int p1), .val (.int p2), .val (.int (0 : Int32)), .val (.int ((200 : Int32) + ((p2 &&& (2147483647 : Int32)) % (100 : Int32)))), .unset, .unset] [(.int ((200 : Int32) + ((p2 &&& (2147483647 : Int32)) % (100 : Int32))))])) rfl (by rw [hml]; rfl) (argsL := [(.int ((200 : Int32) + ((p2 &&& (2147483647 : Int32)) % (100 : Int32))))]) (rest := []) (lenOf pd_0_0 rfl) rfl (by show 2 * 0 + _ ≤ _; exact Nat.le_of_eq rfl) (hb hby at_37) (fun _ _ => ⟨rfl, e18, (by decide : 0 + 0 ≤ _), (by decide : 0 + 0 ≤ _)⟩)
    dsimp only [Pt.U, Pt.locs, Pt.cells, Pt.slots] at X20 l20 y20 z20 st20 hQ20
    subst l20 y20 z20
    obtain ⟨rfl, N20q, e20⟩ := hQ20
    have N20 := Fr.app N18 N20q
    refine go st20 ?_
    show G (T20.setTop (mkF m 40 #[.val (.int p1), .val (.int p2), .val (.int (0 : Int32)), .val (.int ((200 : Int32) + ((p2 &&& (2147483647 : Int32)) % (100 : Int32)))), .unset, .unset] [(.int (isS ((200 : Int32) + ((p2 &&& (2147483647 : Int32)) % (100 : Int32)))))]))
    have hc21 : ¬ ((isS ((200 : Int32) + ((p2 &&& (2147483647 : Int32)) % (100 : Int32)))) = (0 : Int32)) := own_inside _
    refine go (fun _ k => XS.ifYes X20.here hx rfl (pc0 := 40) (pc' := 45) rfl (hb hby at_40) rfl ((if0 _ _).trans (feq hc21).2) (by decide) (by decide) k) ?_
    show G (T20.setTop (mkF m 45 #[.val (.int p1), .val (.int p2), .val (.int (0 : Int32)), .val (.int ((200 : Int32) + ((p2 &&& (2147483647 : Int32)) % (100 : Int32)))), .unset, .unset] []))
    refine go (fun _ k => XS.sipush X20.here hx rfl (hb hby at_45) k) ?_
    show G (T20.setTop (mkF m 48 #[.val (.int p1), .val (.int p2), .val (.int (0 : Int32)), .val (.int ((200 : Int32) + ((p2 &&& (2147483647 : Int32)) % (100 : Int32)))), .unset, .unset] [(.int (199 : Int32))]))
    refine go (fun _ k => XS.iloadN X20.here hx rfl (hb hby at_48) rfl k) ?_
    show G (T20.setTop (mkF m 49 #[.val (.int p1), .val (.int p2), .val (.int (0 : Int32)), .val (.int ((200 : Int32) + ((p2 &&& (2147483647 : Int32)) % (100 : Int32)))), .unset, .unset] [(.int p2), (.int (199 : Int32))]))
    refine go (X20.ldcInt hx hown (mvT hZ (hw _ (List.mem_of_getElem? (i := 4) rfl))) (g := (mkF m 49 #[.val (.int p1), .val (.int p2), .val (.int (0 : Int32)), .val (.int ((200 : Int32) + ((p2 &&& (2147483647 : Int32)) % (100 : Int32)))), .unset, .unset] [(.int p2), (.int (199 : Int32))])) rfl (hb hby at_49)) ?_
    show G (T20.setTop (mkF m 51 #[.val (.int p1), .val (.int p2), .val (.int (0 : Int32)), .val (.int ((200 : Int32) + ((p2 &&& (2147483647 : Int32)) % (100 : Int32)))), .unset, .unset] [(.int (2147483647 : Int32)), (.int p2), (.int (199 : Int32))]))
    refine go (fun _ k => XS.iand X20.here hx rfl (hb hby at_51) rfl k) ?_
    show G (T20.setTop (mkF m 52 #[.val (.int p1), .val (.int p2), .val (.int (0 : Int32)), .val (.int ((200 : Int32) + ((p2 &&& (2147483647 : Int32)) % (100 : Int32)))), .unset, .unset] [(.int (p2 &&& (2147483647 : Int32))), (.int (199 : Int32))]))
    refine go (fun _ k => XS.sipush X20.here hx rfl (hb hby at_52) k) ?_
    show G (T20.setTop (mkF m 55 #[.val (.int p1), .val (.int p2), .val (.int (0 : Int32)), .val (.int ((200 : Int32) + ((p2 &&& (2147483647 : Int32)) % (100 : Int32)))), .unset, .unset] [(.int (1000 : Int32)), (.int (p2 &&& (2147483647 : Int32))), (.int (199 : Int32))]))
    refine go (fun _ k => iremM X20 hx rfl (hb hby at_55) rfl (by decide) k) ?_
    show G (T20.setTop (mkF m 56 #[.val (.int p1), .val (.int p2), .val (.int (0 : Int32)), .val (.int ((200 : Int32) + ((p2 &&& (2147483647 : Int32)) % (100 : Int32)))), .unset, .unset] [(.int ((p2 &&& (2147483647 : Int32)) % (1000 : Int32))), (.int (199 : Int32))]))
    refine go (fun _ k => XS.isub X20.here hx rfl (hb hby at_56) rfl k) ?_
    show G (T20.setTop (mkF m 57 #[.val (.int p1), .val (.int p2), .val (.int (0 : Int32)), .val (.int ((200 : Int32) + ((p2 &&& (2147483647 : Int32)) % (100 : Int32)))), .unset, .unset] [(.int ((199 : Int32) - ((p2 &&& (2147483647 : Int32)) % (1000 : Int32))))]))
    refine go (fun _ k => XS.istore X20.here hx rfl (hb hby at_57) rfl (l' := #[.val (.int p1), .val (.int p2), .val (.int (0 : Int32)), .val (.int ((200 : Int32) + ((p2 &&& (2147483647 : Int32)) % (100 : Int32)))), .val (.int ((199 : Int32) - ((p2 &&& (2147483647 : Int32)) % (1000 : Int32)))), .unset]) rfl k) ?_
    show G (T20.setTop (mkF m 59 #[.val (.int p1), .val (.int p2), .val (.int (0 : Int32)), .val (.int ((200 : Int32) + ((p2 &&& (2147483647 : Int32)) % (100 : Int32)))), .val (.int ((199 : Int32) - ((p2 &&& (2147483647 : Int32)) % (1000 : Int32)))), .unset] []))
    refine go (fun _ k => XS.sipush X20.here hx rfl (hb hby at_59) k) ?_
    show G (T20.setTop (mkF m 62 #[.val (.int p1), .val (.int p2), .val (.int (0 : Int32)), .val (.int ((200 : Int32) + ((p2 &&& (2147483647 : Int32)) % (100 : Int32)))), .val (.int ((199 : Int32) - ((p2 &&& (2147483647 : Int32)) % (1000 : Int32)))), .unset] [(.int (300 : Int32))]))
    refine go (fun _ k => XS.iloadN X20.here hx rfl (hb hby at_62) rfl k) ?_
    show G (T20.setTop (mkF m 63 #[.val (.int p1), .val (.int p2), .val (.int (0 : Int32)), .val (.int ((200 : Int32) + ((p2 &&& (2147483647 : Int32)) % (100 : Int32)))), .val (.int ((199 : Int32) - ((p2 &&& (2147483647 : Int32)) % (1000 : Int32)))), .unset] [(.int p2), (.int (300 : Int32))]))
    refine go (X20.ldcInt hx hown (mvT hZ (hw _ (List.mem_of_getElem? (i := 4) rfl))) (g := (mkF m 63 #[.val (.int p1), .val (.int p2), .val (.int (0 : Int32)), .val (.int ((200 : Int32) + ((p2 &&& (2147483647 : Int32)) % (100 : Int32)))), .val (.int ((199 : Int32) - ((p2 &&& (2147483647 : Int32)) % (1000 : Int32)))), .unset] [(.int p2), (.int (300 : Int32))])) rfl (hb hby at_63)) ?_
    show G (T20.setTop (mkF m 65 #[.val (.int p1), .val (.int p2), .val (.int (0 : Int32)), .val (.int ((200 : Int32) + ((p2 &&& (2147483647 : Int32)) % (100 : Int32)))), .val (.int ((199 : Int32) - ((p2 &&& (2147483647 : Int32)) % (1000 : Int32)))), .unset] [(.int (2147483647 : Int32)), (.int p2), (.int (300 : Int32))]))
    refine go (fun _ k => XS.iand X20.here hx rfl (hb hby at_65) rfl k) ?_
    show G (T20.setTop (mkF m 66 #[.val (.int p1), .val (.int p2), .val (.int (0 : Int32)), .val (.int ((200 : Int32) + ((p2 &&& (2147483647 : Int32)) % (100 : Int32)))), .val (.int ((199 : Int32) - ((p2 &&& (2147483647 : Int32)) % (1000 : Int32)))), .unset] [(.int (p2 &&& (2147483647 : Int32))), (.int (300 : Int32))]))
    refine go (fun _ k => XS.sipush X20.here hx rfl (hb hby at_66) k) ?_
    show G (T20.setTop (mkF m 69 #[.val (.int p1), .val (.int p2), .val (.int (0 : Int32)), .val (.int ((200 : Int32) + ((p2 &&& (2147483647 : Int32)) % (100 : Int32)))), .val (.int ((199 : Int32) - ((p2 &&& (2147483647 : Int32)) % (1000 : Int32)))), .unset] [(.int (1000 : Int32)), (.int (p2 &&& (2147483647 : Int32))), (.int (300 : Int32))]))
    refine go (fun _ k => iremM X20 hx rfl (hb hby at_69) rfl (by decide) k) ?_
    show G (T20.setTop (mkF m 70 #[.val (.int p1), .val (.int p2), .val (.int (0 : Int32)), .val (.int ((200 : Int32) + ((p2 &&& (2147483647 : Int32)) % (100 : Int32)))), .val (.int ((199 : Int32) - ((p2 &&& (2147483647 : Int32)) % (1000 : Int32)))), .unset] [(.int ((p2 &&& (2147483647 : Int32)) % (1000 : Int32))), (.int (300 : Int32))]))
    refine go (fun _ k => XS.iadd X20.here hx rfl (hb hby at_70) rfl k) ?_
    show G (T20.setTop (mkF m 71 #[.val (.int p1), .val (.int p2), .val (.int (0 : Int32)), .val (.int ((200 : Int32) + ((p2 &&& (2147483647 : Int32)) % (100 : Int32)))), .val (.int ((199 : Int32) - ((p2 &&& (2147483647 : Int32)) % (1000 : Int32)))), .unset] [(.int ((300 : Int32) + ((p2 &&& (2147483647 : Int32)) % (1000 : Int32))))]))
    refine go (fun _ k => XS.istore X20.here hx rfl (hb hby at_71) rfl (l' := #[.val (.int p1), .val (.int p2), .val (.int (0 : Int32)), .val (.int ((200 : Int32) + ((p2 &&& (2147483647 : Int32)) % (100 : Int32)))), .val (.int ((199 : Int32) - ((p2 &&& (2147483647 : Int32)) % (1000 : Int32)))), .val (.int ((300 : Int32) + ((p2 &&& (2147483647 : Int32)) % (1000 : Int32))))]) rfl k) ?_
    show G (T20.setTop (mkF m 73 #[.val (.int p1), .val (.int p2), .val (.int (0 : Int32)), .val (.int ((200 : Int32) + ((p2 &&& (2147483647 : Int32)) % (100 : Int32)))), .val (.int ((199 : Int32) - ((p2 &&& (2147483647 : Int32)) % (1000 : Int32)))), .val (.int ((300 : Int32) + ((p2 &&& (2147483647 : Int32)) % (1000 : Int32))))] []))
    refine go (fun _ k => XS.iload X20.here hx rfl (hb hby at_73) rfl k) ?_
    show G (T20.setTop (mkF m 75 #[.val (.int p1), .val (.int p2), .val (.int (0 : Int32)), .val (.int ((200 : Int32) + ((p2 &&& (2147483647 : Int32)) % (100 : Int32)))), .val (.int ((199 : Int32) - ((p2 &&& (2147483647 : Int32)) % (1000 : Int32)))), .val (.int ((300 : Int32) + ((p2 &&& (2147483647 : Int32)) % (1000 : Int32))))] [(.int ((199 : Int32) - ((p2 &&& (2147483647 : Int32)) % (1000 : Int32))))]))
    obtain ⟨_, _, ⟨T22, L22, k22, n22⟩, -, X22, ⟨Lc22, hQ22, l22, y22, z22⟩, st22⟩ := Jvm.LawKit.callS X20 hx (y := (⟨"com/example/answer_once/answeronce/model/Answer", "isSuccess", "(I)Z"⟩ : MethodName)) hown (mvT hZ (hw _ (List.mem_of_getElem? (i := 0) rfl))) (mvT hZ (hw _ (List.mem_of_getElem? (i := 1) rfl))) (mvT hZ (hw _ (List.mem_of_getElem? (i := 2) rfl))) (mvT hZ (hw _ (List.mem_of_getElem? (i := 3) rfl))) (by decide) (backOf (W := 0) (rm1 l Z a0 hw [] ((199 : Int32) - ((p2 &&& (2147483647 : Int32)) % (1000 : Int32))) h0 n0 Z0) hZ (hw _ (List.mem_of_getElem? (i := 3) rfl)) (hw _ (List.mem_of_getElem? (i := 2) rfl)) (by decide) (by decide)) (g := (mkF m 75 #[.val (.int p1), .val (.int p2), .val (.int (0 : Int32)), .val (.int ((200 : Int32) + ((p2 &&& (2147483647 : Int32)) % (100 : Int32)))), .val (.int ((199 : Int32) - ((p2 &&& (2147483647 : Int32)) % (1000 : Int32)))), .val (.int ((300 : Int32) + ((p2 &&& (2147483647 : Int32)) % (1000 : Int32))))] [(.int ((199 : Int32) - ((p2 &&& (2147483647 : Int32)) % (1000 : Int32))))])) rfl (by rw [hml]; rfl) (argsL := [(.int ((199 : Int32) - ((p2 &&& (2147483647 : Int32)) % (1000 : Int32))))]) (rest := []) (lenOf pd_0_0 rfl) rfl (by show 2 * 0 + _ ≤ _; exact Nat.le_of_eq rfl) (hb hby at_75) (fun _ _ => ⟨rfl, e20, (by decide : 0 + 0 ≤ _), (by decide : 0 + 0 ≤ _)⟩)
    dsimp only [Pt.U, Pt.locs, Pt.cells, Pt.slots] at X22 l22 y22 z22 st22 hQ22
    subst l22 y22 z22
    obtain ⟨rfl, N22q, e22⟩ := hQ22
    have N22 := Fr.app N20 N22q
    refine go st22 ?_
    show G (T22.setTop (mkF m 78 #[.val (.int p1), .val (.int p2), .val (.int (0 : Int32)), .val (.int ((200 : Int32) + ((p2 &&& (2147483647 : Int32)) % (100 : Int32)))), .val (.int ((199 : Int32) - ((p2 &&& (2147483647 : Int32)) % (1000 : Int32)))), .val (.int ((300 : Int32) + ((p2 &&& (2147483647 : Int32)) % (1000 : Int32))))] [(.int (isS ((199 : Int32) - ((p2 &&& (2147483647 : Int32)) % (1000 : Int32)))))]))
    have hc23 : (isS ((199 : Int32) - ((p2 &&& (2147483647 : Int32)) % (1000 : Int32)))) = (0 : Int32) := own_below _
    refine go (fun _ k => XS.ifNo X22.here hx rfl (hb hby at_78) rfl ((if0 _ _).trans (teq hc23).2) k) ?_
    show G (T22.setTop (mkF m 81 #[.val (.int p1), .val (.int p2), .val (.int (0 : Int32)), .val (.int ((200 : Int32) + ((p2 &&& (2147483647 : Int32)) % (100 : Int32)))), .val (.int ((199 : Int32) - ((p2 &&& (2147483647 : Int32)) % (1000 : Int32)))), .val (.int ((300 : Int32) + ((p2 &&& (2147483647 : Int32)) % (1000 : Int32))))] []))
    refine go (fun _ k => XS.iload X22.here hx rfl (hb hby at_81) rfl k) ?_
    show G (T22.setTop (mkF m 83 #[.val (.int p1), .val (.int p2), .val (.int (0 : Int32)), .val (.int ((200 : Int32) + ((p2 &&& (2147483647 : Int32)) % (100 : Int32)))), .val (.int ((199 : Int32) - ((p2 &&& (2147483647 : Int32)) % (1000 : Int32)))), .val (.int ((300 : Int32) + ((p2 &&& (2147483647 : Int32)) % (1000 : Int32))))] [(.int ((300 : Int32) + ((p2 &&& (2147483647 : Int32)) % (1000 : Int32))))]))
    obtain ⟨_, _, ⟨T24, L24, k24, n24⟩, -, X24, ⟨Lc24, hQ24, l24, y24, z24⟩, st24⟩ := Jvm.LawKit.callS X22 hx (y := (⟨"com/example/answer_once/answeronce/model/Answer", "isSuccess", "(I)Z"⟩ : MethodName)) hown (mvT hZ (hw _ (List.mem_of_getElem? (i := 0) rfl))) (mvT hZ (hw _ (List.mem_of_getElem? (i := 1) rfl))) (mvT hZ (hw _ (List.mem_of_getElem? (i := 2) rfl))) (mvT hZ (hw _ (List.mem_of_getElem? (i := 3) rfl))) (by decide) (backOf (W := 0) (rm1 l Z a0 hw [] ((300 : Int32) + ((p2 &&& (2147483647 : Int32)) % (1000 : Int32))) h0 n0 Z0) hZ (hw _ (List.mem_of_getElem? (i := 3) rfl)) (hw _ (List.mem_of_getElem? (i := 2) rfl)) (by decide) (by decide)) (g := (mkF m 83 #[.val (.int p1), .val (.int p2), .val (.int (0 : Int32)), .val (.int ((200 : Int32) + ((p2 &&& (2147483647 : Int32)) % (100 : Int32)))), .val (.int ((199 : Int32) - ((p2 &&& (2147483647 : Int32)) % (1000 : Int32)))), .val (.int ((300 : Int32) + ((p2 &&& (2147483647 : Int32)) % (1000 : Int32))))] [(.int ((300 : Int32) + ((p2 &&& (2147483647 : Int32)) % (1000 : Int32))))])) rfl (by rw [hml]; rfl) (argsL := [(.int ((300 : Int32) + ((p2 &&& (2147483647 : Int32)) % (1000 : Int32))))]) (rest := []) (lenOf pd_0_0 rfl) rfl (by show 2 * 0 + _ ≤ _; exact Nat.le_of_eq rfl) (hb hby at_83) (fun _ _ => ⟨rfl, e22, (by decide : 0 + 0 ≤ _), (by decide : 0 + 0 ≤ _)⟩)
    dsimp only [Pt.U, Pt.locs, Pt.cells, Pt.slots] at X24 l24 y24 z24 st24 hQ24
    subst l24 y24 z24
    obtain ⟨rfl, N24q, e24⟩ := hQ24
    have N24 := Fr.app N22 N24q
    refine go st24 ?_
    show G (T24.setTop (mkF m 86 #[.val (.int p1), .val (.int p2), .val (.int (0 : Int32)), .val (.int ((200 : Int32) + ((p2 &&& (2147483647 : Int32)) % (100 : Int32)))), .val (.int ((199 : Int32) - ((p2 &&& (2147483647 : Int32)) % (1000 : Int32)))), .val (.int ((300 : Int32) + ((p2 &&& (2147483647 : Int32)) % (1000 : Int32))))] [(.int (isS ((300 : Int32) + ((p2 &&& (2147483647 : Int32)) % (1000 : Int32)))))]))
    have hc25 : (isS ((300 : Int32) + ((p2 &&& (2147483647 : Int32)) % (1000 : Int32)))) = (0 : Int32) := own_above _
    refine go (fun _ k => XS.ifYes X24.here hx rfl (pc0 := 86) (pc' := 91) rfl (hb hby at_86) rfl ((if0 _ _).trans (teq hc25).1) (by decide) (by decide) k) ?_
    show G (T24.setTop (mkF m 91 #[.val (.int p1), .val (.int p2), .val (.int (0 : Int32)), .val (.int ((200 : Int32) + ((p2 &&& (2147483647 : Int32)) % (100 : Int32)))), .val (.int ((199 : Int32) - ((p2 &&& (2147483647 : Int32)) % (1000 : Int32)))), .val (.int ((300 : Int32) + ((p2 &&& (2147483647 : Int32)) % (1000 : Int32))))] []))
    refine go (fun _ k => XS.sipush X24.here hx rfl (hb hby at_91) k) ?_
    show G (T24.setTop (mkF m 94 #[.val (.int p1), .val (.int p2), .val (.int (0 : Int32)), .val (.int ((200 : Int32) + ((p2 &&& (2147483647 : Int32)) % (100 : Int32)))), .val (.int ((199 : Int32) - ((p2 &&& (2147483647 : Int32)) % (1000 : Int32)))), .val (.int ((300 : Int32) + ((p2 &&& (2147483647 : Int32)) % (1000 : Int32))))] [(.int (200 : Int32))]))
    obtain ⟨_, _, ⟨T26, L26, k26, n26⟩, -, X26, ⟨Lc26, hQ26, l26, y26, z26⟩, st26⟩ := Jvm.LawKit.callS X24 hx (y := (⟨"com/example/answer_once/answeronce/model/Answer", "isSuccess", "(I)Z"⟩ : MethodName)) hown (mvT hZ (hw _ (List.mem_of_getElem? (i := 0) rfl))) (mvT hZ (hw _ (List.mem_of_getElem? (i := 1) rfl))) (mvT hZ (hw _ (List.mem_of_getElem? (i := 2) rfl))) (mvT hZ (hw _ (List.mem_of_getElem? (i := 3) rfl))) (by decide) (backOf (W := 0) (rm1 l Z a0 hw [] (200 : Int32) h0 n0 Z0) hZ (hw _ (List.mem_of_getElem? (i := 3) rfl)) (hw _ (List.mem_of_getElem? (i := 2) rfl)) (by decide) (by decide)) (g := (mkF m 94 #[.val (.int p1), .val (.int p2), .val (.int (0 : Int32)), .val (.int ((200 : Int32) + ((p2 &&& (2147483647 : Int32)) % (100 : Int32)))), .val (.int ((199 : Int32) - ((p2 &&& (2147483647 : Int32)) % (1000 : Int32)))), .val (.int ((300 : Int32) + ((p2 &&& (2147483647 : Int32)) % (1000 : Int32))))] [(.int (200 : Int32))])) rfl (by rw [hml]; rfl) (argsL := [(.int (200 : Int32))]) (rest := []) (lenOf pd_0_0 rfl) rfl (by show 2 * 0 + _ ≤ _; exact Nat.le_of_eq rfl) (hb hby at_94) (fun _ _ => ⟨rfl, e24, (by decide : 0 + 0 ≤ _), (by decide : 0 + 0 ≤ _)⟩)
    dsimp only [Pt.U, Pt.locs, Pt.cells, Pt.slots] at X26 l26 y26 z26 st26 hQ26
    subst l26 y26 z26
    obtain ⟨rfl, N26q, e26⟩ := hQ26
    have N26 := Fr.app N24 N26q
    refine go st26 ?_
    show G (T26.setTop (mkF m 97 #[.val (.int p1), .val (.int p2), .val (.int (0 : Int32)), .val (.int ((200 : Int32) + ((p2 &&& (2147483647 : Int32)) % (100 : Int32)))), .val (.int ((199 : Int32) - ((p2 &&& (2147483647 : Int32)) % (1000 : Int32)))), .val (.int ((300 : Int32) + ((p2 &&& (2147483647 : Int32)) % (1000 : Int32))))] [(.int (isS (200 : Int32)))]))
    have hc27 : ¬ ((isS (200 : Int32)) = (0 : Int32)) := by decide
    refine go (fun _ k => XS.ifNo X26.here hx rfl (hb hby at_97) rfl ((if0 _ _).trans (feq hc27).1) k) ?_
    show G (T26.setTop (mkF m 100 #[.val (.int p1), .val (.int p2), .val (.int (0 : Int32)), .val (.int ((200 : Int32) + ((p2 &&& (2147483647 : Int32)) % (100 : Int32)))), .val (.int ((199 : Int32) - ((p2 &&& (2147483647 : Int32)) % (1000 : Int32)))), .val (.int ((300 : Int32) + ((p2 &&& (2147483647 : Int32)) % (1000 : Int32))))] []))
    refine go (fun _ k => XS.sipush X26.here hx rfl (hb hby at_100) k) ?_
    show G (T26.setTop (mkF m 103 #[.val (.int p1), .val (.int p2), .val (.int (0 : Int32)), .val (.int ((200 : Int32) + ((p2 &&& (2147483647 : Int32)) % (100 : Int32)))), .val (.int ((199 : Int32) - ((p2 &&& (2147483647 : Int32)) % (1000 : Int32)))), .val (.int ((300 : Int32) + ((p2 &&& (2147483647 : Int32)) % (1000 : Int32))))] [(.int (299 : Int32))]))
    obtain ⟨_, _, ⟨T28, L28, k28, n28⟩, -, X28, ⟨Lc28, hQ28, l28, y28, z28⟩, st28⟩ := Jvm.LawKit.callS X26 hx (y := (⟨"com/example/answer_once/answeronce/model/Answer", "isSuccess", "(I)Z"⟩ : MethodName)) hown (mvT hZ (hw _ (List.mem_of_getElem? (i := 0) rfl))) (mvT hZ (hw _ (List.mem_of_getElem? (i := 1) rfl))) (mvT hZ (hw _ (List.mem_of_getElem? (i := 2) rfl))) (mvT hZ (hw _ (List.mem_of_getElem? (i := 3) rfl))) (by decide) (backOf (W := 0) (rm1 l Z a0 hw [] (299 : Int32) h0 n0 Z0) hZ (hw _ (List.mem_of_getElem? (i := 3) rfl)) (hw _ (List.mem_of_getElem? (i := 2) rfl)) (by decide) (by decide)) (g := (mkF m 103 #[.val (.int p1), .val (.int p2), .val (.int (0 : Int32)), .val (.int ((200 : Int32) + ((p2 &&& (2147483647 : Int32)) % (100 : Int32)))), .val (.int ((199 : Int32) - ((p2 &&& (2147483647 : Int32)) % (1000 : Int32)))), .val (.int ((300 : Int32) + ((p2 &&& (2147483647 : Int32)) % (1000 : Int32))))] [(.int (299 : Int32))])) rfl (by rw [hml]; rfl) (argsL := [(.int (299 : Int32))]) (rest := []) (lenOf pd_0_0 rfl) rfl (by show 2 * 0 + _ ≤ _; exact Nat.le_of_eq rfl) (hb hby at_103) (fun _ _ => ⟨rfl, e26, (by decide : 0 + 0 ≤ _), (by decide : 0 + 0 ≤ _)⟩)
    dsimp only [Pt.U, Pt.locs, Pt.cells, Pt.slots] at X28 l28 y28 z28 st28 hQ28
    subst l28 y28 z28
    obtain ⟨rfl, N28q, e28⟩ := hQ28
    have N28 := Fr.app N26 N28q
    refine go st28 ?_
    show G (T28.setTop (mkF m 106 #[.val (.int p1), .val (.int p2), .val (.int (0 : Int32)), .val (.int ((200 : Int32) + ((p2 &&& (2147483647 : Int32)) % (100 : Int32)))), .val (.int ((199 : Int32) - ((p2 &&& (2147483647 : Int32)) % (1000 : Int32)))), .val (.int ((300 : Int32) + ((p2 &&& (2147483647 : Int32)) % (1000 : Int32))))] [(.int (isS (299 : Int32)))]))
    have hc29 : ¬ ((isS (299 : Int32)) = (0 : Int32)) := by decide
    refine go (fun _ k => XS.ifNo X28.here hx rfl (hb hby at_106) rfl ((if0 _ _).trans (feq hc29).1) k) ?_
    show G (T28.setTop (mkF m 109 #[.val (.int p1), .val (.int p2), .val (.int (0 : Int32)), .val (.int ((200 : Int32) + ((p2 &&& (2147483647 : Int32)) % (100 : Int32)))), .val (.int ((199 : Int32) - ((p2 &&& (2147483647 : Int32)) % (1000 : Int32)))), .val (.int ((300 : Int32) + ((p2 &&& (2147483647 : Int32)) % (1000 : Int32))))] []))
    refine go (fun _ k => XS.sipush X28.here hx rfl (hb hby at_109) k) ?_
    show G (T28.setTop (mkF m 112 #[.val (.int p1), .val (.int p2), .val (.int (0 : Int32)), .val (.int ((200 : Int32) + ((p2 &&& (2147483647 : Int32)) % (100 : Int32)))), .val (.int ((199 : Int32) - ((p2 &&& (2147483647 : Int32)) % (1000 : Int32)))), .val (.int ((300 : Int32) + ((p2 &&& (2147483647 : Int32)) % (1000 : Int32))))] [(.int (199 : Int32))]))
    obtain ⟨_, _, ⟨T30, L30, k30, n30⟩, -, X30, ⟨Lc30, hQ30, l30, y30, z30⟩, st30⟩ := Jvm.LawKit.callS X28 hx (y := (⟨"com/example/answer_once/answeronce/model/Answer", "isSuccess", "(I)Z"⟩ : MethodName)) hown (mvT hZ (hw _ (List.mem_of_getElem? (i := 0) rfl))) (mvT hZ (hw _ (List.mem_of_getElem? (i := 1) rfl))) (mvT hZ (hw _ (List.mem_of_getElem? (i := 2) rfl))) (mvT hZ (hw _ (List.mem_of_getElem? (i := 3) rfl))) (by decide) (backOf (W := 0) (rm1 l Z a0 hw [] (199 : Int32) h0 n0 Z0) hZ (hw _ (List.mem_of_getElem? (i := 3) rfl)) (hw _ (List.mem_of_getElem? (i := 2) rfl)) (by decide) (by decide)) (g := (mkF m 112 #[.val (.int p1), .val (.int p2), .val (.int (0 : Int32)), .val (.int ((200 : Int32) + ((p2 &&& (2147483647 : Int32)) % (100 : Int32)))), .val (.int ((199 : Int32) - ((p2 &&& (2147483647 : Int32)) % (1000 : Int32)))), .val (.int ((300 : Int32) + ((p2 &&& (2147483647 : Int32)) % (1000 : Int32))))] [(.int (199 : Int32))])) rfl (by rw [hml]; rfl) (argsL := [(.int (199 : Int32))]) (rest := []) (lenOf pd_0_0 rfl) rfl (by show 2 * 0 + _ ≤ _; exact Nat.le_of_eq rfl) (hb hby at_112) (fun _ _ => ⟨rfl, e28, (by decide : 0 + 0 ≤ _), (by decide : 0 + 0 ≤ _)⟩)
    dsimp only [Pt.U, Pt.locs, Pt.cells, Pt.slots] at X30 l30 y30 z30 st30 hQ30
    subst l30 y30 z30
    obtain ⟨rfl, N30q, e30⟩ := hQ30
    have N30 := Fr.app N28 N30q
    refine go st30 ?_
    show G (T30.setTop (mkF m 115 #[.val (.int p1), .val (.int p2), .val (.int (0 : Int32)), .val (.int ((200 : Int32) + ((p2 &&& (2147483647 : Int32)) % (100 : Int32)))), .val (.int ((199 : Int32) - ((p2 &&& (2147483647 : Int32)) % (1000 : Int32)))), .val (.int ((300 : Int32) + ((p2 &&& (2147483647 : Int32)) % (1000 : Int32))))] [(.int (isS (199 : Int32)))]))
    have hc31 : (isS (199 : Int32)) = (0 : Int32) := by decide
    refine go (fun _ k => XS.ifNo X30.here hx rfl (hb hby at_115) rfl ((if0 _ _).trans (teq hc31).2) k) ?_
    show G (T30.setTop (mkF m 118 #[.val (.int p1), .val (.int p2), .val (.int (0 : Int32)), .val (.int ((200 : Int32) + ((p2 &&& (2147483647 : Int32)) % (100 : Int32)))), .val (.int ((199 : Int32) - ((p2 &&& (2147483647 : Int32)) % (1000 : Int32)))), .val (.int ((300 : Int32) + ((p2 &&& (2147483647 : Int32)) % (1000 : Int32))))] []))
    refine go (fun _ k => XS.sipush X30.here hx rfl (hb hby at_118) k) ?_
    show G (T30.setTop (mkF m 121 #[.val (.int p1), .val (.int p2), .val (.int (0 : Int32)), .val (.int ((200 : Int32) + ((p2 &&& (2147483647 : Int32)) % (100 : Int32)))), .val (.int ((199 : Int32) - ((p2 &&& (2147483647 : Int32)) % (1000 : Int32)))), .val (.int ((300 : Int32) + ((p2 &&& (2147483647 : Int32)) % (1000 : Int32))))] [(.int (300 : Int32))]))
    obtain ⟨_, _, ⟨T32, L32, k32, n32⟩, -, X32, ⟨Lc32, hQ32, l32, y32, z32⟩, st32⟩ := Jvm.LawKit.callS X30 hx (y := (⟨"com/example/answer_once/answeronce/model/Answer", "isSuccess", "(I)Z"⟩ : MethodName)) hown (mvT hZ (hw _ (List.mem_of_getElem? (i := 0) rfl))) (mvT hZ (hw _ (List.mem_of_getElem? (i := 1) rfl))) (mvT hZ (hw _ (List.mem_of_getElem? (i := 2) rfl))) (mvT hZ (hw _ (List.mem_of_getElem? (i := 3) rfl))) (by decide) (backOf (W := 0) (rm1 l Z a0 hw [] (300 : Int32) h0 n0 Z0) hZ (hw _ (List.mem_of_getElem? (i := 3) rfl)) (hw _ (List.mem_of_getElem? (i := 2) rfl)) (by decide) (by decide)) (g := (mkF m 121 #[.val (.int p1), .val (.int p2), .val (.int (0 : Int32)), .val (.int ((200 : Int32) + ((p2 &&& (2147483647 : Int32)) % (100 : Int32)))), .val (.int ((199 : Int32) - ((p2 &&& (2147483647 : Int32)) % (1000 : Int32)))), .val (.int ((300 : Int32) + ((p2 &&& (2147483647 : Int32)) % (1000 : Int32))))] [(.int (300 : Int32))])) rfl (by rw [hml]; rfl) (argsL := [(.int (300 : Int32))]) (rest := []) (lenOf pd_0_0 rfl) rfl (by show 2 * 0 + _ ≤ _; exact Nat.le_of_eq rfl) (hb hby at_121) (fun _ _ => ⟨rfl, e30, (by decide : 0 + 0 ≤ _), (by decide : 0 + 0 ≤ _)⟩)
    dsimp only [Pt.U, Pt.locs, Pt.cells, Pt.slots] at X32 l32 y32 z32 st32 hQ32
    subst l32 y32 z32
    obtain ⟨rfl, N32q, e32⟩ := hQ32
    have N32 := Fr.app N30 N32q
    refine go st32 ?_
    show G (T32.setTop (mkF m 124 #[.val (.int p1), .val (.int p2), .val (.int (0 : Int32)), .val (.int ((200 : Int32) + ((p2 &&& (2147483647 : Int32)) % (100 : Int32)))), .val (.int ((199 : Int32) - ((p2 &&& (2147483647 : Int32)) % (1000 : Int32)))), .val (.int ((300 : Int32) + ((p2 &&& (2147483647 : Int32)) % (1000 : Int32))))] [(.int (isS (300 : Int32)))]))
    have hc33 : (isS (300 : Int32)) = (0 : Int32) := by decide
    refine go (fun _ k => XS.ifNo X32.here hx rfl (hb hby at_124) rfl ((if0 _ _).trans (teq hc33).2) k) ?_
    show G (T32.setTop (mkF m 127 #[.val (.int p1), .val (.int p2), .val (.int (0 : Int32)), .val (.int ((200 : Int32) + ((p2 &&& (2147483647 : Int32)) % (100 : Int32)))), .val (.int ((199 : Int32) - ((p2 &&& (2147483647 : Int32)) % (1000 : Int32)))), .val (.int ((300 : Int32) + ((p2 &&& (2147483647 : Int32)) % (1000 : Int32))))] []))
    refine go (fun _ k => XS.iconst X32.here hx rfl (hb hby at_127) k) ?_
    show G (T32.setTop (mkF m 128 #[.val (.int p1), .val (.int p2), .val (.int (0 : Int32)), .val (.int ((200 : Int32) + ((p2 &&& (2147483647 : Int32)) % (100 : Int32)))), .val (.int ((199 : Int32) - ((p2 &&& (2147483647 : Int32)) % (1000 : Int32)))), .val (.int ((300 : Int32) + ((p2 &&& (2147483647 : Int32)) % (1000 : Int32))))] [(.int (1 : Int32))]))
    refine go (fun _ k => XS.goto X32.here hx rfl (pc0 := 128) (pc' := 132) rfl (hb hby at_128) (by decide) (by decide) k) ?_
    show G (T32.setTop (mkF m 132 #[.val (.int p1), .val (.int p2), .val (.int (0 : Int32)), .val (.int ((200 : Int32) + ((p2 &&& (2147483647 : Int32)) % (100 : Int32)))), .val (.int ((199 : Int32) - ((p2 &&& (2147483647 : Int32)) % (1000 : Int32)))), .val (.int ((300 : Int32) + ((p2 &&& (2147483647 : Int32)) % (1000 : Int32))))] [(.int (1 : Int32))]))
    rw [hG]
    refine own_fin X32 Bd.notSynchronized (v := some (.int (1 : Int32))) (fun h => by rw [Bd.returns] at h; cases h) (fun fs hr => retOut X32 hx Bd.returns rfl (by simp [FieldType.isReference, Value.isRef]) (hb hby at_132) hr) ?_ (by decide) (by decide)
    show Q0 Z p1 p2 h0 n0 (some (.int (1 : Int32))) T32.heap _
    rw [e32]
    exact ⟨rfl, N32⟩

set_option maxRecDepth 65536 in
set_option maxHeartbeats 40000000 in
theorem comes_1 {Post : Tables → Env → Array Value → State → Outcome → State → Prop} (hpost : ∀ tb e args s v u, (limb_1_1.after args s (.returned v) u = true ∧ limb_1_2.after args s (.returned v) u = true ∧ True) → FrameEnd s (.returned v) u (Jvm.fieldLocs frame_1_writes args s ++ Jvm.arrayLocs frame_1_arrays args s ++ Jvm.staticLocs frame_1_statics s) 0 0 → Post tb e args s (.returned v) u) :
    ArmFor flags0 classFile x code maxLocals ret World_1 tables_1 room_1 Calls_1 rest_1 Pre_1 Post := by
  intro l hfl _ _ p e ha hc hk s m args below hf hA hF happ hP
  obtain ⟨hcalls, hrest, hpre⟩ := hP
  obtain ⟨-, -, -, hnamed, -, -, -, hat⟩ := (Spec.applies_iff hf).mp happ
  obtain ⟨hg, hn⟩ := and_e (Cond.before_iff.mp (show (Jvm.Cond.and given_1 narrow_1).before args s = true from hpre))
  obtain ⟨g2, g3⟩ := and_e hg
  obtain ⟨g4, g5⟩ := and_e g3
  obtain ⟨w0, w1, rfl⟩ : ∃ w0 w1 : Value, args = #[w0, w1] := by
    have hs : args.size = 2 := by simpa [Cond.value, given_1] using g2
    obtain ⟨L⟩ := args
    match L, hs with
    | [w0, w1], _ => exact ⟨w0, w1, rfl⟩
  have hw := fun d (hd : d ∈ tables_1) => atoms_spec (ws := Jvm.Cond.code x code maxLocals ret :: tables_1) hat d (List.mem_cons_of_mem _ hd)
  have hfit : Fit s := fun {y c} hc i hi => by
    obtain ⟨ha, rfl⟩ := Array.getElem?_eq_some_iff.mp hc
    have q := List.all_eq_true.mp ((Array.all_eq_true_iff_forall_mem.mp hF) _ (Array.getElem_mem ha)) i (List.mem_range.mpr hi)
    simpa [Array.getElem?_eq_getElem hi] using q
  obtain ⟨i0, ei0⟩ := is_v g4
  obtain rfl : w0 = (.int i0) := Option.some.inj ei0
  obtain ⟨i1, ei1⟩ := is_v g5
  obtain rfl : w1 = (.int i1) := Option.some.inj ei1
  obtain ⟨n, o, h1, h2, h3, _, L, rfl, ⟨rfl, N⟩, hq⟩ := rm0 l s _ hw tables_1 i0 i1 s.heap s.heap.size (Nat.le_refl _)  p e ha hc hk s m _ below hf ((Spec.applies_iff_loose hf).mp happ).1 ⟨rfl, State.Warmed39.refl s, rfl⟩ trivial
  refine ⟨n, _, h1, h2, h3, hpost _ _ _ _ _ _ ⟨Cond.after_iff.mpr rfl, Cond.after_iff.mpr (eq_i res_at (Term.int_eval (1)) rfl), trivial⟩ ⟨hq.1, hq.2.1, (hq.2.2.sift fun y hy => Or.inr (N y hy)).mono (by decide) (by decide)⟩⟩
theorem main_1_1 : Claimed_1_1 := comes_1 fun _ _ _ _ _ _ h hF => ⟨h.1, hF⟩
theorem main_1_2 : Claimed_1_2 := comes_1 fun _ _ _ _ _ _ h hF => ⟨h.2.1, hF⟩
end Jvm.Pilot.@@N@@
namespace Jvm.Pilot.@@N@@
open Jvm Jvm.ClassFile Sem Op Lib Jvm.Free Jvm.Stand Jvm.Pilot.@@N@@.Jvm.D
/-! MADE BY PROGRAM (witnessworld.py) out of the Statement's table words and the real class files: 9 classes; the members and pool entries that the words name. The judged class is class 1, her method 1. -/
namespace start1
open Jvm.ClassFile
def u (s : String) : CpInfo := .utf8 (stringToUtf16 s)
/-- a pool by its gaps: so many unusable entries, then the entry; so many at the end -/
def gap : Nat → List CpInfo → List CpInfo
  | 0, r => r
  | n + 1, r => .unusable :: gap n r
def poolList (es : List (Nat × CpInfo)) (last : Nat) : List CpInfo := es.foldr (fun e r => gap e.1 (e.2 :: r)) (gap last [])
def pool (es : List (Nat × CpInfo)) (last : Nat) : Array CpInfo := ⟨poolList es last⟩
def fileOf (pool : Array CpInfo) (this : Nat) (attrs : Array Attribute := #[]) (ms : Array MethodInfo := #[]) (fl : Nat := 33) (sup : Nat := 0) (ifs : Array Nat := #[]) (fds : Array FieldInfo := #[]) : ClassFile where
  minorVersion := 0
  majorVersion := 65
  constantPool := pool
  accessFlags := fl
  thisClass := this
  superClass := sup
  interfaces := ifs
  fields := fds
  methods := ms
  attributes := attrs
def plain (name : String) (sup : Option ClassId) : Class where
  name := name
  kind := .ordinary
  loader := none
  accessFlags := 33
  super := sup
  interfaces := #[]
  cf := none
  fields := #[]
  methods := #[]
  instanceTypes := #[]
  staticTypes := #[]
  resolved := #[]
  callSites := []
  init := .initialized
  statics := none
  mirror := none

def pool0 : Array CpInfo := pool [(5, u "<init>"), (0, u "()V"), (1, .class_ 10), (1, u "java/lang/Object")] 113

def k0m0 : Method := { name := "<init>", desc := "()V", sig := { parameters := [], returnType := none }, accessFlags := 1, code := none }
/-- java/lang/Object -/
def k0 : Class := { plain "java/lang/Object" none with
  accessFlags := 33
  interfaces := #[]
  cf := some (fileOf pool0 8 #[] #[{ accessFlags := 1, nameIndex := 5, descriptorIndex := 6, attributes := #[] }] 33 0 #[] #[])
  fields := #[]
  methods := #[k0m0]
  instanceTypes := #[]
  staticTypes := #[]
  resolved := Array.replicate 124 none
  statics := none }

def pool1 : Array CpInfo := pool [(2, .class_ 4), (1, u "java/lang/Object"), (0, u "<init>"), (0, u "()V"), (0, .methodref 8 9), (0, .class_ 10), (0, .nameAndType 11 12), (0, u "com/example/answer_once/answeronce/model/Answer"), (0, u "isSuccess"), (0, u "(I)Z"), (0, .integer 2147483647), (0, .class_ 15), (0, u "com/example/answer_once/answeronce/model/AnswerIsSuccessPinLaw"), (2, u "law"), (0, u "(II)Z")] 3

def k1m0 : Method := { name := "<init>", desc := "()V", sig := { parameters := [], returnType := none }, accessFlags := 1, code := none }
def k1c1 : Code := { maxStack := 3, maxLocals := 6, code := code, exceptionTable := #[], attributes := #[] }
def k1m1 : Method := { name := "law", desc := "(II)Z", sig := { parameters := [.int, .int], returnType := some .boolean }, accessFlags := 9, code := some k1c1 }
/-- com/example/answer_once/answeronce/model/AnswerIsSuccessPinLaw -/
def k1 : Class := { plain "com/example/answer_once/answeronce/model/AnswerIsSuccessPinLaw" (some 0) with
  accessFlags := 49
  interfaces := #[]
  cf := some (fileOf pool1 14 #[] #[{ accessFlags := 1, nameIndex := 5, descriptorIndex := 6, attributes := #[] }, { accessFlags := 9, nameIndex := 18, descriptorIndex := 19, attributes := #[] }] 49 2 #[] #[])
  fields := #[]
  methods := #[k1m0, k1m1]
  instanceTypes := #[]
  staticTypes := #[]
  resolved := Array.replicate 23 none
  statics := none }

def pool2 : Array CpInfo := pool [(2, .class_ 4), (1, u "java/lang/Object"), (3, .class_ 10), (1, u "com/example/answer_once/answeronce/model/Answer"), (0, u "status"), (0, u "I"), (2, u "headers"), (0, u "Ljava/util/Map;"), (2, u "body"), (0, u "[B"), (91, u "isSuccess"), (0, u "(I)Z")] 35

def k2c0 : Code := { maxStack := 2, maxLocals := 1, code := prog_11_method_6_code, exceptionTable := #[], attributes := #[] }
def k2m0 : Method := { name := "isSuccess", desc := "(I)Z", sig := { parameters := [.int], returnType := some .boolean }, accessFlags := 9, code := some k2c0 }
/-- com/example/answer_once/answeronce/model/Answer -/
def k2 : Class := { plain "com/example/answer_once/answeronce/model/Answer" (some 0) with
  accessFlags := 49
  interfaces := #[]
  cf := some (fileOf pool2 8 #[] #[{ accessFlags := 9, nameIndex := 112, descriptorIndex := 113, attributes := #[] }] 49 2 #[] #[{ accessFlags := 18, nameIndex := 11, descriptorIndex := 12, attributes := #[] }, { accessFlags := 18, nameIndex := 15, descriptorIndex := 16, attributes := #[] }, { accessFlags := 18, nameIndex := 19, descriptorIndex := 20, attributes := #[] }])
  fields := #[{ name := "status", type := .int, accessFlags := 18, slot := 0, constantValue := 0 }, { name := "headers", type := (.object "java/util/Map"), accessFlags := 18, slot := 1, constantValue := 0 }, { name := "body", type := (.array .byte), accessFlags := 18, slot := 2, constantValue := 0 }]
  methods := #[k2m0]
  instanceTypes := #[.int, (.object "java/util/Map"), (.array .byte)]
  staticTypes := #[]
  resolved := Array.replicate 149 none
  statics := none }

def pool3 : Array CpInfo := pool [(1, u "java/lang/Cloneable"), (0, .class_ 1), (0, u "java/lang/Object"), (0, .class_ 3)] 3

/-- java/lang/Cloneable -/
def k3 : Class := { plain "java/lang/Cloneable" (some 0) with
  accessFlags := 1537
  interfaces := #[]
  cf := some (fileOf pool3 2 #[] #[] 1537 4 #[] #[])
  fields := #[]
  methods := #[]
  instanceTypes := #[]
  staticTypes := #[]
  resolved := Array.replicate 8 none
  statics := none }

def pool4 : Array CpInfo := pool [(1, u "java/io/Serializable"), (0, .class_ 1), (0, u "java/lang/Object"), (0, .class_ 3)] 3

/-- java/io/Serializable -/
def k4 : Class := { plain "java/io/Serializable" (some 0) with
  accessFlags := 1537
  interfaces := #[]
  cf := some (fileOf pool4 2 #[] #[] 1537 4 #[] #[])
  fields := #[]
  methods := #[]
  instanceTypes := #[]
  staticTypes := #[]
  resolved := Array.replicate 8 none
  statics := none }

/-- the primitive byte -/
def k5 : Class := { plain "byte" none with kind := .primitive 'B', accessFlags := 0x411 }
/-- [B -/
def k6 : Class := { plain "[B" (some 0) with kind := .array 5 .byte, interfaces := #[3, 4], accessFlags := 1041 }

/-- the primitive int -/
def k7 : Class := { plain "int" none with kind := .primitive 'I', accessFlags := 0x411 }
/-- [I -/
def k8 : Class := { plain "[I" (some 0) with kind := .array 7 .int, interfaces := #[3, 4], accessFlags := 1041 }

def heap : Heap := #[]
def classes : Array Class := #[k0, k1, k2, k3, k4, k5, k6, k7, k8]
def interned : List (Array UInt16 × Addr) := []
def slotsUsed : Nat := 0
def theMethod : MethodId := ⟨1, 1⟩
def args0 : Array Value := #[.int 5, .int 7]
def aboutOver (below : List Frame) : State where
  vm := { classes := classes, interned := interned.toArray }
  heap := heap
  slotsUsed := slotsUsed
  threads := #[{ frames := .invoking theMethod args0 :: below }]
def below0 : List Frame := [.native { method := ⟨0, 0⟩, args := #[] }]
def about1 : State := aboutOver below0
def p0 : Program := .bare "" "" ""
def e0 : Env := launch0.env 0 0 0
theorem w_frames : about1.frames = Frame.invoking theMethod args0 :: below0 := rfl
set_option maxRecDepth 65536 in
theorem w_args : argsFit about1.vm theMethod args0 = true := by decide +kernel
set_option maxRecDepth 65536 in
theorem w_heap : heapFits about1 = true := by decide +kernel
set_option maxRecDepth 65536 in
theorem w_runnable : about1.curStatus? = some .runnable := by decide +kernel
set_option maxRecDepth 65536 in
theorem w_alone : about1.alone = true := by decide +kernel
set_option maxRecDepth 65536 in
theorem w_named : about1.methodNamed? x = some theMethod := by decide +kernel
set_option maxRecDepth 65536 in
theorem w_hears : about1.hears theMethod below0 = true := by decide +kernel
set_option maxRecDepth 65536 in
theorem w_ripe : about1.ripe theMethod args0 below0 = true := by decide +kernel
theorem w_running : about1.status = .running := rfl
set_option maxRecDepth 65536 in
theorem w_room : about1.hasRoom e0.platform room_1 = true :=
  launch0.hasRoom_least _ room_1 (by decide +kernel) (by decide +kernel) (by decide +kernel) (by decide +kernel) (by decide +kernel) (by decide +kernel)
theorem allAtoms_all (ts : List Jvm.Cond) (a : Array Jvm.Value) (st : Jvm.State) : (allAtoms ts).before a st = ts.all (fun c => c.before a st) := by
  induction ts with
  | nil => rfl
  | cons c t ih =>
    show (Jvm.Cond.and c (allAtoms t)).before a st = _
    rw [Jvm.Cond.before_and, ih, List.all_cons]
def words1 : List Jvm.Cond := Jvm.Cond.code x code maxLocals ret :: tables_1
/-- a 'code' word, met by the world's own term for the bytes: nothing is compared byte by byte -/
theorem code_word {y : MethodName} {bytes : ByteArray} {mx : Nat} {rt : Option FieldType} {a : Array Value} {s : State} {m : MethodId} {meth : Method} {c : Code} (h1 : s.methodNamed? y = some m) (h2 : s.vm.method? m = some meth) (h3 : meth.code = some c) (h4 : c.code = bytes)
    (h5 : (c.maxLocals == mx && c.exceptionTable.isEmpty && decide (c.maxStack ≤ mostOperands) && decide (meth.sig.returnType = rt) && !meth.locks && decide (parseMethodDescriptor y.desc = some meth.sig)) = true) : (Jvm.Cond.code y bytes mx rt).before a s = true := by
  simp only [Bool.and_eq_true, beq_iff_eq, Bool.not_eq_true', decide_eq_true_eq] at h5
  obtain ⟨⟨⟨⟨⟨g1, g2⟩, g3⟩, g4⟩, g5⟩, g6⟩ := h5
  simp [Cond.before, Cond.holds, Cond.value, h1, h2, h3, h4, g1, g2, g3, g4, g5, g6]
def isCode : Jvm.Cond → Bool
  | .code _ _ _ _ => true
  | _ => false
theorem all_split {L : List Jvm.Cond} {P : Jvm.Cond → Bool} (h1 : L.all (fun c => isCode c || P c) = true) (h2 : ∀ c ∈ L.filter isCode, P c = true) : L.all P = true := by
  refine List.all_eq_true.mpr fun c hc => ?_
  have h := List.all_eq_true.mp h1 c hc
  rcases Bool.eq_false_or_eq_true (isCode c) with hi | hi
  · exact h2 c (List.mem_filter.mpr ⟨hc, hi⟩)
  · simpa [hi] using h
set_option maxRecDepth 65536 in
theorem w_c0 : (Jvm.Cond.code x code maxLocals ret).before args0 about1 = true := code_word (m := ⟨1, 1⟩) (meth := k1m1) (c := k1c1) (by decide +kernel) rfl rfl rfl (by decide +kernel)
set_option maxRecDepth 65536 in
theorem w_c1 : (Jvm.Cond.code ({ cls := "com/example/answer_once/answeronce/model/Answer", name := "isSuccess", desc := "(I)Z" } : Jvm.MethodName) prog_11_method_6_code (1 : Nat) (Option.some Jvm.ClassFile.FieldType.boolean)).before args0 about1 = true := code_word (m := ⟨2, 0⟩) (meth := k2m0) (c := k2c0) (by decide +kernel) rfl rfl rfl (by decide +kernel)
def codes1 : List Jvm.Cond := [Jvm.Cond.code x code maxLocals ret, Jvm.Cond.code ({ cls := "com/example/answer_once/answeronce/model/Answer", name := "isSuccess", desc := "(I)Z" } : Jvm.MethodName) prog_11_method_6_code (1 : Nat) (Option.some Jvm.ClassFile.FieldType.boolean)]
set_option maxRecDepth 65536 in
theorem codes_eq : words1.filter isCode = codes1 := rfl
theorem w_codes : ∀ c ∈ words1.filter isCode, c.before args0 about1 = true := by
  rw [codes_eq]
  intro c hc
  simp only [codes1, List.mem_cons, List.not_mem_nil, or_false] at hc
  rcases hc with rfl | rfl
  · exact w_c0
  · exact w_c1
set_option maxRecDepth 65536 in
theorem w_t1 : words1.all (fun c => isCode c || c.before args0 about1) = true := by decide +kernel
theorem w_tables : (allAtoms (Jvm.Cond.code x code maxLocals ret :: tables_1)).before args0 about1 = true := by
  rw [allAtoms_all]
  show words1.all (fun c => c.before args0 about1) = true
  refine all_split ?_ w_codes
  rw [w_t1]
set_option maxRecDepth 65536 in
theorem w_case : (Jvm.Cond.and given_1 narrow_1).before args0 about1 = true := by decide +kernel
theorem w_applies : (headSpec (Jvm.Cond.code x code maxLocals ret :: tables_1) room_1).applies x e0.platform about1 = true :=
  (Spec.applies_iff w_frames).mpr ⟨w_running, w_runnable, w_alone, w_named, w_hears, w_ripe, w_room, w_tables⟩
theorem atStart : AtStart classFile x code maxLocals ret World_1 tables_1 room_1 Calls_1 rest_1 Pre_1 launch0 p0 e0 about1 theMethod args0 below0 :=
  ⟨lists_1, trivial, launch0.admits_env _ _ _, launch0.least_env, fairChoices_fair.cas, fairChoices_fair.clock, w_frames, w_args, w_heap, w_applies, trivial, trivial, w_case⟩
end start1
theorem witness_1 : WitnessClaimed_1 := ⟨start1.p0, start1.e0, start1.about1, start1.theMethod, start1.args0, start1.below0, start1.atStart⟩
end Jvm.Pilot.@@N@@
