import JvmDerived
import JvmDerived.Pilot.@@N@@Statement
import JvmDerived.Pilot.@@N@@Code
set_option linter.unusedVariables false
set_option linter.unusedSimpArgs false
namespace Jvm.Pilot.@@N@@
open Jvm Jvm.ClassFile Sem Op Lib Jvm.Free Jvm.Stand Jvm.LawKit Jvm.RoadKit Bundle Jvm.Pilot.@@N@@.Jvm.D
/-- what a walk must still come to -/
def OwnG (p : Program) (e : Env) (below : List Frame) (s : State) (C S : Nat) (Q : Option Value → Heap → List Loc → Prop) (A : State) : Prop :=
  ∃ s₂ o, Steps p.tables e below A s₂ ∧ s₂.status = .running ∧ Ended s₂ below o ∧ ∃ v L, o = .returned v ∧ Q v s₂.heap L ∧ FrameEnd s o s₂ L C S
theorem OwnG.go {p : Program} {e : Env} {below : List Frame} {s : State} {C S : Nat} {Q : Option Value → Heap → List Loc → Prop} {A B : State} (h : ∀ t, Steps p.tables e below A t → Steps p.tables e below B t) (k : OwnG p e below s C S Q A) : OwnG p e below s C S Q B := by
  obtain ⟨s₂, o, k1, k2⟩ := k
  exact ⟨s₂, o, h _ k1, k2⟩
theorem own_fin {p : Program} {l : Launch} {e : Env} {R : Room} {s : State} {m : MethodId} {args : Array Value} {below : List Frame} {meth : Method} {c : Code} {T : State} {locs : List Loc} {cells slots : Nat}
    (X : Stand p l e R s m args below meth c T locs cells slots) {C S : Nat} {Q : Option Value → Heap → List Loc → Prop} (hlocks : meth.locks = false) {v : Option Value} (hv : meth.sig.returnType = none → v = none) {A : State}
    (hst : ∀ fs, (∀ (f : JFrame) (acts : List Action), f.method = m → f.locked = none → f.entered = [] → (doReturn e (T.setTop f) acts v).1 = T.setFrames fs) → Steps p.tables e below A (T.setFrames fs))
    (hQ : Q v T.heap locs) (hc : cells ≤ C) (hs : slots ≤ S) : OwnG p e below s C S Q A := by
  obtain ⟨fs, hr, hrun, hended, hW, hsame⟩ := X.leave (v := v) hv hlocks
  exact ⟨_, _, hst fs hr, hrun, hended, v, locs, rfl, hQ, ⟨_, rfl⟩, hW, hsame.mono hc hs⟩
theorem own_lrem {p : Program} {l : Launch} {e : Env} {R : Room} {s : State} {m : MethodId} {args : Array Value} {below : List Frame} {meth : Method} {c : Code} {T : State} {locs : List Loc} {cells slots : Nat} {g : JFrame} {target : State}
    (X : Stand p l e R s m args below meth c T locs cells slots) (hx : p.tables.exec = Jvm.exec) (hg : g.method = m) {x y : Int64} {rest : List Value} (hd : decode c.code g.pc = .ok (.lrem, 1)) (hs : g.stack = .long y :: .long x :: rest) (hy : y ≠ 0)
    (hr : Steps p.tables e below (T.setTop { g with pc := g.pc + 1, stack := .long (x % y) :: rest }) target) : Steps p.tables e below (T.setTop g) target := by
  have q : x - x / y * y = x % y := lrem_mod x y
  exact XS.lrem X.here hx hg hd hs hy (by rw [q]; exact hr)
theorem own_lclt {a b : Int64} : lcmpW a b < 0 ↔ a < b := by
  unfold lcmpW
  by_cases h1 : a > b
  · simp only [h1, if_true]
    refine ⟨fun h => absurd h (by decide), fun h => ?_⟩
    rw [Int64.lt_iff_toInt_lt] at h; rw [gt_iff_lt, Int64.lt_iff_toInt_lt] at h1; omega
  · by_cases h2 : a = b
    · subst h2; simp [h1]
    · simp only [h1, h2, if_false]
      refine ⟨fun _ => ?_, fun _ => by decide⟩
      rw [gt_iff_lt, Int64.lt_iff_toInt_lt] at h1; rw [Int64.lt_iff_toInt_lt]
      have : a.toInt ≠ b.toInt := fun q => h2 (Int64.toInt_inj.mp q)
      omega
theorem own_lceq {a b : Int64} : lcmpW a b = 0 ↔ a = b := by
  unfold lcmpW
  by_cases h1 : a > b
  · simp only [h1, if_true]
    refine ⟨fun h => absurd h (by decide), fun h => ?_⟩
    subst h; rw [gt_iff_lt, Int64.lt_iff_toInt_lt] at h1; omega
  · by_cases h2 : a = b
    · subst h2; simp [h1]
    · simp only [h1, h2, if_false]
      exact ⟨fun h => absurd h (by decide), fun h => h.elim⟩
theorem own_lcgt {a b : Int64} : 0 < lcmpW a b ↔ b < a := by
  unfold lcmpW
  by_cases h1 : a > b
  · rw [if_pos h1]
    exact ⟨fun _ => h1, fun _ => by decide⟩
  · rw [if_neg h1]
    refine ⟨fun h => ?_, fun h => absurd h h1⟩
    by_cases h2 : a = b
    · rw [if_pos h2] at h; exact absurd h (by decide)
    · rw [if_neg h2] at h; exact absurd h (by decide)

theorem own_mask32 (x m : Int32) (h : 0 ≤ m.toInt) : 0 ≤ (x &&& m).toInt ∧ (x &&& m).toInt ≤ m.toInt := by
  have e : (x &&& m).toInt = (x.toBitVec &&& m.toBitVec).toInt := rfl
  have em : m.toInt = m.toBitVec.toInt := rfl
  have h1 : (x.toBitVec &&& m.toBitVec).toNat ≤ m.toBitVec.toNat := by rw [BitVec.toNat_and]; exact Nat.and_le_right
  have h2 := m.toBitVec.isLt
  rw [BitVec.toInt_eq_toNat_cond] at e em
  rw [em] at h
  rw [e, em]
  generalize (x.toBitVec &&& m.toBitVec).toNat = u at *
  generalize m.toBitVec.toNat = w at *
  split at h <;> split <;> omega
theorem own_mask64 (x m : Int64) (h : 0 ≤ m.toInt) : 0 ≤ (x &&& m).toInt ∧ (x &&& m).toInt ≤ m.toInt := by
  have e : (x &&& m).toInt = (x.toBitVec &&& m.toBitVec).toInt := rfl
  have em : m.toInt = m.toBitVec.toInt := rfl
  have h1 : (x.toBitVec &&& m.toBitVec).toNat ≤ m.toBitVec.toNat := by rw [BitVec.toNat_and]; exact Nat.and_le_right
  have h2 := m.toBitVec.isLt
  rw [BitVec.toInt_eq_toNat_cond] at e em
  rw [em] at h
  rw [e, em]
  generalize (x.toBitVec &&& m.toBitVec).toNat = u at *
  generalize m.toBitVec.toNat = w at *
  split at h <;> split <;> omega
theorem own_add32 {a b : Int32} (h1 : -2147483648 ≤ a.toInt + b.toInt) (h2 : a.toInt + b.toInt < 2147483648) : (a + b).toInt = a.toInt + b.toInt := by
  rw [Int32.toInt_add, Int.bmod_def]; omega
theorem own_sub32 {a b : Int32} (h1 : -2147483648 ≤ a.toInt - b.toInt) (h2 : a.toInt - b.toInt < 2147483648) : (a - b).toInt = a.toInt - b.toInt := by
  rw [Int32.toInt_sub, Int.bmod_def]; omega
theorem own_add64 {a b : Int64} (h1 : -9223372036854775808 ≤ a.toInt + b.toInt) (h2 : a.toInt + b.toInt < 9223372036854775808) : (a + b).toInt = a.toInt + b.toInt := by
  rw [Int64.toInt_add, Int.bmod_def]; omega
theorem own_sub64 {a b : Int64} (h1 : -9223372036854775808 ≤ a.toInt - b.toInt) (h2 : a.toInt - b.toInt < 9223372036854775808) : (a - b).toInt = a.toInt - b.toInt := by
  rw [Int64.toInt_sub, Int.bmod_def]; omega
theorem own_mul64 {a b : Int64} (h1 : -9223372036854775808 ≤ a.toInt * b.toInt) (h2 : a.toInt * b.toInt < 9223372036854775808) : (a * b).toInt = a.toInt * b.toInt := by
  rw [Int64.toInt_mul, Int.bmod_def]
  generalize a.toInt * b.toInt = z at *
  omega
theorem own_rem32 {a b : Int32} (h1 : 0 ≤ a.toInt) (h2 : 0 < b.toInt) : (a % b).toInt = a.toInt % b.toInt := by
  rw [Int32.toInt_mod, Int.tmod_eq_emod_of_nonneg h1]
theorem own_rem64 {a b : Int64} (h1 : 0 ≤ a.toInt) (h2 : 0 < b.toInt) : (a % b).toInt = a.toInt % b.toInt := by
  rw [Int64.toInt_mod, Int.tmod_eq_emod_of_nonneg h1]


theorem own_mod3 (x : Int32) : (x &&& (2147483647 : Int32)) % (3 : Int32) = 0 ∨ (x &&& (2147483647 : Int32)) % (3 : Int32) = 1 ∨ (x &&& (2147483647 : Int32)) % (3 : Int32) = 2 := by
  have h := own_mask32 x 2147483647 (by decide)
  have e3 : (3 : Int32).toInt = 3 := rfl
  have h2 := own_rem32 (b := 3) h.1 (by decide)
  rw [e3] at h2
  have e0 : (0 : Int32).toInt = 0 := rfl
  have e1 : (1 : Int32).toInt = 1 := rfl
  have e2 : (2 : Int32).toInt = 2 := rfl
  rw [← Int32.toInt_inj, ← Int32.toInt_inj, ← Int32.toInt_inj, h2, e0, e1, e2]
  omega


theorem own_eqint {args : Array Value} {s : State} {a : Term} {n : Int32} (h : (Jvm.Cond.eq a (.int n)).value args s none s [] = some true) : a.eval args s none [] s = some (.int n) := by
  have hb : (Term.int n).eval args s none [] s = some (.int n) := rfl
  simp only [Jvm.Cond.value, hb] at h
  cases ha : a.eval args s none [] s with
  | none => simp [ha] at h
  | some x => cases x <;> simp [ha] at h ⊢; exact h
theorem own_eqref {args : Array Value} {s : State} {a b : Term} {y : Addr} (h : (Jvm.Cond.eq a b).value args s none s [] = some true) (hb : b.eval args s none [] s = some (.ref y)) : a.eval args s none [] s = some (.ref y) := by
  simp only [Jvm.Cond.value, hb] at h
  cases ha : a.eval args s none [] s with
  | none => simp [ha] at h
  | some x => cases x <;> simp [ha] at h ⊢; exact h
theorem own_fld {args : Array Value} {s : State} {t : Term} {x : Addr} {C n d : String} {k : Int32} (ht : t.eval args s none [] s = some (.ref x)) (h : (Jvm.Cond.eq (.field t C n d) (.int k)).value args s none s [] = some true) : Fld s s.heap x C n d (.int k) := by
  have e := own_eqint h
  rw [fld_at ht] at e
  exact Fld.start e

theorem d1_0 : decode method_2_code 0 = .ok (.iload_n 0, 1) := by decide +kernel
theorem d1_1 : decode method_2_code 1 = .ok (.ifCond .ne 7, 3) := by decide +kernel
theorem d1_4 : decode method_2_code 4 = .ok (.getstatic 7, 3) := by decide +kernel
theorem d1_7 : decode method_2_code 7 = .ok (.areturn, 1) := by decide +kernel
theorem pn_1 : plainName "com/example/terseline/terseline/DelimiterIsMarkedPinLaw" = true := by first | (simp [plainName, overriddenIn]; done) | decide +kernel
theorem ef_rm1k0 (m : MethodId)  : entryFrame m #[(.int (0 : Int32))] 1 = mkF m 0 #[.val (.int (0 : Int32))] [] := by first | (simp [entryFrame, mkF, argsToLocals, Value.category]; done) | rfl
def Q1k0 (Z : State) (a1 : Addr) (h0 : Heap) (n0 : Nat) (v : Option Value) (h : Heap) (L : List Loc) : Prop := v = some (.ref a1) ∧ Fr n0 L ∧ h = h0
set_option maxRecDepth 65536 in
set_option maxHeartbeats 40000000 in
theorem rm1k0 (l : Launch) (Z : State) (a0 : Array Value) (hw : ∀ d ∈ tables_1, d.before a0 Z = true) (ws : List Jvm.Cond) (a1 : Addr) (h0 : Heap) (n0 : Nat) (Z0 : n0 ≤ h0.size) (S : Sta Z h0 "com/example/terseline/terseline/Delimiter" "COMMA" "Lcom/example/terseline/terseline/Delimiter;" (.ref a1)) :
    MetFree l (⟨"com/example/terseline/terseline/DelimiterIsMarkedPinLaw", "pick", "(I)Lcom/example/terseline/terseline/Delimiter;"⟩ : MethodName) (head1 (Jvm.Cond.code (⟨"com/example/terseline/terseline/DelimiterIsMarkedPinLaw", "pick", "(I)Lcom/example/terseline/terseline/Delimiter;"⟩ : MethodName) method_2_code 1 (some (.object "com/example/terseline/terseline/Delimiter")) :: ws) ({ frames := 0, cells := 0, slots := 0, locals := 0 } : Room)) (fun a U => a = #[(.int (0 : Int32))] ∧ Z.Warmed39 U.vm ∧ U.heap = h0) (fun _ _ _ _ _ => True) (fun _ U o U' => ∃ v L, o = .returned v ∧ Q1k0 Z a1 h0 n0 v U'.heap L ∧ FrameEnd U o U' L ({ frames := 0, cells := 0, slots := 0, locals := 0 } : Room).cells ({ frames := 0, cells := 0, slots := 0, locals := 0 } : Room).slots) := by
  refine MetFree.of_bodySF (plainFor_of_name pn_1) hisR ?_
  intro p e s m args below meth c s₁ Bd hml0 hP hK
  obtain ⟨rfl, hZ, hh⟩ := hP
  have hx := Bd.exec
  have hby := Bd.bytes
  have hml : c.maxLocals = 1 := hml0
  have hown : s.vm.findClass "com/example/terseline/terseline/DelimiterIsMarkedPinLaw" = some m.cls := findClass_of_methodNamed Bd.named
  have hnm := (name_of_methodNamed Bd.named Bd.method).1
  have X0 : Stand p l e ({ frames := 0, cells := 0, slots := 0, locals := 0 } : Room) s m #[(.int (0 : Int32))] below meth c s₁ [] 0 0 := Stand.of_body Bd
  have e0 : s₁.heap = h0 := by rw [← hh, Bd.state]; rfl
  have N0 := Fr.nil n0
  obtain ⟨G, hG⟩ : ∃ G : State → Prop, G = OwnG p e below s ({ frames := 0, cells := 0, slots := 0, locals := 0 } : Room).cells ({ frames := 0, cells := 0, slots := 0, locals := 0 } : Room).slots (Q1k0 Z a1 h0 n0) := ⟨_, rfl⟩
  have go : ∀ {A B : State}, (∀ t, Steps p.tables e below A t → Steps p.tables e below B t) → G A → G B := fun h k => by rw [hG] at k ⊢; exact OwnG.go h k
  suffices k0 : G (s₁.setTop (mkF m 0 #[.val (.int (0 : Int32))] [])) by
    rw [hG] at k0; exact OwnG.go (fun t k => castTop (ef_rm1k0 m ) k) k0
  refine go (fun _ k => XS.iloadN X0.here hx rfl (hb hby d1_0) rfl k) ?_
  show G (s₁.setTop (mkF m 1 #[.val (.int (0 : Int32))] [(.int (0 : Int32))]))
  have hc1 : (0 : Int32) = (0 : Int32) := rfl
  refine go (fun _ k => XS.ifNo X0.here hx rfl (hb hby d1_1) rfl ((if0 _ _).trans (teq hc1).2) k) ?_
  show G (s₁.setTop (mkF m 4 #[.val (.int (0 : Int32))] []))
  obtain ⟨T2, X2, e2, st2⟩ := getS2 X0 hx hZ hown (host := "") (Or.inl (hw _ (List.mem_of_getElem? (i := 5) rfl))) Via.refl e0 S (g := (mkF m 4 #[.val (.int (0 : Int32))] [])) rfl (hb hby d1_4)
  refine go st2 ?_
  show G (T2.setTop (mkF m 7 #[.val (.int (0 : Int32))] [(.ref a1)]))
  rw [hG]
  refine own_fin X2 Bd.notSynchronized (v := some (.ref a1)) (fun h => by rw [Bd.returns] at h; cases h) (fun fs hr => retOut X2 hx Bd.returns rfl (by simp [FieldType.isReference, Value.isRef]) (hb hby d1_7) hr) ?_ (by decide) (by decide)
  show Q1k0 Z a1 h0 n0 (some (.ref a1)) T2.heap _
  rw [e2]
  exact ⟨rfl, N0, rfl⟩

theorem d1_8 : decode method_2_code 8 = .ok (.iload_n 0, 1) := by decide +kernel
theorem d1_9 : decode method_2_code 9 = .ok (.iconst 1, 1) := by decide +kernel
theorem d1_10 : decode method_2_code 10 = .ok (.if_icmp .ne 7, 3) := by decide +kernel
theorem d1_13 : decode method_2_code 13 = .ok (.getstatic 13, 3) := by decide +kernel
theorem d1_16 : decode method_2_code 16 = .ok (.areturn, 1) := by decide +kernel
theorem ef_rm1k1 (m : MethodId)  : entryFrame m #[(.int (1 : Int32))] 1 = mkF m 0 #[.val (.int (1 : Int32))] [] := by first | (simp [entryFrame, mkF, argsToLocals, Value.category]; done) | rfl
def Q1k1 (Z : State) (a1 : Addr) (h0 : Heap) (n0 : Nat) (v : Option Value) (h : Heap) (L : List Loc) : Prop := v = some (.ref a1) ∧ Fr n0 L ∧ h = h0
set_option maxRecDepth 65536 in
set_option maxHeartbeats 40000000 in
theorem rm1k1 (l : Launch) (Z : State) (a0 : Array Value) (hw : ∀ d ∈ tables_1, d.before a0 Z = true) (ws : List Jvm.Cond) (a1 : Addr) (h0 : Heap) (n0 : Nat) (Z0 : n0 ≤ h0.size) (S : Sta Z h0 "com/example/terseline/terseline/Delimiter" "TAB" "Lcom/example/terseline/terseline/Delimiter;" (.ref a1)) :
    MetFree l (⟨"com/example/terseline/terseline/DelimiterIsMarkedPinLaw", "pick", "(I)Lcom/example/terseline/terseline/Delimiter;"⟩ : MethodName) (head1 (Jvm.Cond.code (⟨"com/example/terseline/terseline/DelimiterIsMarkedPinLaw", "pick", "(I)Lcom/example/terseline/terseline/Delimiter;"⟩ : MethodName) method_2_code 1 (some (.object "com/example/terseline/terseline/Delimiter")) :: ws) ({ frames := 0, cells := 0, slots := 0, locals := 0 } : Room)) (fun a U => a = #[(.int (1 : Int32))] ∧ Z.Warmed39 U.vm ∧ U.heap = h0) (fun _ _ _ _ _ => True) (fun _ U o U' => ∃ v L, o = .returned v ∧ Q1k1 Z a1 h0 n0 v U'.heap L ∧ FrameEnd U o U' L ({ frames := 0, cells := 0, slots := 0, locals := 0 } : Room).cells ({ frames := 0, cells := 0, slots := 0, locals := 0 } : Room).slots) := by
  refine MetFree.of_bodySF (plainFor_of_name pn_1) hisR ?_
  intro p e s m args below meth c s₁ Bd hml0 hP hK
  obtain ⟨rfl, hZ, hh⟩ := hP
  have hx := Bd.exec
  have hby := Bd.bytes
  have hml : c.maxLocals = 1 := hml0
  have hown : s.vm.findClass "com/example/terseline/terseline/DelimiterIsMarkedPinLaw" = some m.cls := findClass_of_methodNamed Bd.named
  have hnm := (name_of_methodNamed Bd.named Bd.method).1
  have X0 : Stand p l e ({ frames := 0, cells := 0, slots := 0, locals := 0 } : Room) s m #[(.int (1 : Int32))] below meth c s₁ [] 0 0 := Stand.of_body Bd
  have e0 : s₁.heap = h0 := by rw [← hh, Bd.state]; rfl
  have N0 := Fr.nil n0
  obtain ⟨G, hG⟩ : ∃ G : State → Prop, G = OwnG p e below s ({ frames := 0, cells := 0, slots := 0, locals := 0 } : Room).cells ({ frames := 0, cells := 0, slots := 0, locals := 0 } : Room).slots (Q1k1 Z a1 h0 n0) := ⟨_, rfl⟩
  have go : ∀ {A B : State}, (∀ t, Steps p.tables e below A t → Steps p.tables e below B t) → G A → G B := fun h k => by rw [hG] at k ⊢; exact OwnG.go h k
  suffices k0 : G (s₁.setTop (mkF m 0 #[.val (.int (1 : Int32))] [])) by
    rw [hG] at k0; exact OwnG.go (fun t k => castTop (ef_rm1k1 m ) k) k0
  refine go (fun _ k => XS.iloadN X0.here hx rfl (hb hby d1_0) rfl k) ?_
  show G (s₁.setTop (mkF m 1 #[.val (.int (1 : Int32))] [(.int (1 : Int32))]))
  have hc1 : ¬ ((1 : Int32) = (0 : Int32)) := (by decide)
  refine go (fun _ k => XS.ifYes X0.here hx rfl (pc0 := 1) (pc' := 8) rfl (hb hby d1_1) rfl ((if0 _ _).trans (feq hc1).2) (by decide) (by decide) k) ?_
  show G (s₁.setTop (mkF m 8 #[.val (.int (1 : Int32))] []))
  refine go (fun _ k => XS.iloadN X0.here hx rfl (hb hby d1_8) rfl k) ?_
  show G (s₁.setTop (mkF m 9 #[.val (.int (1 : Int32))] [(.int (1 : Int32))]))
  refine go (fun _ k => XS.iconst X0.here hx rfl (hb hby d1_9) k) ?_
  show G (s₁.setTop (mkF m 10 #[.val (.int (1 : Int32))] [(.int (1 : Int32)), (.int (1 : Int32))]))
  have hc2 : (1 : Int32) = (1 : Int32) := rfl
  refine go (fun _ k => XS.icmpNo X0.here hx rfl (hb hby d1_10) rfl (teq hc2).2 k) ?_
  show G (s₁.setTop (mkF m 13 #[.val (.int (1 : Int32))] []))
  obtain ⟨T3, X3, e3, st3⟩ := getS2 X0 hx hZ hown (host := "") (Or.inl (hw _ (List.mem_of_getElem? (i := 23) rfl))) Via.refl e0 S (g := (mkF m 13 #[.val (.int (1 : Int32))] [])) rfl (hb hby d1_13)
  refine go st3 ?_
  show G (T3.setTop (mkF m 16 #[.val (.int (1 : Int32))] [(.ref a1)]))
  rw [hG]
  refine own_fin X3 Bd.notSynchronized (v := some (.ref a1)) (fun h => by rw [Bd.returns] at h; cases h) (fun fs hr => retOut X3 hx Bd.returns rfl (by simp [FieldType.isReference, Value.isRef]) (hb hby d1_16) hr) ?_ (by decide) (by decide)
  show Q1k1 Z a1 h0 n0 (some (.ref a1)) T3.heap _
  rw [e3]
  exact ⟨rfl, N0, rfl⟩

theorem d1_17 : decode method_2_code 17 = .ok (.getstatic 16, 3) := by decide +kernel
theorem d1_20 : decode method_2_code 20 = .ok (.areturn, 1) := by decide +kernel
theorem ef_rm1k2 (m : MethodId)  : entryFrame m #[(.int (2 : Int32))] 1 = mkF m 0 #[.val (.int (2 : Int32))] [] := by first | (simp [entryFrame, mkF, argsToLocals, Value.category]; done) | rfl
def Q1k2 (Z : State) (a1 : Addr) (h0 : Heap) (n0 : Nat) (v : Option Value) (h : Heap) (L : List Loc) : Prop := v = some (.ref a1) ∧ Fr n0 L ∧ h = h0
set_option maxRecDepth 65536 in
set_option maxHeartbeats 40000000 in
theorem rm1k2 (l : Launch) (Z : State) (a0 : Array Value) (hw : ∀ d ∈ tables_1, d.before a0 Z = true) (ws : List Jvm.Cond) (a1 : Addr) (h0 : Heap) (n0 : Nat) (Z0 : n0 ≤ h0.size) (S : Sta Z h0 "com/example/terseline/terseline/Delimiter" "PIPE" "Lcom/example/terseline/terseline/Delimiter;" (.ref a1)) :
    MetFree l (⟨"com/example/terseline/terseline/DelimiterIsMarkedPinLaw", "pick", "(I)Lcom/example/terseline/terseline/Delimiter;"⟩ : MethodName) (head1 (Jvm.Cond.code (⟨"com/example/terseline/terseline/DelimiterIsMarkedPinLaw", "pick", "(I)Lcom/example/terseline/terseline/Delimiter;"⟩ : MethodName) method_2_code 1 (some (.object "com/example/terseline/terseline/Delimiter")) :: ws) ({ frames := 0, cells := 0, slots := 0, locals := 0 } : Room)) (fun a U => a = #[(.int (2 : Int32))] ∧ Z.Warmed39 U.vm ∧ U.heap = h0) (fun _ _ _ _ _ => True) (fun _ U o U' => ∃ v L, o = .returned v ∧ Q1k2 Z a1 h0 n0 v U'.heap L ∧ FrameEnd U o U' L ({ frames := 0, cells := 0, slots := 0, locals := 0 } : Room).cells ({ frames := 0, cells := 0, slots := 0, locals := 0 } : Room).slots) := by
  refine MetFree.of_bodySF (plainFor_of_name pn_1) hisR ?_
  intro p e s m args below meth c s₁ Bd hml0 hP hK
  obtain ⟨rfl, hZ, hh⟩ := hP
  have hx := Bd.exec
  have hby := Bd.bytes
  have hml : c.maxLocals = 1 := hml0
  have hown : s.vm.findClass "com/example/terseline/terseline/DelimiterIsMarkedPinLaw" = some m.cls := findClass_of_methodNamed Bd.named
  have hnm := (name_of_methodNamed Bd.named Bd.method).1
  have X0 : Stand p l e ({ frames := 0, cells := 0, slots := 0, locals := 0 } : Room) s m #[(.int (2 : Int32))] below meth c s₁ [] 0 0 := Stand.of_body Bd
  have e0 : s₁.heap = h0 := by rw [← hh, Bd.state]; rfl
  have N0 := Fr.nil n0
  obtain ⟨G, hG⟩ : ∃ G : State → Prop, G = OwnG p e below s ({ frames := 0, cells := 0, slots := 0, locals := 0 } : Room).cells ({ frames := 0, cells := 0, slots := 0, locals := 0 } : Room).slots (Q1k2 Z a1 h0 n0) := ⟨_, rfl⟩
  have go : ∀ {A B : State}, (∀ t, Steps p.tables e below A t → Steps p.tables e below B t) → G A → G B := fun h k => by rw [hG] at k ⊢; exact OwnG.go h k
  suffices k0 : G (s₁.setTop (mkF m 0 #[.val (.int (2 : Int32))] [])) by
    rw [hG] at k0; exact OwnG.go (fun t k => castTop (ef_rm1k2 m ) k) k0
  refine go (fun _ k => XS.iloadN X0.here hx rfl (hb hby d1_0) rfl k) ?_
  show G (s₁.setTop (mkF m 1 #[.val (.int (2 : Int32))] [(.int (2 : Int32))]))
  have hc1 : ¬ ((2 : Int32) = (0 : Int32)) := (by decide)
  refine go (fun _ k => XS.ifYes X0.here hx rfl (pc0 := 1) (pc' := 8) rfl (hb hby d1_1) rfl ((if0 _ _).trans (feq hc1).2) (by decide) (by decide) k) ?_
  show G (s₁.setTop (mkF m 8 #[.val (.int (2 : Int32))] []))
  refine go (fun _ k => XS.iloadN X0.here hx rfl (hb hby d1_8) rfl k) ?_
  show G (s₁.setTop (mkF m 9 #[.val (.int (2 : Int32))] [(.int (2 : Int32))]))
  refine go (fun _ k => XS.iconst X0.here hx rfl (hb hby d1_9) k) ?_
  show G (s₁.setTop (mkF m 10 #[.val (.int (2 : Int32))] [(.int (1 : Int32)), (.int (2 : Int32))]))
  have hc2 : ¬ ((2 : Int32) = (1 : Int32)) := (by decide)
  refine go (fun _ k => XS.icmpYes X0.here hx rfl (pc0 := 10) (pc' := 17) rfl (hb hby d1_10) rfl (feq hc2).2 (by decide) (by decide) k) ?_
  show G (s₁.setTop (mkF m 17 #[.val (.int (2 : Int32))] []))
  obtain ⟨T3, X3, e3, st3⟩ := getS2 X0 hx hZ hown (host := "") (Or.inl (hw _ (List.mem_of_getElem? (i := 21) rfl))) Via.refl e0 S (g := (mkF m 17 #[.val (.int (2 : Int32))] [])) rfl (hb hby d1_17)
  refine go st3 ?_
  show G (T3.setTop (mkF m 20 #[.val (.int (2 : Int32))] [(.ref a1)]))
  rw [hG]
  refine own_fin X3 Bd.notSynchronized (v := some (.ref a1)) (fun h => by rw [Bd.returns] at h; cases h) (fun fs hr => retOut X3 hx Bd.returns rfl (by simp [FieldType.isReference, Value.isRef]) (hb hby d1_20) hr) ?_ (by decide) (by decide)
  show Q1k2 Z a1 h0 n0 (some (.ref a1)) T3.heap _
  rw [e3]
  exact ⟨rfl, N0, rfl⟩

theorem d2_0 : decode prog_11_method_5_code 0 = .ok (.aload_n 0, 1) := by decide +kernel
theorem d2_1 : decode prog_11_method_5_code 1 = .ok (.getstatic 3, 3) := by decide +kernel
theorem d2_4 : decode prog_11_method_5_code 4 = .ok (.if_acmp .eq 7, 3) := by decide +kernel
theorem d2_11 : decode prog_11_method_5_code 11 = .ok (.iconst 0, 1) := by decide +kernel
theorem d2_12 : decode prog_11_method_5_code 12 = .ok (.ireturn, 1) := by decide +kernel
theorem pn_2 : plainName "com/example/terseline/terseline/Delimiter" = true := by first | (simp [plainName, overriddenIn]; done) | decide +kernel
theorem ef_rm2c (m : MethodId) (a1 : Addr) : entryFrame m #[(.ref a1)] 1 = mkF m 0 #[.val (.ref a1)] [] := by first | (simp [entryFrame, mkF, argsToLocals, Value.category]; done) | rfl
def Q2c (Z : State) (a1 : Addr) (h0 : Heap) (n0 : Nat) (v : Option Value) (h : Heap) (L : List Loc) : Prop := v = some (.int (0 : Int32)) ∧ Fr n0 L ∧ h = h0
set_option maxRecDepth 65536 in
set_option maxHeartbeats 40000000 in
theorem rm2c (l : Launch) (Z : State) (a0 : Array Value) (hw : ∀ d ∈ tables_1, d.before a0 Z = true) (ws : List Jvm.Cond) (a1 : Addr) (h0 : Heap) (n0 : Nat) (Z0 : n0 ≤ h0.size) (SC : Sta Z h0 "com/example/terseline/terseline/Delimiter" "COMMA" "Lcom/example/terseline/terseline/Delimiter;" (.ref a1)) :
    MetFree l (⟨"com/example/terseline/terseline/Delimiter", "isMarked", "()Z"⟩ : MethodName) (head1 (Jvm.Cond.code (⟨"com/example/terseline/terseline/Delimiter", "isMarked", "()Z"⟩ : MethodName) prog_11_method_5_code 1 (some .boolean) :: ws) ({ frames := 0, cells := 0, slots := 0, locals := 0 } : Room)) (fun a U => a = #[(.ref a1)] ∧ Z.Warmed39 U.vm ∧ U.heap = h0) (fun _ _ _ _ _ => True) (fun _ U o U' => ∃ v L, o = .returned v ∧ Q2c Z a1 h0 n0 v U'.heap L ∧ FrameEnd U o U' L ({ frames := 0, cells := 0, slots := 0, locals := 0 } : Room).cells ({ frames := 0, cells := 0, slots := 0, locals := 0 } : Room).slots) := by
  refine MetFree.of_bodySF (plainFor_of_name pn_2) hisR ?_
  intro p e s m args below meth c s₁ Bd hml0 hP hK
  obtain ⟨rfl, hZ, hh⟩ := hP
  have hx := Bd.exec
  have hby := Bd.bytes
  have hml : c.maxLocals = 1 := hml0
  have hown : s.vm.findClass "com/example/terseline/terseline/Delimiter" = some m.cls := findClass_of_methodNamed Bd.named
  have hnm := (name_of_methodNamed Bd.named Bd.method).1
  have X0 : Stand p l e ({ frames := 0, cells := 0, slots := 0, locals := 0 } : Room) s m #[(.ref a1)] below meth c s₁ [] 0 0 := Stand.of_body Bd
  have e0 : s₁.heap = h0 := by rw [← hh, Bd.state]; rfl
  have N0 := Fr.nil n0
  obtain ⟨G, hG⟩ : ∃ G : State → Prop, G = OwnG p e below s ({ frames := 0, cells := 0, slots := 0, locals := 0 } : Room).cells ({ frames := 0, cells := 0, slots := 0, locals := 0 } : Room).slots (Q2c Z a1 h0 n0) := ⟨_, rfl⟩
  have go : ∀ {A B : State}, (∀ t, Steps p.tables e below A t → Steps p.tables e below B t) → G A → G B := fun h k => by rw [hG] at k ⊢; exact OwnG.go h k
  suffices k0 : G (s₁.setTop (mkF m 0 #[.val (.ref a1)] [])) by
    rw [hG] at k0; exact OwnG.go (fun t k => castTop (ef_rm2c m a1) k) k0
  refine go (fun _ k => XS.aloadN X0.here hx rfl (hb hby d2_0) rfl rfl k) ?_
  show G (s₁.setTop (mkF m 1 #[.val (.ref a1)] [(.ref a1)]))
  obtain ⟨T1, X1, e1, st1⟩ := getS2 X0 hx hZ hown (host := "") (Or.inl (hw _ (List.mem_of_getElem? (i := 13) rfl))) Via.refl e0 SC (g := (mkF m 1 #[.val (.ref a1)] [(.ref a1)])) rfl (hb hby d2_1)
  refine go st1 ?_
  show G (T1.setTop (mkF m 4 #[.val (.ref a1)] [(.ref a1), (.ref a1)]))
  refine go (fun _ k => Jvm.RoadKit.acmp (g := (mkF m 4 #[.val (.ref a1)] [(.ref a1), (.ref a1)])) X1 hx rfl rfl rfl (pc0 := 4) (pc' := 11) (same := true) rfl (hb hby d2_4) rfl (decide_eq_true rfl) (by decide) (by decide) k) ?_
  show G (T1.setTop (mkF m 11 #[.val (.ref a1)] []))
  refine go (fun _ k => XS.iconst X1.here hx rfl (hb hby d2_11) k) ?_
  show G (T1.setTop (mkF m 12 #[.val (.ref a1)] [(.int (0 : Int32))]))
  rw [hG]
  refine own_fin X1 Bd.notSynchronized (v := some (.int (0 : Int32))) (fun h => by rw [Bd.returns] at h; cases h) (fun fs hr => retOut X1 hx Bd.returns rfl (by simp [FieldType.isReference, Value.isRef]) (hb hby d2_12) hr) ?_ (by decide) (by decide)
  show Q2c Z a1 h0 n0 (some (.int (0 : Int32))) T1.heap _
  rw [e1]
  exact ⟨rfl, N0, rfl⟩
theorem d2_7 : decode prog_11_method_5_code 7 = .ok (.iconst 1, 1) := by decide +kernel
theorem d2_8 : decode prog_11_method_5_code 8 = .ok (.goto 4, 3) := by decide +kernel
theorem ef_rm2o (m : MethodId) (a1 : Addr) : entryFrame m #[(.ref a1)] 1 = mkF m 0 #[.val (.ref a1)] [] := by first | (simp [entryFrame, mkF, argsToLocals, Value.category]; done) | rfl
def Q2o (Z : State) (a1 : Addr) (aC : Addr) (h0 : Heap) (n0 : Nat) (v : Option Value) (h : Heap) (L : List Loc) : Prop := v = some (.int (1 : Int32)) ∧ Fr n0 L ∧ h = h0
set_option maxRecDepth 65536 in
set_option maxHeartbeats 40000000 in
theorem rm2o (l : Launch) (Z : State) (a0 : Array Value) (hw : ∀ d ∈ tables_1, d.before a0 Z = true) (ws : List Jvm.Cond) (a1 : Addr) (aC : Addr) (h0 : Heap) (n0 : Nat) (Z0 : n0 ≤ h0.size) (SC : Sta Z h0 "com/example/terseline/terseline/Delimiter" "COMMA" "Lcom/example/terseline/terseline/Delimiter;" (.ref aC)) (hne : a1 ≠ aC) :
    MetFree l (⟨"com/example/terseline/terseline/Delimiter", "isMarked", "()Z"⟩ : MethodName) (head1 (Jvm.Cond.code (⟨"com/example/terseline/terseline/Delimiter", "isMarked", "()Z"⟩ : MethodName) prog_11_method_5_code 1 (some .boolean) :: ws) ({ frames := 0, cells := 0, slots := 0, locals := 0 } : Room)) (fun a U => a = #[(.ref a1)] ∧ Z.Warmed39 U.vm ∧ U.heap = h0) (fun _ _ _ _ _ => True) (fun _ U o U' => ∃ v L, o = .returned v ∧ Q2o Z a1 aC h0 n0 v U'.heap L ∧ FrameEnd U o U' L ({ frames := 0, cells := 0, slots := 0, locals := 0 } : Room).cells ({ frames := 0, cells := 0, slots := 0, locals := 0 } : Room).slots) := by
  refine MetFree.of_bodySF (plainFor_of_name pn_2) hisR ?_
  intro p e s m args below meth c s₁ Bd hml0 hP hK
  obtain ⟨rfl, hZ, hh⟩ := hP
  have hx := Bd.exec
  have hby := Bd.bytes
  have hml : c.maxLocals = 1 := hml0
  have hown : s.vm.findClass "com/example/terseline/terseline/Delimiter" = some m.cls := findClass_of_methodNamed Bd.named
  have hnm := (name_of_methodNamed Bd.named Bd.method).1
  have X0 : Stand p l e ({ frames := 0, cells := 0, slots := 0, locals := 0 } : Room) s m #[(.ref a1)] below meth c s₁ [] 0 0 := Stand.of_body Bd
  have e0 : s₁.heap = h0 := by rw [← hh, Bd.state]; rfl
  have N0 := Fr.nil n0
  obtain ⟨G, hG⟩ : ∃ G : State → Prop, G = OwnG p e below s ({ frames := 0, cells := 0, slots := 0, locals := 0 } : Room).cells ({ frames := 0, cells := 0, slots := 0, locals := 0 } : Room).slots (Q2o Z a1 aC h0 n0) := ⟨_, rfl⟩
  have go : ∀ {A B : State}, (∀ t, Steps p.tables e below A t → Steps p.tables e below B t) → G A → G B := fun h k => by rw [hG] at k ⊢; exact OwnG.go h k
  suffices k0 : G (s₁.setTop (mkF m 0 #[.val (.ref a1)] [])) by
    rw [hG] at k0; exact OwnG.go (fun t k => castTop (ef_rm2o m a1) k) k0
  refine go (fun _ k => XS.aloadN X0.here hx rfl (hb hby d2_0) rfl rfl k) ?_
  show G (s₁.setTop (mkF m 1 #[.val (.ref a1)] [(.ref a1)]))
  obtain ⟨T1, X1, e1, st1⟩ := getS2 X0 hx hZ hown (host := "") (Or.inl (hw _ (List.mem_of_getElem? (i := 13) rfl))) Via.refl e0 SC (g := (mkF m 1 #[.val (.ref a1)] [(.ref a1)])) rfl (hb hby d2_1)
  refine go st1 ?_
  show G (T1.setTop (mkF m 4 #[.val (.ref a1)] [(.ref aC), (.ref a1)]))
  refine go (fun _ k => Jvm.RoadKit.acmp (g := (mkF m 4 #[.val (.ref a1)] [(.ref aC), (.ref a1)])) X1 hx rfl rfl rfl (pc0 := 4) (pc' := 7) (same := false) rfl (hb hby d2_4) rfl (decide_eq_false fun q => hne (Value.ref.inj q)) (by decide) (by decide) k) ?_
  show G (T1.setTop (mkF m 7 #[.val (.ref a1)] []))
  refine go (fun _ k => XS.iconst X1.here hx rfl (hb hby d2_7) k) ?_
  show G (T1.setTop (mkF m 8 #[.val (.ref a1)] [(.int (1 : Int32))]))
  refine go (fun _ k => XS.goto X1.here hx rfl (pc0 := 8) (pc' := 12) rfl (hb hby d2_8) (by decide) (by decide) k) ?_
  show G (T1.setTop (mkF m 12 #[.val (.ref a1)] [(.int (1 : Int32))]))
  rw [hG]
  refine own_fin X1 Bd.notSynchronized (v := some (.int (1 : Int32))) (fun h => by rw [Bd.returns] at h; cases h) (fun fs hr => retOut X1 hx Bd.returns rfl (by simp [FieldType.isReference, Value.isRef]) (hb hby d2_12) hr) ?_ (by decide) (by decide)
  show Q2o Z a1 aC h0 n0 (some (.int (1 : Int32))) T1.heap _
  rw [e1]
  exact ⟨rfl, N0, rfl⟩

theorem d3_0 : decode prog_11_method_4_code 0 = .ok (.aload_n 0, 1) := by decide +kernel
theorem d3_1 : decode prog_11_method_4_code 1 = .ok (.getfield 32, 3) := by decide +kernel
theorem d3_4 : decode prog_11_method_4_code 4 = .ok (.ireturn, 1) := by decide +kernel
theorem pn_3 : plainName "com/example/terseline/terseline/Delimiter" = true := by first | (simp [plainName, overriddenIn]; done) | decide +kernel
theorem ef_rm3 (m : MethodId) (a1 : Addr) : entryFrame m #[(.ref a1)] 1 = mkF m 0 #[.val (.ref a1)] [] := by first | (simp [entryFrame, mkF, argsToLocals, Value.category]; done) | rfl
def Q3 (Z : State) (a1 : Addr) (ch : Int32) (h0 : Heap) (n0 : Nat) (v : Option Value) (h : Heap) (L : List Loc) : Prop := v = some (.int (nar .char ch)) ∧ Fr n0 L ∧ h = h0
set_option maxRecDepth 65536 in
set_option maxHeartbeats 40000000 in
theorem rm3 (l : Launch) (Z : State) (a0 : Array Value) (hw : ∀ d ∈ tables_1, d.before a0 Z = true) (ws : List Jvm.Cond) (a1 : Addr) (ch : Int32) (h0 : Heap) (n0 : Nat) (Z0 : n0 ≤ h0.size) (F : Fld Z h0 a1 "com/example/terseline/terseline/Delimiter" "character" "C" (.int ch)) :
    MetFree l (⟨"com/example/terseline/terseline/Delimiter", "character", "()C"⟩ : MethodName) (head1 (Jvm.Cond.code (⟨"com/example/terseline/terseline/Delimiter", "character", "()C"⟩ : MethodName) prog_11_method_4_code 1 (some .char) :: ws) ({ frames := 0, cells := 0, slots := 0, locals := 0 } : Room)) (fun a U => a = #[(.ref a1)] ∧ Z.Warmed39 U.vm ∧ U.heap = h0) (fun _ _ _ _ _ => True) (fun _ U o U' => ∃ v L, o = .returned v ∧ Q3 Z a1 ch h0 n0 v U'.heap L ∧ FrameEnd U o U' L ({ frames := 0, cells := 0, slots := 0, locals := 0 } : Room).cells ({ frames := 0, cells := 0, slots := 0, locals := 0 } : Room).slots) := by
  refine MetFree.of_bodySF (plainFor_of_name pn_3) hisR ?_
  intro p e s m args below meth c s₁ Bd hml0 hP hK
  obtain ⟨rfl, hZ, hh⟩ := hP
  have hx := Bd.exec
  have hby := Bd.bytes
  have hml : c.maxLocals = 1 := hml0
  have hown : s.vm.findClass "com/example/terseline/terseline/Delimiter" = some m.cls := findClass_of_methodNamed Bd.named
  have hnm := (name_of_methodNamed Bd.named Bd.method).1
  have X0 : Stand p l e ({ frames := 0, cells := 0, slots := 0, locals := 0 } : Room) s m #[(.ref a1)] below meth c s₁ [] 0 0 := Stand.of_body Bd
  have e0 : s₁.heap = h0 := by rw [← hh, Bd.state]; rfl
  have N0 := Fr.nil n0
  obtain ⟨G, hG⟩ : ∃ G : State → Prop, G = OwnG p e below s ({ frames := 0, cells := 0, slots := 0, locals := 0 } : Room).cells ({ frames := 0, cells := 0, slots := 0, locals := 0 } : Room).slots (Q3 Z a1 ch h0 n0) := ⟨_, rfl⟩
  have go : ∀ {A B : State}, (∀ t, Steps p.tables e below A t → Steps p.tables e below B t) → G A → G B := fun h k => by rw [hG] at k ⊢; exact OwnG.go h k
  suffices k0 : G (s₁.setTop (mkF m 0 #[.val (.ref a1)] [])) by
    rw [hG] at k0; exact OwnG.go (fun t k => castTop (ef_rm3 m a1) k) k0
  refine go (fun _ k => XS.aloadN X0.here hx rfl (hb hby d3_0) rfl rfl k) ?_
  show G (s₁.setTop (mkF m 1 #[.val (.ref a1)] [(.ref a1)]))
  obtain ⟨T1, X1, e1, st1⟩ := getF X0 hx hZ hown (host := "") (Or.inl (hw _ (List.mem_of_getElem? (i := 19) rfl))) Via.refl e0 F (g := (mkF m 1 #[.val (.ref a1)] [(.ref a1)])) rfl rfl (hb hby d3_1)
  refine go st1 ?_
  show G (T1.setTop (mkF m 4 #[.val (.ref a1)] [(.int ch)]))
  rw [hG]
  refine own_fin X1 Bd.notSynchronized (v := some (.int (nar .char ch))) (fun h => by rw [Bd.returns] at h; cases h) (fun fs hr => retN X1 hx (t := .char) Bd.returns (by simp) (hb hby d3_4) hr) ?_ (by decide) (by decide)
  show Q3 Z a1 ch h0 n0 (some (.int (nar .char ch))) T1.heap _
  rw [e1]
  exact ⟨rfl, N0, rfl⟩

theorem pn_0 : plainName "com/example/terseline/terseline/DelimiterIsMarkedPinLaw" = true := by first | (simp [plainName, overriddenIn]; done) | decide +kernel
theorem pd_0_0 : parseMethodDescriptor "(I)Lcom/example/terseline/terseline/Delimiter;" = some ⟨[.int], some (.object "com/example/terseline/terseline/Delimiter")⟩ := by decide +kernel
theorem pd_0_1 : parseMethodDescriptor "()Z" = some ⟨[], some .boolean⟩ := by decide +kernel
theorem pd_0_2 : parseMethodDescriptor "()C" = some ⟨[], some .char⟩ := by decide +kernel
theorem ef_rm0 (m : MethodId) (p1 : Int32) : entryFrame m #[(.int p1)] maxLocals = mkF m 0 #[.val (.int p1), .unset, .unset, .unset, .unset, .unset] [] := by first | (simp [entryFrame, mkF, argsToLocals, Value.category, maxLocals]; done) | rfl
def Q0 (Z : State) (p1 : Int32) (aC aT aP : Addr) (h0 : Heap) (n0 : Nat) (v : Option Value) (h : Heap) (L : List Loc) : Prop := v = some (.int (1 : Int32)) ∧ Fr n0 L
set_option maxRecDepth 65536 in
set_option maxHeartbeats 40000000 in
theorem rm0 (l : Launch) (Z : State) (a0 : Array Value) (hw : ∀ d ∈ tables_1, d.before a0 Z = true) (ws : List Jvm.Cond) (p1 : Int32) (aC aT aP : Addr) (h0 : Heap) (n0 : Nat) (Z0 : n0 ≤ h0.size) (SaC : Sta Z h0 "com/example/terseline/terseline/Delimiter" "COMMA" "Lcom/example/terseline/terseline/Delimiter;" (.ref aC)) (EaC : Exa Z h0 aC "com/example/terseline/terseline/Delimiter") (FaC : Fld Z h0 aC "com/example/terseline/terseline/Delimiter" "character" "C" (.int (44 : Int32))) (SaT : Sta Z h0 "com/example/terseline/terseline/Delimiter" "TAB" "Lcom/example/terseline/terseline/Delimiter;" (.ref aT)) (EaT : Exa Z h0 aT "com/example/terseline/terseline/Delimiter") (FaT : Fld Z h0 aT "com/example/terseline/terseline/Delimiter" "character" "C" (.int (9 : Int32))) (SaP : Sta Z h0 "com/example/terseline/terseline/Delimiter" "PIPE" "Lcom/example/terseline/terseline/Delimiter;" (.ref aP)) (EaP : Exa Z h0 aP "com/example/terseline/terseline/Delimiter") (FaP : Fld Z h0 aP "com/example/terseline/terseline/Delimiter" "character" "C" (.int (124 : Int32))) :
    MetFree l x (head1 (Jvm.Cond.code x code maxLocals ret :: ws) room_1) (fun a U => a = #[(.int p1)] ∧ Z.Warmed39 U.vm ∧ U.heap = h0) (fun _ _ _ _ _ => True) (fun _ U o U' => ∃ v L, o = .returned v ∧ Q0 Z p1 aC aT aP h0 n0 v U'.heap L ∧ FrameEnd U o U' L room_1.cells room_1.slots) := by
  refine MetFree.of_bodySF (plainFor_of_name pn_0) hisR ?_
  intro p e s m args below meth c s₁ Bd hml0 hP hK
  obtain ⟨rfl, hZ, hh⟩ := hP
  have hx := Bd.exec
  have hby := Bd.bytes
  have hml : c.maxLocals = 6 := hml0
  have hown : s.vm.findClass "com/example/terseline/terseline/DelimiterIsMarkedPinLaw" = some m.cls := findClass_of_methodNamed Bd.named
  have hnm := (name_of_methodNamed Bd.named Bd.method).1
  have X0 : Stand p l e room_1 s m #[(.int p1)] below meth c s₁ [] 0 0 := Stand.of_body Bd
  have e0 : s₁.heap = h0 := by rw [← hh, Bd.state]; rfl
  have N0 := Fr.nil n0
  obtain ⟨G, hG⟩ : ∃ G : State → Prop, G = OwnG p e below s room_1.cells room_1.slots (Q0 Z p1 aC aT aP h0 n0) := ⟨_, rfl⟩
  have go : ∀ {A B : State}, (∀ t, Steps p.tables e below A t → Steps p.tables e below B t) → G A → G B := fun h k => by rw [hG] at k ⊢; exact OwnG.go h k
  suffices k0 : G (s₁.setTop (mkF m 0 #[.val (.int p1), .unset, .unset, .unset, .unset, .unset] [])) by
    rw [hG] at k0; exact OwnG.go (fun t k => castTop (ef_rm0 m p1) k) k0
  refine go (fun _ k => XS.iloadN X0.here hx rfl (hb hby at_0) rfl k) ?_
  show G (s₁.setTop (mkF m 1 #[.val (.int p1), .unset, .unset, .unset, .unset, .unset] [(.int p1)]))
  refine go (X0.ldcInt hx hown (mvT hZ (hw _ (List.mem_of_getElem? (i := 0) rfl))) (g := (mkF m 1 #[.val (.int p1), .unset, .unset, .unset, .unset, .unset] [(.int p1)])) rfl (hb hby at_1)) ?_
  show G (s₁.setTop (mkF m 3 #[.val (.int p1), .unset, .unset, .unset, .unset, .unset] [(.int (2147483647 : Int32)), (.int p1)]))
  refine go (fun _ k => XS.iand X0.here hx rfl (hb hby at_3) rfl k) ?_
  show G (s₁.setTop (mkF m 4 #[.val (.int p1), .unset, .unset, .unset, .unset, .unset] [(.int (p1 &&& (2147483647 : Int32)))]))
  refine go (fun _ k => XS.iconst X0.here hx rfl (hb hby at_4) k) ?_
  show G (s₁.setTop (mkF m 5 #[.val (.int p1), .unset, .unset, .unset, .unset, .unset] [(.int (3 : Int32)), (.int (p1 &&& (2147483647 : Int32)))]))
  refine go (fun _ k => iremM X0 hx rfl (hb hby at_5) rfl (by decide) k) ?_
  show G (s₁.setTop (mkF m 6 #[.val (.int p1), .unset, .unset, .unset, .unset, .unset] [(.int ((p1 &&& (2147483647 : Int32)) % (3 : Int32)))]))
  refine go (fun _ k => XS.istoreN X0.here hx rfl (hb hby at_6) rfl (l' := #[.val (.int p1), .val (.int ((p1 &&& (2147483647 : Int32)) % (3 : Int32))), .unset, .unset, .unset, .unset]) rfl k) ?_
  show G (s₁.setTop (mkF m 7 #[.val (.int p1), .val (.int ((p1 &&& (2147483647 : Int32)) % (3 : Int32))), .unset, .unset, .unset, .unset] []))
  have hz := own_mod3 p1
  generalize ((p1 &&& (2147483647 : Int32)) % (3 : Int32)) = z at hz
  rcases hz with rfl | rfl | rfl
  · show G (s₁.setTop (mkF m 7 #[.val (.int p1), .val (.int (0 : Int32)), .unset, .unset, .unset, .unset] []))
    refine go (fun _ k => XS.iloadN X0.here hx rfl (hb hby at_7) rfl k) ?_
    show G (s₁.setTop (mkF m 8 #[.val (.int p1), .val (.int (0 : Int32)), .unset, .unset, .unset, .unset] [(.int (0 : Int32))]))
    obtain ⟨_, _, ⟨T1, L1, k1, n1⟩, -, X1, ⟨Lc1, hQ1, l1, y1, z1⟩, st1⟩ := Jvm.LawKit.callS X0 hx (y := (⟨"com/example/terseline/terseline/DelimiterIsMarkedPinLaw", "pick", "(I)Lcom/example/terseline/terseline/Delimiter;"⟩ : MethodName)) hown (mvT hZ (hw _ (List.mem_of_getElem? (i := 1) rfl))) (mvT hZ (hw _ (List.mem_of_getElem? (i := 2) rfl))) (mvT hZ (hw _ (List.mem_of_getElem? (i := 3) rfl))) (mvT hZ (hw _ (List.mem_of_getElem? (i := 4) rfl))) (by decide) (backOf (W := 0) (rm1k0 l Z a0 hw [] aC h0 n0 Z0 SaC) hZ (hw _ (List.mem_of_getElem? (i := 4) rfl)) (hw _ (List.mem_of_getElem? (i := 3) rfl)) (by decide) (by decide)) (g := (mkF m 8 #[.val (.int p1), .val (.int (0 : Int32)), .unset, .unset, .unset, .unset] [(.int (0 : Int32))])) rfl (by rw [hml]; rfl) (argsL := [(.int (0 : Int32))]) (rest := []) (lenOf pd_0_0 rfl) rfl (by show 2 * 0 + _ ≤ _; exact Nat.le_of_eq rfl) (hb hby at_8) (fun _ _ => ⟨rfl, e0, (by decide : 0 + 0 ≤ _), (by decide : 0 + 0 ≤ _)⟩)
    dsimp only [Pt.U, Pt.locs, Pt.cells, Pt.slots] at X1 l1 y1 z1 st1 hQ1
    subst l1 y1 z1
    obtain ⟨rfl, N1q, e1⟩ := hQ1
    have N1 := Fr.app N0 N1q
    refine go st1 ?_
    show G (T1.setTop (mkF m 11 #[.val (.int p1), .val (.int (0 : Int32)), .unset, .unset, .unset, .unset] [(.ref aC)]))
    refine go (fun _ k => XS.astoreN X1.here hx rfl (hb hby at_11) rfl rfl (l' := #[.val (.int p1), .val (.int (0 : Int32)), .val (.ref aC), .unset, .unset, .unset]) rfl k) ?_
    show G (T1.setTop (mkF m 12 #[.val (.int p1), .val (.int (0 : Int32)), .val (.ref aC), .unset, .unset, .unset] []))
    refine go (fun _ k => XS.aloadN X1.here hx rfl (hb hby at_12) rfl rfl k) ?_
    show G (T1.setTop (mkF m 13 #[.val (.int p1), .val (.int (0 : Int32)), .val (.ref aC), .unset, .unset, .unset] [(.ref aC)]))
    obtain ⟨cq2, kq2, qa2, qb2, qc2⟩ := isOf hZ e1 EaC
    obtain ⟨_, _, ⟨T2, L2, k2, n2⟩, -, X2, ⟨Lc2, hQ2, l2, y2, z2⟩, st2⟩ := X1.virtualBack hx (y := (⟨"com/example/terseline/terseline/Delimiter", "isMarked", "()Z"⟩ : MethodName)) (z := (⟨"com/example/terseline/terseline/Delimiter", "isMarked", "()Z"⟩ : MethodName)) hown (mvT hZ (hw _ (List.mem_of_getElem? (i := 8) rfl))) (mvT hZ (hw _ (List.mem_of_getElem? (i := 9) rfl))) (notFace_of_selects (args := #[]) (mvT hZ (hw _ (List.mem_of_getElem? (i := 11) rfl)))) (mvT hZ (hw _ (List.mem_of_getElem? (i := 11) rfl))) (mvT hZ (hw _ (List.mem_of_getElem? (i := 10) rfl))) (by decide) (backOf (W := 0) (rm2c l Z a0 hw [] aC h0 n0 Z0 SaC) hZ (hw _ (List.mem_of_getElem? (i := 12) rfl)) (hw _ (List.mem_of_getElem? (i := 6) rfl)) (by decide) (by decide)) qa2 qc2 (g := (mkF m 13 #[.val (.int p1), .val (.int (0 : Int32)), .val (.ref aC), .unset, .unset, .unset] [(.ref aC)])) rfl (by rw [hml]; rfl) (Steps.refl _) (argsL := []) (rest := []) (lenOf pd_0_1 rfl) rfl (by show 2 * 0 + _ ≤ _; exact Nat.le_of_eq rfl) (hb hby at_13) (fun _ _ => ⟨rfl, e1, (by decide : 0 + 0 ≤ _), (by decide : 0 + 0 ≤ _)⟩)
    dsimp only [Pt.U, Pt.locs, Pt.cells, Pt.slots] at X2 l2 y2 z2 st2 hQ2
    subst l2 y2 z2
    obtain ⟨rfl, N2q, e2⟩ := hQ2
    have N2 := Fr.app N1 N2q
    refine go (fun _ k => st2.trans k) ?_
    show G (T2.setTop (mkF m 16 #[.val (.int p1), .val (.int (0 : Int32)), .val (.ref aC), .unset, .unset, .unset] [(.int (0 : Int32))]))
    refine go (fun _ k => XS.istoreN X2.here hx rfl (hb hby at_16) rfl (l' := #[.val (.int p1), .val (.int (0 : Int32)), .val (.ref aC), .val (.int (0 : Int32)), .unset, .unset]) rfl k) ?_
    show G (T2.setTop (mkF m 17 #[.val (.int p1), .val (.int (0 : Int32)), .val (.ref aC), .val (.int (0 : Int32)), .unset, .unset] []))
    refine go (fun _ k => XS.iloadN X2.here hx rfl (hb hby at_17) rfl k) ?_
    show G (T2.setTop (mkF m 18 #[.val (.int p1), .val (.int (0 : Int32)), .val (.ref aC), .val (.int (0 : Int32)), .unset, .unset] [(.int (0 : Int32))]))
    have hc3 : (0 : Int32) = (0 : Int32) := rfl
    refine go (fun _ k => XS.ifYes X2.here hx rfl (pc0 := 18) (pc' := 25) rfl (hb hby at_18) rfl ((if0 _ _).trans (teq hc3).1) (by decide) (by decide) k) ?_
    show G (T2.setTop (mkF m 25 #[.val (.int p1), .val (.int (0 : Int32)), .val (.ref aC), .val (.int (0 : Int32)), .unset, .unset] []))
    refine go (fun _ k => XS.iconst X2.here hx rfl (hb hby at_25) k) ?_
    show G (T2.setTop (mkF m 26 #[.val (.int p1), .val (.int (0 : Int32)), .val (.ref aC), .val (.int (0 : Int32)), .unset, .unset] [(.int (0 : Int32))]))
    refine go (fun _ k => XS.istore X2.here hx rfl (hb hby at_26) rfl (l' := #[.val (.int p1), .val (.int (0 : Int32)), .val (.ref aC), .val (.int (0 : Int32)), .val (.int (0 : Int32)), .unset]) rfl k) ?_
    show G (T2.setTop (mkF m 28 #[.val (.int p1), .val (.int (0 : Int32)), .val (.ref aC), .val (.int (0 : Int32)), .val (.int (0 : Int32)), .unset] []))
    refine go (fun _ k => XS.aloadN X2.here hx rfl (hb hby at_28) rfl rfl k) ?_
    show G (T2.setTop (mkF m 29 #[.val (.int p1), .val (.int (0 : Int32)), .val (.ref aC), .val (.int (0 : Int32)), .val (.int (0 : Int32)), .unset] [(.ref aC)]))
    obtain ⟨cq4, kq4, qa4, qb4, qc4⟩ := isOf hZ e2 EaC
    obtain ⟨_, _, ⟨T4, L4, k4, n4⟩, -, X4, ⟨Lc4, hQ4, l4, y4, z4⟩, st4⟩ := X2.virtualBack hx (y := (⟨"com/example/terseline/terseline/Delimiter", "character", "()C"⟩ : MethodName)) (z := (⟨"com/example/terseline/terseline/Delimiter", "character", "()C"⟩ : MethodName)) hown (mvT hZ (hw _ (List.mem_of_getElem? (i := 14) rfl))) (mvT hZ (hw _ (List.mem_of_getElem? (i := 15) rfl))) (notFace_of_selects (args := #[]) (mvT hZ (hw _ (List.mem_of_getElem? (i := 17) rfl)))) (mvT hZ (hw _ (List.mem_of_getElem? (i := 17) rfl))) (mvT hZ (hw _ (List.mem_of_getElem? (i := 16) rfl))) (by decide) (backOf (W := 0) (rm3 l Z a0 hw [] aC (44 : Int32) h0 n0 Z0 FaC) hZ (hw _ (List.mem_of_getElem? (i := 18) rfl)) (hw _ (List.mem_of_getElem? (i := 6) rfl)) (by decide) (by decide)) qa4 qc4 (g := (mkF m 29 #[.val (.int p1), .val (.int (0 : Int32)), .val (.ref aC), .val (.int (0 : Int32)), .val (.int (0 : Int32)), .unset] [(.ref aC)])) rfl (by rw [hml]; rfl) (Steps.refl _) (argsL := []) (rest := []) (lenOf pd_0_2 rfl) rfl (by show 2 * 0 + _ ≤ _; exact Nat.le_of_eq rfl) (hb hby at_29) (fun _ _ => ⟨rfl, e2, (by decide : 0 + 0 ≤ _), (by decide : 0 + 0 ≤ _)⟩)
    dsimp only [Pt.U, Pt.locs, Pt.cells, Pt.slots] at X4 l4 y4 z4 st4 hQ4
    subst l4 y4 z4
    obtain ⟨rfl, N4q, e4⟩ := hQ4
    have N4 := Fr.app N2 N4q
    refine go (fun _ k => st4.trans k) ?_
    show G (T4.setTop (mkF m 32 #[.val (.int p1), .val (.int (0 : Int32)), .val (.ref aC), .val (.int (0 : Int32)), .val (.int (0 : Int32)), .unset] [(.int (nar .char (44 : Int32)))]))
    refine go (fun _ k => XS.bipush X4.here hx rfl (hb hby at_32) k) ?_
    show G (T4.setTop (mkF m 34 #[.val (.int p1), .val (.int (0 : Int32)), .val (.ref aC), .val (.int (0 : Int32)), .val (.int (0 : Int32)), .unset] [(.int (44 : Int32)), (.int (nar .char (44 : Int32)))]))
    have hc5 : (nar .char (44 : Int32)) = (44 : Int32) := by decide
    refine go (fun _ k => XS.icmpYes X4.here hx rfl (pc0 := 34) (pc' := 41) rfl (hb hby at_34) rfl (teq hc5).1 (by decide) (by decide) k) ?_
    show G (T4.setTop (mkF m 41 #[.val (.int p1), .val (.int (0 : Int32)), .val (.ref aC), .val (.int (0 : Int32)), .val (.int (0 : Int32)), .unset] []))
    refine go (fun _ k => XS.iconst X4.here hx rfl (hb hby at_41) k) ?_
    show G (T4.setTop (mkF m 42 #[.val (.int p1), .val (.int (0 : Int32)), .val (.ref aC), .val (.int (0 : Int32)), .val (.int (0 : Int32)), .unset] [(.int (0 : Int32))]))
    refine go (fun _ k => XS.istore X4.here hx rfl (hb hby at_42) rfl (l' := #[.val (.int p1), .val (.int (0 : Int32)), .val (.ref aC), .val (.int (0 : Int32)), .val (.int (0 : Int32)), .val (.int (0 : Int32))]) rfl k) ?_
    show G (T4.setTop (mkF m 44 #[.val (.int p1), .val (.int (0 : Int32)), .val (.ref aC), .val (.int (0 : Int32)), .val (.int (0 : Int32)), .val (.int (0 : Int32))] []))
    refine go (fun _ k => XS.iloadN X4.here hx rfl (hb hby at_44) rfl k) ?_
    show G (T4.setTop (mkF m 45 #[.val (.int p1), .val (.int (0 : Int32)), .val (.ref aC), .val (.int (0 : Int32)), .val (.int (0 : Int32)), .val (.int (0 : Int32))] [(.int (0 : Int32))]))
    refine go (fun _ k => XS.iload X4.here hx rfl (hb hby at_45) rfl k) ?_
    show G (T4.setTop (mkF m 47 #[.val (.int p1), .val (.int (0 : Int32)), .val (.ref aC), .val (.int (0 : Int32)), .val (.int (0 : Int32)), .val (.int (0 : Int32))] [(.int (0 : Int32)), (.int (0 : Int32))]))
    have hc6 : (0 : Int32) = (0 : Int32) := rfl
    refine go (fun _ k => XS.icmpNo X4.here hx rfl (hb hby at_47) rfl (teq hc6).2 k) ?_
    show G (T4.setTop (mkF m 50 #[.val (.int p1), .val (.int (0 : Int32)), .val (.ref aC), .val (.int (0 : Int32)), .val (.int (0 : Int32)), .val (.int (0 : Int32))] []))
    refine go (fun _ k => XS.iloadN X4.here hx rfl (hb hby at_50) rfl k) ?_
    show G (T4.setTop (mkF m 51 #[.val (.int p1), .val (.int (0 : Int32)), .val (.ref aC), .val (.int (0 : Int32)), .val (.int (0 : Int32)), .val (.int (0 : Int32))] [(.int (0 : Int32))]))
    refine go (fun _ k => XS.iload X4.here hx rfl (hb hby at_51) rfl k) ?_
    show G (T4.setTop (mkF m 53 #[.val (.int p1), .val (.int (0 : Int32)), .val (.ref aC), .val (.int (0 : Int32)), .val (.int (0 : Int32)), .val (.int (0 : Int32))] [(.int (0 : Int32)), (.int (0 : Int32))]))
    have hc7 : (0 : Int32) = (0 : Int32) := rfl
    refine go (fun _ k => XS.icmpNo X4.here hx rfl (hb hby at_53) rfl (teq hc7).2 k) ?_
    show G (T4.setTop (mkF m 56 #[.val (.int p1), .val (.int (0 : Int32)), .val (.ref aC), .val (.int (0 : Int32)), .val (.int (0 : Int32)), .val (.int (0 : Int32))] []))
    refine go (fun _ k => XS.iconst X4.here hx rfl (hb hby at_56) k) ?_
    show G (T4.setTop (mkF m 57 #[.val (.int p1), .val (.int (0 : Int32)), .val (.ref aC), .val (.int (0 : Int32)), .val (.int (0 : Int32)), .val (.int (0 : Int32))] [(.int (1 : Int32))]))
    refine go (fun _ k => XS.goto X4.here hx rfl (pc0 := 57) (pc' := 61) rfl (hb hby at_57) (by decide) (by decide) k) ?_
    show G (T4.setTop (mkF m 61 #[.val (.int p1), .val (.int (0 : Int32)), .val (.ref aC), .val (.int (0 : Int32)), .val (.int (0 : Int32)), .val (.int (0 : Int32))] [(.int (1 : Int32))]))
    rw [hG]
    refine own_fin X4 Bd.notSynchronized (v := some (.int (1 : Int32))) (fun h => by rw [Bd.returns] at h; cases h) (fun fs hr => retOut X4 hx Bd.returns rfl (by simp [FieldType.isReference, Value.isRef]) (hb hby at_61) hr) ?_ (by decide) (by decide)
    show Q0 Z p1 aC aT aP h0 n0 (some (.int (1 : Int32))) T4.heap _
    rw [e4]
    exact ⟨rfl, N4⟩
  · show G (s₁.setTop (mkF m 7 #[.val (.int p1), .val (.int (1 : Int32)), .unset, .unset, .unset, .unset] []))
    refine go (fun _ k => XS.iloadN X0.here hx rfl (hb hby at_7) rfl k) ?_
    show G (s₁.setTop (mkF m 8 #[.val (.int p1), .val (.int (1 : Int32)), .unset, .unset, .unset, .unset] [(.int (1 : Int32))]))
    obtain ⟨_, _, ⟨T8, L8, k8, n8⟩, -, X8, ⟨Lc8, hQ8, l8, y8, z8⟩, st8⟩ := Jvm.LawKit.callS X0 hx (y := (⟨"com/example/terseline/terseline/DelimiterIsMarkedPinLaw", "pick", "(I)Lcom/example/terseline/terseline/Delimiter;"⟩ : MethodName)) hown (mvT hZ (hw _ (List.mem_of_getElem? (i := 1) rfl))) (mvT hZ (hw _ (List.mem_of_getElem? (i := 2) rfl))) (mvT hZ (hw _ (List.mem_of_getElem? (i := 3) rfl))) (mvT hZ (hw _ (List.mem_of_getElem? (i := 4) rfl))) (by decide) (backOf (W := 0) (rm1k1 l Z a0 hw [] aT h0 n0 Z0 SaT) hZ (hw _ (List.mem_of_getElem? (i := 4) rfl)) (hw _ (List.mem_of_getElem? (i := 3) rfl)) (by decide) (by decide)) (g := (mkF m 8 #[.val (.int p1), .val (.int (1 : Int32)), .unset, .unset, .unset, .unset] [(.int (1 : Int32))])) rfl (by rw [hml]; rfl) (argsL := [(.int (1 : Int32))]) (rest := []) (lenOf pd_0_0 rfl) rfl (by show 2 * 0 + _ ≤ _; exact Nat.le_of_eq rfl) (hb hby at_8) (fun _ _ => ⟨rfl, e0, (by decide : 0 + 0 ≤ _), (by decide : 0 + 0 ≤ _)⟩)
    dsimp only [Pt.U, Pt.locs, Pt.cells, Pt.slots] at X8 l8 y8 z8 st8 hQ8
    subst l8 y8 z8
    obtain ⟨rfl, N8q, e8⟩ := hQ8
    have N8 := Fr.app N0 N8q
    refine go st8 ?_
    show G (T8.setTop (mkF m 11 #[.val (.int p1), .val (.int (1 : Int32)), .unset, .unset, .unset, .unset] [(.ref aT)]))
    refine go (fun _ k => XS.astoreN X8.here hx rfl (hb hby at_11) rfl rfl (l' := #[.val (.int p1), .val (.int (1 : Int32)), .val (.ref aT), .unset, .unset, .unset]) rfl k) ?_
    show G (T8.setTop (mkF m 12 #[.val (.int p1), .val (.int (1 : Int32)), .val (.ref aT), .unset, .unset, .unset] []))
    refine go (fun _ k => XS.aloadN X8.here hx rfl (hb hby at_12) rfl rfl k) ?_
    show G (T8.setTop (mkF m 13 #[.val (.int p1), .val (.int (1 : Int32)), .val (.ref aT), .unset, .unset, .unset] [(.ref aT)]))
    obtain ⟨cq9, kq9, qa9, qb9, qc9⟩ := isOf hZ e8 EaT
    obtain ⟨_, _, ⟨T9, L9, k9, n9⟩, -, X9, ⟨Lc9, hQ9, l9, y9, z9⟩, st9⟩ := X8.virtualBack hx (y := (⟨"com/example/terseline/terseline/Delimiter", "isMarked", "()Z"⟩ : MethodName)) (z := (⟨"com/example/terseline/terseline/Delimiter", "isMarked", "()Z"⟩ : MethodName)) hown (mvT hZ (hw _ (List.mem_of_getElem? (i := 8) rfl))) (mvT hZ (hw _ (List.mem_of_getElem? (i := 9) rfl))) (notFace_of_selects (args := #[]) (mvT hZ (hw _ (List.mem_of_getElem? (i := 11) rfl)))) (mvT hZ (hw _ (List.mem_of_getElem? (i := 11) rfl))) (mvT hZ (hw _ (List.mem_of_getElem? (i := 10) rfl))) (by decide) (backOf (W := 0) (rm2o l Z a0 hw [] aT aC h0 n0 Z0 SaC (FaT.ne FaC (by decide))) hZ (hw _ (List.mem_of_getElem? (i := 12) rfl)) (hw _ (List.mem_of_getElem? (i := 6) rfl)) (by decide) (by decide)) qa9 qc9 (g := (mkF m 13 #[.val (.int p1), .val (.int (1 : Int32)), .val (.ref aT), .unset, .unset, .unset] [(.ref aT)])) rfl (by rw [hml]; rfl) (Steps.refl _) (argsL := []) (rest := []) (lenOf pd_0_1 rfl) rfl (by show 2 * 0 + _ ≤ _; exact Nat.le_of_eq rfl) (hb hby at_13) (fun _ _ => ⟨rfl, e8, (by decide : 0 + 0 ≤ _), (by decide : 0 + 0 ≤ _)⟩)
    dsimp only [Pt.U, Pt.locs, Pt.cells, Pt.slots] at X9 l9 y9 z9 st9 hQ9
    subst l9 y9 z9
    obtain ⟨rfl, N9q, e9⟩ := hQ9
    have N9 := Fr.app N8 N9q
    refine go (fun _ k => st9.trans k) ?_
    show G (T9.setTop (mkF m 16 #[.val (.int p1), .val (.int (1 : Int32)), .val (.ref aT), .unset, .unset, .unset] [(.int (1 : Int32))]))
    refine go (fun _ k => XS.istoreN X9.here hx rfl (hb hby at_16) rfl (l' := #[.val (.int p1), .val (.int (1 : Int32)), .val (.ref aT), .val (.int (1 : Int32)), .unset, .unset]) rfl k) ?_
    show G (T9.setTop (mkF m 17 #[.val (.int p1), .val (.int (1 : Int32)), .val (.ref aT), .val (.int (1 : Int32)), .unset, .unset] []))
    refine go (fun _ k => XS.iloadN X9.here hx rfl (hb hby at_17) rfl k) ?_
    show G (T9.setTop (mkF m 18 #[.val (.int p1), .val (.int (1 : Int32)), .val (.ref aT), .val (.int (1 : Int32)), .unset, .unset] [(.int (1 : Int32))]))
    have hc10 : ¬ ((1 : Int32) = (0 : Int32)) := (by decide)
    refine go (fun _ k => XS.ifNo X9.here hx rfl (hb hby at_18) rfl ((if0 _ _).trans (feq hc10).1) k) ?_
    show G (T9.setTop (mkF m 21 #[.val (.int p1), .val (.int (1 : Int32)), .val (.ref aT), .val (.int (1 : Int32)), .unset, .unset] []))
    refine go (fun _ k => XS.iconst X9.here hx rfl (hb hby at_21) k) ?_
    show G (T9.setTop (mkF m 22 #[.val (.int p1), .val (.int (1 : Int32)), .val (.ref aT), .val (.int (1 : Int32)), .unset, .unset] [(.int (1 : Int32))]))
    refine go (fun _ k => XS.goto X9.here hx rfl (pc0 := 22) (pc' := 26) rfl (hb hby at_22) (by decide) (by decide) k) ?_
    show G (T9.setTop (mkF m 26 #[.val (.int p1), .val (.int (1 : Int32)), .val (.ref aT), .val (.int (1 : Int32)), .unset, .unset] [(.int (1 : Int32))]))
    refine go (fun _ k => XS.istore X9.here hx rfl (hb hby at_26) rfl (l' := #[.val (.int p1), .val (.int (1 : Int32)), .val (.ref aT), .val (.int (1 : Int32)), .val (.int (1 : Int32)), .unset]) rfl k) ?_
    show G (T9.setTop (mkF m 28 #[.val (.int p1), .val (.int (1 : Int32)), .val (.ref aT), .val (.int (1 : Int32)), .val (.int (1 : Int32)), .unset] []))
    refine go (fun _ k => XS.aloadN X9.here hx rfl (hb hby at_28) rfl rfl k) ?_
    show G (T9.setTop (mkF m 29 #[.val (.int p1), .val (.int (1 : Int32)), .val (.ref aT), .val (.int (1 : Int32)), .val (.int (1 : Int32)), .unset] [(.ref aT)]))
    obtain ⟨cq11, kq11, qa11, qb11, qc11⟩ := isOf hZ e9 EaT
    obtain ⟨_, _, ⟨T11, L11, k11, n11⟩, -, X11, ⟨Lc11, hQ11, l11, y11, z11⟩, st11⟩ := X9.virtualBack hx (y := (⟨"com/example/terseline/terseline/Delimiter", "character", "()C"⟩ : MethodName)) (z := (⟨"com/example/terseline/terseline/Delimiter", "character", "()C"⟩ : MethodName)) hown (mvT hZ (hw _ (List.mem_of_getElem? (i := 14) rfl))) (mvT hZ (hw _ (List.mem_of_getElem? (i := 15) rfl))) (notFace_of_selects (args := #[]) (mvT hZ (hw _ (List.mem_of_getElem? (i := 17) rfl)))) (mvT hZ (hw _ (List.mem_of_getElem? (i := 17) rfl))) (mvT hZ (hw _ (List.mem_of_getElem? (i := 16) rfl))) (by decide) (backOf (W := 0) (rm3 l Z a0 hw [] aT (9 : Int32) h0 n0 Z0 FaT) hZ (hw _ (List.mem_of_getElem? (i := 18) rfl)) (hw _ (List.mem_of_getElem? (i := 6) rfl)) (by decide) (by decide)) qa11 qc11 (g := (mkF m 29 #[.val (.int p1), .val (.int (1 : Int32)), .val (.ref aT), .val (.int (1 : Int32)), .val (.int (1 : Int32)), .unset] [(.ref aT)])) rfl (by rw [hml]; rfl) (Steps.refl _) (argsL := []) (rest := []) (lenOf pd_0_2 rfl) rfl (by show 2 * 0 + _ ≤ _; exact Nat.le_of_eq rfl) (hb hby at_29) (fun _ _ => ⟨rfl, e9, (by decide : 0 + 0 ≤ _), (by decide : 0 + 0 ≤ _)⟩)
    dsimp only [Pt.U, Pt.locs, Pt.cells, Pt.slots] at X11 l11 y11 z11 st11 hQ11
    subst l11 y11 z11
    obtain ⟨rfl, N11q, e11⟩ := hQ11
    have N11 := Fr.app N9 N11q
    refine go (fun _ k => st11.trans k) ?_
    show G (T11.setTop (mkF m 32 #[.val (.int p1), .val (.int (1 : Int32)), .val (.ref aT), .val (.int (1 : Int32)), .val (.int (1 : Int32)), .unset] [(.int (nar .char (9 : Int32)))]))
    refine go (fun _ k => XS.bipush X11.here hx rfl (hb hby at_32) k) ?_
    show G (T11.setTop (mkF m 34 #[.val (.int p1), .val (.int (1 : Int32)), .val (.ref aT), .val (.int (1 : Int32)), .val (.int (1 : Int32)), .unset] [(.int (44 : Int32)), (.int (nar .char (9 : Int32)))]))
    have hc12 : ¬ ((nar .char (9 : Int32)) = (44 : Int32)) := by decide
    refine go (fun _ k => XS.icmpNo X11.here hx rfl (hb hby at_34) rfl (feq hc12).1 k) ?_
    show G (T11.setTop (mkF m 37 #[.val (.int p1), .val (.int (1 : Int32)), .val (.ref aT), .val (.int (1 : Int32)), .val (.int (1 : Int32)), .unset] []))
    refine go (fun _ k => XS.iconst X11.here hx rfl (hb hby at_37) k) ?_
    show G (T11.setTop (mkF m 38 #[.val (.int p1), .val (.int (1 : Int32)), .val (.ref aT), .val (.int (1 : Int32)), .val (.int (1 : Int32)), .unset] [(.int (1 : Int32))]))
    refine go (fun _ k => XS.goto X11.here hx rfl (pc0 := 38) (pc' := 42) rfl (hb hby at_38) (by decide) (by decide) k) ?_
    show G (T11.setTop (mkF m 42 #[.val (.int p1), .val (.int (1 : Int32)), .val (.ref aT), .val (.int (1 : Int32)), .val (.int (1 : Int32)), .unset] [(.int (1 : Int32))]))
    refine go (fun _ k => XS.istore X11.here hx rfl (hb hby at_42) rfl (l' := #[.val (.int p1), .val (.int (1 : Int32)), .val (.ref aT), .val (.int (1 : Int32)), .val (.int (1 : Int32)), .val (.int (1 : Int32))]) rfl k) ?_
    show G (T11.setTop (mkF m 44 #[.val (.int p1), .val (.int (1 : Int32)), .val (.ref aT), .val (.int (1 : Int32)), .val (.int (1 : Int32)), .val (.int (1 : Int32))] []))
    refine go (fun _ k => XS.iloadN X11.here hx rfl (hb hby at_44) rfl k) ?_
    show G (T11.setTop (mkF m 45 #[.val (.int p1), .val (.int (1 : Int32)), .val (.ref aT), .val (.int (1 : Int32)), .val (.int (1 : Int32)), .val (.int (1 : Int32))] [(.int (1 : Int32))]))
    refine go (fun _ k => XS.iload X11.here hx rfl (hb hby at_45) rfl k) ?_
    show G (T11.setTop (mkF m 47 #[.val (.int p1), .val (.int (1 : Int32)), .val (.ref aT), .val (.int (1 : Int32)), .val (.int (1 : Int32)), .val (.int (1 : Int32))] [(.int (1 : Int32)), (.int (1 : Int32))]))
    have hc13 : (1 : Int32) = (1 : Int32) := rfl
    refine go (fun _ k => XS.icmpNo X11.here hx rfl (hb hby at_47) rfl (teq hc13).2 k) ?_
    show G (T11.setTop (mkF m 50 #[.val (.int p1), .val (.int (1 : Int32)), .val (.ref aT), .val (.int (1 : Int32)), .val (.int (1 : Int32)), .val (.int (1 : Int32))] []))
    refine go (fun _ k => XS.iloadN X11.here hx rfl (hb hby at_50) rfl k) ?_
    show G (T11.setTop (mkF m 51 #[.val (.int p1), .val (.int (1 : Int32)), .val (.ref aT), .val (.int (1 : Int32)), .val (.int (1 : Int32)), .val (.int (1 : Int32))] [(.int (1 : Int32))]))
    refine go (fun _ k => XS.iload X11.here hx rfl (hb hby at_51) rfl k) ?_
    show G (T11.setTop (mkF m 53 #[.val (.int p1), .val (.int (1 : Int32)), .val (.ref aT), .val (.int (1 : Int32)), .val (.int (1 : Int32)), .val (.int (1 : Int32))] [(.int (1 : Int32)), (.int (1 : Int32))]))
    have hc14 : (1 : Int32) = (1 : Int32) := rfl
    refine go (fun _ k => XS.icmpNo X11.here hx rfl (hb hby at_53) rfl (teq hc14).2 k) ?_
    show G (T11.setTop (mkF m 56 #[.val (.int p1), .val (.int (1 : Int32)), .val (.ref aT), .val (.int (1 : Int32)), .val (.int (1 : Int32)), .val (.int (1 : Int32))] []))
    refine go (fun _ k => XS.iconst X11.here hx rfl (hb hby at_56) k) ?_
    show G (T11.setTop (mkF m 57 #[.val (.int p1), .val (.int (1 : Int32)), .val (.ref aT), .val (.int (1 : Int32)), .val (.int (1 : Int32)), .val (.int (1 : Int32))] [(.int (1 : Int32))]))
    refine go (fun _ k => XS.goto X11.here hx rfl (pc0 := 57) (pc' := 61) rfl (hb hby at_57) (by decide) (by decide) k) ?_
    show G (T11.setTop (mkF m 61 #[.val (.int p1), .val (.int (1 : Int32)), .val (.ref aT), .val (.int (1 : Int32)), .val (.int (1 : Int32)), .val (.int (1 : Int32))] [(.int (1 : Int32))]))
    rw [hG]
    refine own_fin X11 Bd.notSynchronized (v := some (.int (1 : Int32))) (fun h => by rw [Bd.returns] at h; cases h) (fun fs hr => retOut X11 hx Bd.returns rfl (by simp [FieldType.isReference, Value.isRef]) (hb hby at_61) hr) ?_ (by decide) (by decide)
    show Q0 Z p1 aC aT aP h0 n0 (some (.int (1 : Int32))) T11.heap _
    rw [e11]
    exact ⟨rfl, N11⟩
  · show G (s₁.setTop (mkF m 7 #[.val (.int p1), .val (.int (2 : Int32)), .unset, .unset, .unset, .unset] []))
    refine go (fun _ k => XS.iloadN X0.here hx rfl (hb hby at_7) rfl k) ?_
    show G (s₁.setTop (mkF m 8 #[.val (.int p1), .val (.int (2 : Int32)), .unset, .unset, .unset, .unset] [(.int (2 : Int32))]))
    obtain ⟨_, _, ⟨T15, L15, k15, n15⟩, -, X15, ⟨Lc15, hQ15, l15, y15, z15⟩, st15⟩ := Jvm.LawKit.callS X0 hx (y := (⟨"com/example/terseline/terseline/DelimiterIsMarkedPinLaw", "pick", "(I)Lcom/example/terseline/terseline/Delimiter;"⟩ : MethodName)) hown (mvT hZ (hw _ (List.mem_of_getElem? (i := 1) rfl))) (mvT hZ (hw _ (List.mem_of_getElem? (i := 2) rfl))) (mvT hZ (hw _ (List.mem_of_getElem? (i := 3) rfl))) (mvT hZ (hw _ (List.mem_of_getElem? (i := 4) rfl))) (by decide) (backOf (W := 0) (rm1k2 l Z a0 hw [] aP h0 n0 Z0 SaP) hZ (hw _ (List.mem_of_getElem? (i := 4) rfl)) (hw _ (List.mem_of_getElem? (i := 3) rfl)) (by decide) (by decide)) (g := (mkF m 8 #[.val (.int p1), .val (.int (2 : Int32)), .unset, .unset, .unset, .unset] [(.int (2 : Int32))])) rfl (by rw [hml]; rfl) (argsL := [(.int (2 : Int32))]) (rest := []) (lenOf pd_0_0 rfl) rfl (by show 2 * 0 + _ ≤ _; exact Nat.le_of_eq rfl) (hb hby at_8) (fun _ _ => ⟨rfl, e0, (by decide : 0 + 0 ≤ _), (by decide : 0 + 0 ≤ _)⟩)
    dsimp only [Pt.U, Pt.locs, Pt.cells, Pt.slots] at X15 l15 y15 z15 st15 hQ15
    subst l15 y15 z15
    obtain ⟨rfl, N15q, e15⟩ := hQ15
    have N15 := Fr.app N0 N15q
    refine go st15 ?_
    show G (T15.setTop (mkF m 11 #[.val (.int p1), .val (.int (2 : Int32)), .unset, .unset, .unset, .unset] [(.ref aP)]))
    refine go (fun _ k => XS.astoreN X15.here hx rfl (hb hby at_11) rfl rfl (l' := #[.val (.int p1), .val (.int (2 : Int32)), .val (.ref aP), .unset, .unset, .unset]) rfl k) ?_
    show G (T15.setTop (mkF m 12 #[.val (.int p1), .val (.int (2 : Int32)), .val (.ref aP), .unset, .unset, .unset] []))
    refine go (fun _ k => XS.aloadN X15.here hx rfl (hb hby at_12) rfl rfl k) ?_
    show G (T15.setTop (mkF m 13 #[.val (.int p1), .val (.int (2 : Int32)), .val (.ref aP), .unset, .unset, .unset] [(.ref aP)]))
    obtain ⟨cq16, kq16, qa16, qb16, qc16⟩ := isOf hZ e15 EaP
    obtain ⟨_, _, ⟨T16, L16, k16, n16⟩, -, X16, ⟨Lc16, hQ16, l16, y16, z16⟩, st16⟩ := X15.virtualBack hx (y := (⟨"com/example/terseline/terseline/Delimiter", "isMarked", "()Z"⟩ : MethodName)) (z := (⟨"com/example/terseline/terseline/Delimiter", "isMarked", "()Z"⟩ : MethodName)) hown (mvT hZ (hw _ (List.mem_of_getElem? (i := 8) rfl))) (mvT hZ (hw _ (List.mem_of_getElem? (i := 9) rfl))) (notFace_of_selects (args := #[]) (mvT hZ (hw _ (List.mem_of_getElem? (i := 11) rfl)))) (mvT hZ (hw _ (List.mem_of_getElem? (i := 11) rfl))) (mvT hZ (hw _ (List.mem_of_getElem? (i := 10) rfl))) (by decide) (backOf (W := 0) (rm2o l Z a0 hw [] aP aC h0 n0 Z0 SaC (FaP.ne FaC (by decide))) hZ (hw _ (List.mem_of_getElem? (i := 12) rfl)) (hw _ (List.mem_of_getElem? (i := 6) rfl)) (by decide) (by decide)) qa16 qc16 (g := (mkF m 13 #[.val (.int p1), .val (.int (2 : Int32)), .val (.ref aP), .unset, .unset, .unset] [(.ref aP)])) rfl (by rw [hml]; rfl) (Steps.refl _) (argsL := []) (rest := []) (lenOf pd_0_1 rfl) rfl (by show 2 * 0 + _ ≤ _; exact Nat.le_of_eq rfl) (hb hby at_13) (fun _ _ => ⟨rfl, e15, (by decide : 0 + 0 ≤ _), (by decide : 0 + 0 ≤ _)⟩)
    dsimp only [Pt.U, Pt.locs, Pt.cells, Pt.slots] at X16 l16 y16 z16 st16 hQ16
    subst l16 y16 z16
    obtain ⟨rfl, N16q, e16⟩ := hQ16
    have N16 := Fr.app N15 N16q
    refine go (fun _ k => st16.trans k) ?_
    show G (T16.setTop (mkF m 16 #[.val (.int p1), .val (.int (2 : Int32)), .val (.ref aP), .unset, .unset, .unset] [(.int (1 : Int32))]))
    refine go (fun _ k => XS.istoreN X16.here hx rfl (hb hby at_16) rfl (l' := #[.val (.int p1), .val (.int (2 : Int32)), .val (.ref aP), .val (.int (1 : Int32)), .unset, .unset]) rfl k) ?_
    show G (T16.setTop (mkF m 17 #[.val (.int p1), .val (.int (2 : Int32)), .val (.ref aP), .val (.int (1 : Int32)), .unset, .unset] []))
    refine go (fun _ k => XS.iloadN X16.here hx rfl (hb hby at_17) rfl k) ?_
    show G (T16.setTop (mkF m 18 #[.val (.int p1), .val (.int (2 : Int32)), .val (.ref aP), .val (.int (1 : Int32)), .unset, .unset] [(.int (2 : Int32))]))
    have hc17 : ¬ ((2 : Int32) = (0 : Int32)) := (by decide)
    refine go (fun _ k => XS.ifNo X16.here hx rfl (hb hby at_18) rfl ((if0 _ _).trans (feq hc17).1) k) ?_
    show G (T16.setTop (mkF m 21 #[.val (.int p1), .val (.int (2 : Int32)), .val (.ref aP), .val (.int (1 : Int32)), .unset, .unset] []))
    refine go (fun _ k => XS.iconst X16.here hx rfl (hb hby at_21) k) ?_
    show G (T16.setTop (mkF m 22 #[.val (.int p1), .val (.int (2 : Int32)), .val (.ref aP), .val (.int (1 : Int32)), .unset, .unset] [(.int (1 : Int32))]))
    refine go (fun _ k => XS.goto X16.here hx rfl (pc0 := 22) (pc' := 26) rfl (hb hby at_22) (by decide) (by decide) k) ?_
    show G (T16.setTop (mkF m 26 #[.val (.int p1), .val (.int (2 : Int32)), .val (.ref aP), .val (.int (1 : Int32)), .unset, .unset] [(.int (1 : Int32))]))
    refine go (fun _ k => XS.istore X16.here hx rfl (hb hby at_26) rfl (l' := #[.val (.int p1), .val (.int (2 : Int32)), .val (.ref aP), .val (.int (1 : Int32)), .val (.int (1 : Int32)), .unset]) rfl k) ?_
    show G (T16.setTop (mkF m 28 #[.val (.int p1), .val (.int (2 : Int32)), .val (.ref aP), .val (.int (1 : Int32)), .val (.int (1 : Int32)), .unset] []))
    refine go (fun _ k => XS.aloadN X16.here hx rfl (hb hby at_28) rfl rfl k) ?_
    show G (T16.setTop (mkF m 29 #[.val (.int p1), .val (.int (2 : Int32)), .val (.ref aP), .val (.int (1 : Int32)), .val (.int (1 : Int32)), .unset] [(.ref aP)]))
    obtain ⟨cq18, kq18, qa18, qb18, qc18⟩ := isOf hZ e16 EaP
    obtain ⟨_, _, ⟨T18, L18, k18, n18⟩, -, X18, ⟨Lc18, hQ18, l18, y18, z18⟩, st18⟩ := X16.virtualBack hx (y := (⟨"com/example/terseline/terseline/Delimiter", "character", "()C"⟩ : MethodName)) (z := (⟨"com/example/terseline/terseline/Delimiter", "character", "()C"⟩ : MethodName)) hown (mvT hZ (hw _ (List.mem_of_getElem? (i := 14) rfl))) (mvT hZ (hw _ (List.mem_of_getElem? (i := 15) rfl))) (notFace_of_selects (args := #[]) (mvT hZ (hw _ (List.mem_of_getElem? (i := 17) rfl)))) (mvT hZ (hw _ (List.mem_of_getElem? (i := 17) rfl))) (mvT hZ (hw _ (List.mem_of_getElem? (i := 16) rfl))) (by decide) (backOf (W := 0) (rm3 l Z a0 hw [] aP (124 : Int32) h0 n0 Z0 FaP) hZ (hw _ (List.mem_of_getElem? (i := 18) rfl)) (hw _ (List.mem_of_getElem? (i := 6) rfl)) (by decide) (by decide)) qa18 qc18 (g := (mkF m 29 #[.val (.int p1), .val (.int (2 : Int32)), .val (.ref aP), .val (.int (1 : Int32)), .val (.int (1 : Int32)), .unset] [(.ref aP)])) rfl (by rw [hml]; rfl) (Steps.refl _) (argsL := []) (rest := []) (lenOf pd_0_2 rfl) rfl (by show 2 * 0 + _ ≤ _; exact Nat.le_of_eq rfl) (hb hby at_29) (fun _ _ => ⟨rfl, e16, (by decide : 0 + 0 ≤ _), (by decide : 0 + 0 ≤ _)⟩)
    dsimp only [Pt.U, Pt.locs, Pt.cells, Pt.slots] at X18 l18 y18 z18 st18 hQ18
    subst l18 y18 z18
    obtain ⟨rfl, N18q, e18⟩ := hQ18
    have N18 := Fr.app N16 N18q
    refine go (fun _ k => st18.trans k) ?_
    show G (T18.setTop (mkF m 32 #[.val (.int p1), .val (.int (2 : Int32)), .val (.ref aP), .val (.int (1 : Int32)), .val (.int (1 : Int32)), .unset] [(.int (nar .char (124 : Int32)))]))
    refine go (fun _ k => XS.bipush X18.here hx rfl (hb hby at_32) k) ?_
    show G (T18.setTop (mkF m 34 #[.val (.int p1), .val (.int (2 : Int32)), .val (.ref aP), .val (.int (1 : Int32)), .val (.int (1 : Int32)), .unset] [(.int (44 : Int32)), (.int (nar .char (124 : Int32)))]))
    have hc19 : ¬ ((nar .char (124 : Int32)) = (44 : Int32)) := by decide
    refine go (fun _ k => XS.icmpNo X18.here hx rfl (hb hby at_34) rfl (feq hc19).1 k) ?_
    show G (T18.setTop (mkF m 37 #[.val (.int p1), .val (.int (2 : Int32)), .val (.ref aP), .val (.int (1 : Int32)), .val (.int (1 : Int32)), .unset] []))
    refine go (fun _ k => XS.iconst X18.here hx rfl (hb hby at_37) k) ?_
    show G (T18.setTop (mkF m 38 #[.val (.int p1), .val (.int (2 : Int32)), .val (.ref aP), .val (.int (1 : Int32)), .val (.int (1 : Int32)), .unset] [(.int (1 : Int32))]))
    refine go (fun _ k => XS.goto X18.here hx rfl (pc0 := 38) (pc' := 42) rfl (hb hby at_38) (by decide) (by decide) k) ?_
    show G (T18.setTop (mkF m 42 #[.val (.int p1), .val (.int (2 : Int32)), .val (.ref aP), .val (.int (1 : Int32)), .val (.int (1 : Int32)), .unset] [(.int (1 : Int32))]))
    refine go (fun _ k => XS.istore X18.here hx rfl (hb hby at_42) rfl (l' := #[.val (.int p1), .val (.int (2 : Int32)), .val (.ref aP), .val (.int (1 : Int32)), .val (.int (1 : Int32)), .val (.int (1 : Int32))]) rfl k) ?_
    show G (T18.setTop (mkF m 44 #[.val (.int p1), .val (.int (2 : Int32)), .val (.ref aP), .val (.int (1 : Int32)), .val (.int (1 : Int32)), .val (.int (1 : Int32))] []))
    refine go (fun _ k => XS.iloadN X18.here hx rfl (hb hby at_44) rfl k) ?_
    show G (T18.setTop (mkF m 45 #[.val (.int p1), .val (.int (2 : Int32)), .val (.ref aP), .val (.int (1 : Int32)), .val (.int (1 : Int32)), .val (.int (1 : Int32))] [(.int (1 : Int32))]))
    refine go (fun _ k => XS.iload X18.here hx rfl (hb hby at_45) rfl k) ?_
    show G (T18.setTop (mkF m 47 #[.val (.int p1), .val (.int (2 : Int32)), .val (.ref aP), .val (.int (1 : Int32)), .val (.int (1 : Int32)), .val (.int (1 : Int32))] [(.int (1 : Int32)), (.int (1 : Int32))]))
    have hc20 : (1 : Int32) = (1 : Int32) := rfl
    refine go (fun _ k => XS.icmpNo X18.here hx rfl (hb hby at_47) rfl (teq hc20).2 k) ?_
    show G (T18.setTop (mkF m 50 #[.val (.int p1), .val (.int (2 : Int32)), .val (.ref aP), .val (.int (1 : Int32)), .val (.int (1 : Int32)), .val (.int (1 : Int32))] []))
    refine go (fun _ k => XS.iloadN X18.here hx rfl (hb hby at_50) rfl k) ?_
    show G (T18.setTop (mkF m 51 #[.val (.int p1), .val (.int (2 : Int32)), .val (.ref aP), .val (.int (1 : Int32)), .val (.int (1 : Int32)), .val (.int (1 : Int32))] [(.int (1 : Int32))]))
    refine go (fun _ k => XS.iload X18.here hx rfl (hb hby at_51) rfl k) ?_
    show G (T18.setTop (mkF m 53 #[.val (.int p1), .val (.int (2 : Int32)), .val (.ref aP), .val (.int (1 : Int32)), .val (.int (1 : Int32)), .val (.int (1 : Int32))] [(.int (1 : Int32)), (.int (1 : Int32))]))
    have hc21 : (1 : Int32) = (1 : Int32) := rfl
    refine go (fun _ k => XS.icmpNo X18.here hx rfl (hb hby at_53) rfl (teq hc21).2 k) ?_
    show G (T18.setTop (mkF m 56 #[.val (.int p1), .val (.int (2 : Int32)), .val (.ref aP), .val (.int (1 : Int32)), .val (.int (1 : Int32)), .val (.int (1 : Int32))] []))
    refine go (fun _ k => XS.iconst X18.here hx rfl (hb hby at_56) k) ?_
    show G (T18.setTop (mkF m 57 #[.val (.int p1), .val (.int (2 : Int32)), .val (.ref aP), .val (.int (1 : Int32)), .val (.int (1 : Int32)), .val (.int (1 : Int32))] [(.int (1 : Int32))]))
    refine go (fun _ k => XS.goto X18.here hx rfl (pc0 := 57) (pc' := 61) rfl (hb hby at_57) (by decide) (by decide) k) ?_
    show G (T18.setTop (mkF m 61 #[.val (.int p1), .val (.int (2 : Int32)), .val (.ref aP), .val (.int (1 : Int32)), .val (.int (1 : Int32)), .val (.int (1 : Int32))] [(.int (1 : Int32))]))
    rw [hG]
    refine own_fin X18 Bd.notSynchronized (v := some (.int (1 : Int32))) (fun h => by rw [Bd.returns] at h; cases h) (fun fs hr => retOut X18 hx Bd.returns rfl (by simp [FieldType.isReference, Value.isRef]) (hb hby at_61) hr) ?_ (by decide) (by decide)
    show Q0 Z p1 aC aT aP h0 n0 (some (.int (1 : Int32))) T18.heap _
    rw [e18]
    exact ⟨rfl, N18⟩

set_option maxRecDepth 65536 in
set_option maxHeartbeats 40000000 in
theorem comes_1 {Post : Tables → Env → Array Value → State → Outcome → State → Prop} (hpost : ∀ tb e args s v u, (limb_1_1.after args s (.returned v) u = true ∧ limb_1_2.after args s (.returned v) u = true ∧ True) → FrameEnd s (.returned v) u (Jvm.fieldLocs frame_1_writes args s ++ Jvm.arrayLocs frame_1_arrays args s ++ Jvm.staticLocs frame_1_statics s) 0 0 → Post tb e args s (.returned v) u) :
    ArmFor flags0 classFile x code maxLocals ret World_1 tables_1 room_1 Calls_1 rest_1 Pre_1 Post := by
  intro l hfl _ _ p e ha hc hk s m args below hf hA hF happ hP
  obtain ⟨hcalls, hrest, hpre⟩ := hP
  obtain ⟨-, -, -, hnamed, -, -, -, hat⟩ := (Spec.applies_iff hf).mp happ
  obtain ⟨hg, hn⟩ := and_e (Cond.before_iff.mp (show (Jvm.Cond.and given_1 narrow_1).before args s = true from hpre))
  obtain ⟨g2, g3⟩ := and_e hg
  obtain ⟨w0, rfl⟩ : ∃ w0 : Value, args = #[w0] := by
    have hs : args.size = 1 := by simpa [Cond.value, given_1] using g2
    obtain ⟨L⟩ := args
    match L, hs with
    | [w0], _ => exact ⟨w0, rfl⟩
  have hw := fun d (hd : d ∈ tables_1) => atoms_spec (ws := Jvm.Cond.code x code maxLocals ret :: tables_1) hat d (List.mem_cons_of_mem _ hd)
  have hfit : Fit s := fun {y c} hc i hi => by
    obtain ⟨ha, rfl⟩ := Array.getElem?_eq_some_iff.mp hc
    have q := List.all_eq_true.mp ((Array.all_eq_true_iff_forall_mem.mp hF) _ (Array.getElem_mem ha)) i (List.mem_range.mpr hi)
    simpa [Array.getElem?_eq_getElem hi] using q
  obtain ⟨i0, ei0⟩ := is_v g3
  obtain rfl : w0 = (.int i0) := Option.some.inj ei0
  obtain ⟨y2, y3⟩ := and_e hn
  obtain ⟨y4, y5⟩ := and_e y3
  obtain ⟨y6, y7⟩ := and_e y5
  obtain ⟨y8, y9⟩ := and_e y7
  obtain ⟨y10, y11⟩ := and_e y9
  obtain ⟨y12, y13⟩ := and_e y11
  obtain ⟨y14, y15⟩ := and_e y13
  obtain ⟨y16, y17⟩ := and_e y15
  obtain ⟨aC, evaC⟩ := exa_v y2
  have EaC := Exa.start evaC y2
  have FaC := own_fld evaC y4
  have SaC := Sta.start evaC (Or.inr ⟨(hw _ (List.mem_of_getElem? (i := 6) rfl)), (hw _ (List.mem_of_getElem? (i := 7) rfl))⟩)
  obtain ⟨aT, evaT⟩ := exa_v y14
  have EaT := Exa.start evaT y14
  have FaT := own_fld evaT y17
  have SaT := Sta.start evaT (Or.inr ⟨(hw _ (List.mem_of_getElem? (i := 6) rfl)), (hw _ (List.mem_of_getElem? (i := 24) rfl))⟩)
  obtain ⟨aP, evaP⟩ := exa_v y6
  have EaP := Exa.start evaP y6
  have FaP := own_fld evaP y12
  have SaP := Sta.start evaP (Or.inr ⟨(hw _ (List.mem_of_getElem? (i := 6) rfl)), (hw _ (List.mem_of_getElem? (i := 22) rfl))⟩)
  obtain ⟨n, o, h1, h2, h3, _, L, rfl, ⟨rfl, N⟩, hq⟩ := rm0 l s _ hw tables_1 i0 aC aT aP s.heap s.heap.size (Nat.le_refl _) SaC EaC FaC SaT EaT FaT SaP EaP FaP p e ha hc hk s m _ below hf ((Spec.applies_iff_loose hf).mp happ).1 ⟨rfl, State.Warmed39.refl s, rfl⟩ trivial
  refine ⟨n, _, h1, h2, h3, hpost _ _ _ _ _ _ ⟨Cond.after_iff.mpr rfl, Cond.after_iff.mpr (eq_i res_at (Term.int_eval (1)) rfl), trivial⟩ ⟨hq.1, hq.2.1, (hq.2.2.sift fun y hy => Or.inr (N y hy)).mono (by decide) (by decide)⟩⟩
theorem main_1_1 : Claimed_1_1 := comes_1 fun _ _ _ _ _ _ h hF => ⟨h.1, hF⟩
theorem main_1_2 : Claimed_1_2 := comes_1 fun _ _ _ _ _ _ h hF => ⟨h.2.1, hF⟩
end Jvm.Pilot.@@N@@
namespace Jvm.Pilot.@@N@@
open Jvm Jvm.ClassFile Sem Op Lib Jvm.Free Jvm.Stand Jvm.Pilot.@@N@@.Jvm.D
/-! MADE BY PROGRAM (witnessworld.py) out of the Statement's table words and the real class files: 12 classes; the members and pool entries that the words name. The judged class is class 1, her method 2. -/
namespace start1
open Jvm.ClassFile
def u (s : String) : CpInfo := .utf8 (stringToUtf16 s)
/-- a pool by its gaps: so many unusable entries, then the entry; so many at the end -/
def gap : Nat → List CpInfo → List CpInfo
  | 0, r => r
  | n + 1, r => .unusable :: gap n r
def poolList (es : List (Nat × CpInfo)) (last : Nat) : List CpInfo := es.foldr (fun e r => gap e.1 (e.2 :: r)) (gap last [])
def pool (es : List (Nat × CpInfo)) (last : Nat) : Array CpInfo := ⟨poolList es last⟩
def fileOf (pool : Array CpInfo) (this : Nat) (attrs : Array Attribute := #[]) (ms : Array MethodInfo := #[]) (fl : Nat := 33) (sup : Nat := 0) (ifs : Array Nat := #[]) (fds : Array FieldInfo := #[]) : ClassFile where
  minorVersion := 0
  majorVersion := 65
  constantPool := pool
  accessFlags := fl
  thisClass := this
  superClass := sup
  interfaces := ifs
  fields := fds
  methods := ms
  attributes := attrs
def plain (name : String) (sup : Option ClassId) : Class where
  name := name
  kind := .ordinary
  loader := none
  accessFlags := 33
  super := sup
  interfaces := #[]
  cf := none
  fields := #[]
  methods := #[]
  instanceTypes := #[]
  staticTypes := #[]
  resolved := #[]
  callSites := []
  init := .initialized
  statics := none
  mirror := none

def pool0 : Array CpInfo := pool [(5, u "<init>"), (0, u "()V"), (1, .class_ 10), (1, u "java/lang/Object")] 113

def k0m0 : Method := { name := "<init>", desc := "()V", sig := { parameters := [], returnType := none }, accessFlags := 1, code := none }
/-- java/lang/Object -/
def k0 : Class := { plain "java/lang/Object" none with
  accessFlags := 33
  interfaces := #[]
  cf := some (fileOf pool0 8 #[] #[{ accessFlags := 1, nameIndex := 5, descriptorIndex := 6, attributes := #[] }] 33 0 #[] #[])
  fields := #[]
  methods := #[k0m0]
  instanceTypes := #[]
  staticTypes := #[]
  resolved := Array.replicate 124 none
  statics := none }

def pool1 : Array CpInfo := pool [(2, .class_ 4), (1, u "java/lang/Object"), (0, u "<init>"), (0, u "()V"), (0, .fieldref 8 9), (0, .class_ 10), (0, .nameAndType 11 12), (0, u "com/example/terseline/terseline/Delimiter"), (0, u "COMMA"), (0, u "Lcom/example/terseline/terseline/Delimiter;"), (0, .fieldref 8 14), (0, .nameAndType 15 12), (0, u "TAB"), (0, .fieldref 8 17), (0, .nameAndType 18 12), (0, u "PIPE"), (0, .integer 2147483647), (0, .methodref 21 22), (0, .class_ 23), (0, .nameAndType 24 25), (0, u "com/example/terseline/terseline/DelimiterIsMarkedPinLaw"), (0, u "pick"), (0, u "(I)Lcom/example/terseline/terseline/Delimiter;"), (0, .methodref 8 27), (0, .nameAndType 28 29), (0, u "isMarked"), (0, u "()Z"), (0, .methodref 8 31), (0, .nameAndType 32 33), (0, u "character"), (0, u "()C"), (3, u "law"), (0, u "(I)Z")] 2

def k1m0 : Method := { name := "<init>", desc := "()V", sig := { parameters := [], returnType := none }, accessFlags := 2, code := none }
def k1c1 : Code := { maxStack := 2, maxLocals := 1, code := method_2_code, exceptionTable := #[], attributes := #[] }
def k1m1 : Method := { name := "pick", desc := "(I)Lcom/example/terseline/terseline/Delimiter;", sig := { parameters := [.int], returnType := some (.object "com/example/terseline/terseline/Delimiter") }, accessFlags := 10, code := some k1c1 }
def k1c2 : Code := { maxStack := 2, maxLocals := 6, code := code, exceptionTable := #[], attributes := #[] }
def k1m2 : Method := { name := "law", desc := "(I)Z", sig := { parameters := [.int], returnType := some .boolean }, accessFlags := 9, code := some k1c2 }
/-- com/example/terseline/terseline/DelimiterIsMarkedPinLaw -/
def k1 : Class := { plain "com/example/terseline/terseline/DelimiterIsMarkedPinLaw" (some 0) with
  accessFlags := 49
  interfaces := #[]
  cf := some (fileOf pool1 21 #[] #[{ accessFlags := 2, nameIndex := 5, descriptorIndex := 6, attributes := #[] }, { accessFlags := 10, nameIndex := 24, descriptorIndex := 25, attributes := #[] }, { accessFlags := 9, nameIndex := 37, descriptorIndex := 38, attributes := #[] }] 49 2 #[] #[])
  fields := #[]
  methods := #[k1m0, k1m1, k1m2]
  instanceTypes := #[]
  staticTypes := #[]
  resolved := Array.replicate 41 none
  statics := none }

def pool2 : Array CpInfo := pool [(1, .class_ 2), (0, u "java/lang/constant/Constable"), (0, .class_ 4), (0, u "java/lang/Object")] 6

/-- java/lang/constant/Constable -/
def k2 : Class := { plain "java/lang/constant/Constable" (some 0) with
  accessFlags := 1537
  interfaces := #[]
  cf := some (fileOf pool2 1 #[] #[] 1537 3 #[] #[])
  fields := #[]
  methods := #[]
  instanceTypes := #[]
  staticTypes := #[]
  resolved := Array.replicate 11 none
  statics := none }

def pool3 : Array CpInfo := pool [(1, .class_ 2), (0, u "java/lang/Comparable"), (0, .class_ 4), (0, u "java/lang/Object")] 7

/-- java/lang/Comparable -/
def k3 : Class := { plain "java/lang/Comparable" (some 0) with
  accessFlags := 1537
  interfaces := #[]
  cf := some (fileOf pool3 1 #[] #[] 1537 3 #[] #[])
  fields := #[]
  methods := #[]
  instanceTypes := #[]
  staticTypes := #[]
  resolved := Array.replicate 12 none
  statics := none }

def pool4 : Array CpInfo := pool [(1, .class_ 2), (0, u "java/io/Serializable"), (0, .class_ 4), (0, u "java/lang/Object")] 2

/-- java/io/Serializable -/
def k4 : Class := { plain "java/io/Serializable" (some 0) with
  accessFlags := 1537
  interfaces := #[]
  cf := some (fileOf pool4 1 #[] #[] 1537 3 #[] #[])
  fields := #[]
  methods := #[]
  instanceTypes := #[]
  staticTypes := #[]
  resolved := Array.replicate 7 none
  statics := none }

def pool5 : Array CpInfo := pool [(2, .class_ 4), (1, u "java/lang/Enum"), (0, u "name"), (0, u "Ljava/lang/String;"), (2, u "ordinal"), (0, u "I"), (1, .class_ 14), (1, u "java/lang/Object"), (4, u "hash"), (86, .class_ 108), (1, u "java/lang/Enum$EnumDesc"), (2, .class_ 112), (0, u "java/lang/constant/Constable"), (0, .class_ 114), (0, u "java/lang/Comparable"), (0, .class_ 116), (0, u "java/io/Serializable")] 87

/-- java/lang/Enum -/
def k5 : Class := { plain "java/lang/Enum" (some 0) with
  accessFlags := 1057
  interfaces := #[2, 3, 4]
  cf := some (fileOf pool5 2 #[.nestMembers #[106]] #[] 1057 12 #[111, 113, 115] #[{ accessFlags := 18, nameIndex := 5, descriptorIndex := 6, attributes := #[] }, { accessFlags := 18, nameIndex := 9, descriptorIndex := 10, attributes := #[] }, { accessFlags := 2, nameIndex := 19, descriptorIndex := 10, attributes := #[] }])
  fields := #[{ name := "name", type := (.object "java/lang/String"), accessFlags := 18, slot := 0, constantValue := 0 }, { name := "ordinal", type := .int, accessFlags := 18, slot := 1, constantValue := 0 }, { name := "hash", type := .int, accessFlags := 2, slot := 2, constantValue := 0 }]
  methods := #[]
  instanceTypes := #[(.object "java/lang/String"), .int, .int]
  staticTypes := #[]
  resolved := Array.replicate 204 none
  statics := none }

def pool6 : Array CpInfo := pool [(1, .class_ 2), (0, u "com/example/terseline/terseline/Delimiter"), (0, .fieldref 1 4), (0, .nameAndType 5 6), (0, u "COMMA"), (0, u "Lcom/example/terseline/terseline/Delimiter;"), (2, u "TAB"), (2, u "PIPE"), (2, u "$VALUES"), (0, u "[Lcom/example/terseline/terseline/Delimiter;"), (6, .class_ 25), (1, u "java/lang/Enum"), (6, .fieldref 1 33), (0, .nameAndType 34 35), (0, u "character"), (0, u "C"), (6, u "isMarked"), (0, u "()Z"), (15, u "()C")] 8

def k6c0 : Code := { maxStack := 1, maxLocals := 1, code := prog_11_method_4_code, exceptionTable := #[], attributes := #[] }
def k6m0 : Method := { name := "character", desc := "()C", sig := { parameters := [], returnType := some .char }, accessFlags := 1, code := some k6c0 }
def k6c1 : Code := { maxStack := 2, maxLocals := 1, code := prog_11_method_5_code, exceptionTable := #[], attributes := #[] }
def k6m1 : Method := { name := "isMarked", desc := "()Z", sig := { parameters := [], returnType := some .boolean }, accessFlags := 0, code := some k6c1 }
/-- com/example/terseline/terseline/Delimiter -/
def k6 : Class := { plain "com/example/terseline/terseline/Delimiter" (some 5) with
  accessFlags := 16433
  interfaces := #[]
  cf := some (fileOf pool6 1 #[] #[{ accessFlags := 1, nameIndex := 34, descriptorIndex := 59, attributes := #[] }, { accessFlags := 0, nameIndex := 42, descriptorIndex := 43, attributes := #[] }] 16433 23 #[] #[{ accessFlags := 16409, nameIndex := 5, descriptorIndex := 6, attributes := #[] }, { accessFlags := 16409, nameIndex := 9, descriptorIndex := 6, attributes := #[] }, { accessFlags := 16409, nameIndex := 12, descriptorIndex := 6, attributes := #[] }, { accessFlags := 18, nameIndex := 34, descriptorIndex := 35, attributes := #[] }, { accessFlags := 4122, nameIndex := 15, descriptorIndex := 16, attributes := #[] }])
  fields := #[{ name := "COMMA", type := (.object "com/example/terseline/terseline/Delimiter"), accessFlags := 16409, slot := 0, constantValue := 0 }, { name := "TAB", type := (.object "com/example/terseline/terseline/Delimiter"), accessFlags := 16409, slot := 1, constantValue := 0 }, { name := "PIPE", type := (.object "com/example/terseline/terseline/Delimiter"), accessFlags := 16409, slot := 2, constantValue := 0 }, { name := "character", type := .char, accessFlags := 18, slot := 3, constantValue := 0 }, { name := "$VALUES", type := (.array (.object "com/example/terseline/terseline/Delimiter")), accessFlags := 4122, slot := 3, constantValue := 0 }]
  methods := #[k6m0, k6m1]
  instanceTypes := #[(.object "java/lang/String"), .int, .int, .char]
  staticTypes := #[(.object "com/example/terseline/terseline/Delimiter"), (.object "com/example/terseline/terseline/Delimiter"), (.object "com/example/terseline/terseline/Delimiter"), (.array (.object "com/example/terseline/terseline/Delimiter"))]
  resolved := Array.replicate 68 none
  statics := some 0 }

def pool7 : Array CpInfo := pool [(1, u "java/lang/Cloneable"), (0, .class_ 1), (0, u "java/lang/Object"), (0, .class_ 3)] 3

/-- java/lang/Cloneable -/
def k7 : Class := { plain "java/lang/Cloneable" (some 0) with
  accessFlags := 1537
  interfaces := #[]
  cf := some (fileOf pool7 2 #[] #[] 1537 4 #[] #[])
  fields := #[]
  methods := #[]
  instanceTypes := #[]
  staticTypes := #[]
  resolved := Array.replicate 8 none
  statics := none }

/-- the primitive byte -/
def k8 : Class := { plain "byte" none with kind := .primitive 'B', accessFlags := 0x411 }
/-- [B -/
def k9 : Class := { plain "[B" (some 0) with kind := .array 8 .byte, interfaces := #[7, 4], accessFlags := 1041 }

/-- the primitive int -/
def k10 : Class := { plain "int" none with kind := .primitive 'I', accessFlags := 0x411 }
/-- [I -/
def k11 : Class := { plain "[I" (some 0) with kind := .array 10 .int, interfaces := #[7, 4], accessFlags := 1041 }

def heap : Heap := #[{ cls := 6, slots := #[.ref 1, .ref 2, .ref 3, .null], vm := .statics 6 },
  { cls := 6, slots := #[.null, .int 0, .int 0, .int 44], vm := .none },
  { cls := 6, slots := #[.null, .int 1, .int 0, .int 9], vm := .none },
  { cls := 6, slots := #[.null, .int 2, .int 0, .int 124], vm := .none }]
def classes : Array Class := #[k0, k1, k2, k3, k4, k5, k6, k7, k8, k9, k10, k11]
def interned : List (Array UInt16 × Addr) := []
def slotsUsed : Nat := 16
def theMethod : MethodId := ⟨1, 2⟩
def args0 : Array Value := #[.int 5]
def aboutOver (below : List Frame) : State where
  vm := { classes := classes, interned := interned.toArray }
  heap := heap
  slotsUsed := slotsUsed
  threads := #[{ frames := .invoking theMethod args0 :: below }]
def below0 : List Frame := [.native { method := ⟨0, 0⟩, args := #[] }]
def about1 : State := aboutOver below0
def p0 : Program := .bare "" "" ""
def e0 : Env := launch0.env 0 0 0
theorem w_frames : about1.frames = Frame.invoking theMethod args0 :: below0 := rfl
set_option maxRecDepth 65536 in
theorem w_args : argsFit about1.vm theMethod args0 = true := by decide +kernel
set_option maxRecDepth 65536 in
theorem w_heap : heapFits about1 = true := by decide +kernel
set_option maxRecDepth 65536 in
theorem w_runnable : about1.curStatus? = some .runnable := by decide +kernel
set_option maxRecDepth 65536 in
theorem w_alone : about1.alone = true := by decide +kernel
set_option maxRecDepth 65536 in
theorem w_named : about1.methodNamed? x = some theMethod := by decide +kernel
set_option maxRecDepth 65536 in
theorem w_hears : about1.hears theMethod below0 = true := by decide +kernel
set_option maxRecDepth 65536 in
theorem w_ripe : about1.ripe theMethod args0 below0 = true := by decide +kernel
theorem w_running : about1.status = .running := rfl
set_option maxRecDepth 65536 in
theorem w_room : about1.hasRoom e0.platform room_1 = true :=
  launch0.hasRoom_least _ room_1 (by decide +kernel) (by decide +kernel) (by decide +kernel) (by decide +kernel) (by decide +kernel) (by decide +kernel)
theorem allAtoms_all (ts : List Jvm.Cond) (a : Array Jvm.Value) (st : Jvm.State) : (allAtoms ts).before a st = ts.all (fun c => c.before a st) := by
  induction ts with
  | nil => rfl
  | cons c t ih =>
    show (Jvm.Cond.and c (allAtoms t)).before a st = _
    rw [Jvm.Cond.before_and, ih, List.all_cons]
def words1 : List Jvm.Cond := Jvm.Cond.code x code maxLocals ret :: tables_1
/-- a 'code' word, met by the world's own term for the bytes: nothing is compared byte by byte -/
theorem code_word {y : MethodName} {bytes : ByteArray} {mx : Nat} {rt : Option FieldType} {a : Array Value} {s : State} {m : MethodId} {meth : Method} {c : Code} (h1 : s.methodNamed? y = some m) (h2 : s.vm.method? m = some meth) (h3 : meth.code = some c) (h4 : c.code = bytes)
    (h5 : (c.maxLocals == mx && c.exceptionTable.isEmpty && decide (c.maxStack ≤ mostOperands) && decide (meth.sig.returnType = rt) && !meth.locks && decide (parseMethodDescriptor y.desc = some meth.sig)) = true) : (Jvm.Cond.code y bytes mx rt).before a s = true := by
  simp only [Bool.and_eq_true, beq_iff_eq, Bool.not_eq_true', decide_eq_true_eq] at h5
  obtain ⟨⟨⟨⟨⟨g1, g2⟩, g3⟩, g4⟩, g5⟩, g6⟩ := h5
  simp [Cond.before, Cond.holds, Cond.value, h1, h2, h3, h4, g1, g2, g3, g4, g5, g6]
def isCode : Jvm.Cond → Bool
  | .code _ _ _ _ => true
  | _ => false
theorem all_split {L : List Jvm.Cond} {P : Jvm.Cond → Bool} (h1 : L.all (fun c => isCode c || P c) = true) (h2 : ∀ c ∈ L.filter isCode, P c = true) : L.all P = true := by
  refine List.all_eq_true.mpr fun c hc => ?_
  have h := List.all_eq_true.mp h1 c hc
  rcases Bool.eq_false_or_eq_true (isCode c) with hi | hi
  · exact h2 c (List.mem_filter.mpr ⟨hc, hi⟩)
  · simpa [hi] using h
set_option maxRecDepth 65536 in
theorem w_c0 : (Jvm.Cond.code x code maxLocals ret).before args0 about1 = true := code_word (m := ⟨1, 2⟩) (meth := k1m2) (c := k1c2) (by decide +kernel) rfl rfl rfl (by decide +kernel)
set_option maxRecDepth 65536 in
theorem w_c1 : (Jvm.Cond.code ({ cls := "com/example/terseline/terseline/DelimiterIsMarkedPinLaw", name := "pick", desc := "(I)Lcom/example/terseline/terseline/Delimiter;" } : Jvm.MethodName) method_2_code (1 : Nat) (Option.some (Jvm.ClassFile.FieldType.object "com/example/terseline/terseline/Delimiter"))).before args0 about1 = true := code_word (m := ⟨1, 1⟩) (meth := k1m1) (c := k1c1) (by decide +kernel) rfl rfl rfl (by decide +kernel)
set_option maxRecDepth 65536 in
theorem w_c2 : (Jvm.Cond.code ({ cls := "com/example/terseline/terseline/Delimiter", name := "isMarked", desc := "()Z" } : Jvm.MethodName) prog_11_method_5_code (1 : Nat) (Option.some Jvm.ClassFile.FieldType.boolean)).before args0 about1 = true := code_word (m := ⟨6, 1⟩) (meth := k6m1) (c := k6c1) (by decide +kernel) rfl rfl rfl (by decide +kernel)
set_option maxRecDepth 65536 in
theorem w_c3 : (Jvm.Cond.code ({ cls := "com/example/terseline/terseline/Delimiter", name := "character", desc := "()C" } : Jvm.MethodName) prog_11_method_4_code (1 : Nat) (Option.some Jvm.ClassFile.FieldType.char)).before args0 about1 = true := code_word (m := ⟨6, 0⟩) (meth := k6m0) (c := k6c0) (by decide +kernel) rfl rfl rfl (by decide +kernel)
def codes1 : List Jvm.Cond := [Jvm.Cond.code x code maxLocals ret, Jvm.Cond.code ({ cls := "com/example/terseline/terseline/DelimiterIsMarkedPinLaw", name := "pick", desc := "(I)Lcom/example/terseline/terseline/Delimiter;" } : Jvm.MethodName) method_2_code (1 : Nat) (Option.some (Jvm.ClassFile.FieldType.object "com/example/terseline/terseline/Delimiter")), Jvm.Cond.code ({ cls := "com/example/terseline/terseline/Delimiter", name := "isMarked", desc := "()Z" } : Jvm.MethodName) prog_11_method_5_code (1 : Nat) (Option.some Jvm.ClassFile.FieldType.boolean), Jvm.Cond.code ({ cls := "com/example/terseline/terseline/Delimiter", name := "character", desc := "()C" } : Jvm.MethodName) prog_11_method_4_code (1 : Nat) (Option.some Jvm.ClassFile.FieldType.char)]
set_option maxRecDepth 65536 in
theorem codes_eq : words1.filter isCode = codes1 := rfl
theorem w_codes : ∀ c ∈ words1.filter isCode, c.before args0 about1 = true := by
  rw [codes_eq]
  intro c hc
  simp only [codes1, List.mem_cons, List.not_mem_nil, or_false] at hc
  rcases hc with rfl | rfl | rfl | rfl
  · exact w_c0
  · exact w_c1
  · exact w_c2
  · exact w_c3
set_option maxRecDepth 65536 in
theorem w_t1 : (words1.take 24).all (fun c => isCode c || c.before args0 about1) = true := by decide +kernel
set_option maxRecDepth 65536 in
theorem w_t2 : (words1.drop 24).all (fun c => isCode c || c.before args0 about1) = true := by decide +kernel
theorem w_tables : (allAtoms (Jvm.Cond.code x code maxLocals ret :: tables_1)).before args0 about1 = true := by
  rw [allAtoms_all]
  show words1.all (fun c => c.before args0 about1) = true
  refine all_split ?_ w_codes
  rw [← List.take_append_drop 24 words1, List.all_append, w_t1, w_t2]
  rfl
set_option maxRecDepth 65536 in
theorem w_case : (Jvm.Cond.and given_1 narrow_1).before args0 about1 = true := by decide +kernel
theorem w_applies : (headSpec (Jvm.Cond.code x code maxLocals ret :: tables_1) room_1).applies x e0.platform about1 = true :=
  (Spec.applies_iff w_frames).mpr ⟨w_running, w_runnable, w_alone, w_named, w_hears, w_ripe, w_room, w_tables⟩
theorem atStart : AtStart classFile x code maxLocals ret World_1 tables_1 room_1 Calls_1 rest_1 Pre_1 launch0 p0 e0 about1 theMethod args0 below0 :=
  ⟨lists_1, trivial, launch0.admits_env _ _ _, launch0.least_env, fairChoices_fair.cas, fairChoices_fair.clock, w_frames, w_args, w_heap, w_applies, trivial, trivial, w_case⟩
end start1
theorem witness_1 : WitnessClaimed_1 := ⟨start1.p0, start1.e0, start1.about1, start1.theMethod, start1.args0, start1.below0, start1.atStart⟩
end Jvm.Pilot.@@N@@
