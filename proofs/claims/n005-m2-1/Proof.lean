import JvmDerived
import JvmDerived.Pilot.@@N@@Statement
import JvmDerived.Pilot.@@N@@Code
set_option linter.unusedVariables false
set_option linter.unusedSimpArgs false
namespace Jvm.Pilot.@@N@@
open Jvm Jvm.ClassFile Sem Op Lib Jvm.Free Jvm.Stand Jvm.LawKit Jvm.RoadKit Bundle Jvm.Pilot.@@N@@.Jvm.D
/-- what a walk must still come to -/
def OwnG (p : Program) (e : Env) (below : List Frame) (s : State) (C S : Nat) (Q : Option Value → Heap → List Loc → Prop) (A : State) : Prop :=
  ∃ s₂ o, Steps p.tables e below A s₂ ∧ s₂.status = .running ∧ Ended s₂ below o ∧ ∃ v L, o = .returned v ∧ Q v s₂.heap L ∧ FrameEnd s o s₂ L C S
theorem OwnG.go {p : Program} {e : Env} {below : List Frame} {s : State} {C S : Nat} {Q : Option Value → Heap → List Loc → Prop} {A B : State} (h : ∀ t, Steps p.tables e below A t → Steps p.tables e below B t) (k : OwnG p e below s C S Q A) : OwnG p e below s C S Q B := by
  obtain ⟨s₂, o, k1, k2⟩ := k
  exact ⟨s₂, o, h _ k1, k2⟩
theorem own_fin {p : Program} {l : Launch} {e : Env} {R : Room} {s : State} {m : MethodId} {args : Array Value} {below : List Frame} {meth : Method} {c : Code} {T : State} {locs : List Loc} {cells slots : Nat}
    (X : Stand p l e R s m args below meth c T locs cells slots) {C S : Nat} {Q : Option Value → Heap → List Loc → Prop} (hlocks : meth.locks = false) {v : Option Value} (hv : meth.sig.returnType = none → v = none) {A : State}
    (hst : ∀ fs, (∀ (f : JFrame) (acts : List Action), f.method = m → f.locked = none → f.entered = [] → (doReturn e (T.setTop f) acts v).1 = T.setFrames fs) → Steps p.tables e below A (T.setFrames fs))
    (hQ : Q v T.heap locs) (hc : cells ≤ C) (hs : slots ≤ S) : OwnG p e below s C S Q A := by
  obtain ⟨fs, hr, hrun, hended, hW, hsame⟩ := X.leave (v := v) hv hlocks
  exact ⟨_, _, hst fs hr, hrun, hended, v, locs, rfl, hQ, ⟨_, rfl⟩, hW, hsame.mono hc hs⟩
theorem own_lrem {p : Program} {l : Launch} {e : Env} {R : Room} {s : State} {m : MethodId} {args : Array Value} {below : List Frame} {meth : Method} {c : Code} {T : State} {locs : List Loc} {cells slots : Nat} {g : JFrame} {target : State}
    (X : Stand p l e R s m args below meth c T locs cells slots) (hx : p.tables.exec = Jvm.exec) (hg : g.method = m) {x y : Int64} {rest : List Value} (hd : decode c.code g.pc = .ok (.lrem, 1)) (hs : g.stack = .long y :: .long x :: rest) (hy : y ≠ 0)
    (hr : Steps p.tables e below (T.setTop { g with pc := g.pc + 1, stack := .long (x % y) :: rest }) target) : Steps p.tables e below (T.setTop g) target := by
  have q : x - x / y * y = x % y := lrem_mod x y
  exact XS.lrem X.here hx hg hd hs hy (by rw [q]; exact hr)
theorem own_lclt {a b : Int64} : lcmpW a b < 0 ↔ a < b := by
  unfold lcmpW
  by_cases h1 : a > b
  · simp only [h1, if_true]
    refine ⟨fun h => absurd h (by decide), fun h => ?_⟩
    rw [Int64.lt_iff_toInt_lt] at h; rw [gt_iff_lt, Int64.lt_iff_toInt_lt] at h1; omega
  · by_cases h2 : a = b
    · subst h2; simp [h1]
    · simp only [h1, h2, if_false]
      refine ⟨fun _ => ?_, fun _ => by decide⟩
      rw [gt_iff_lt, Int64.lt_iff_toInt_lt] at h1; rw [Int64.lt_iff_toInt_lt]
      have : a.toInt ≠ b.toInt := fun q => h2 (Int64.toInt_inj.mp q)
      omega
theorem own_lceq {a b : Int64} : lcmpW a b = 0 ↔ a = b := by
  unfold lcmpW
  by_cases h1 : a > b
  · simp only [h1, if_true]
    refine ⟨fun h => absurd h (by decide), fun h => ?_⟩
    subst h; rw [gt_iff_lt, Int64.lt_iff_toInt_lt] at h1; omega
  · by_cases h2 : a = b
    · subst h2; simp [h1]
    · simp only [h1, h2, if_false]
      exact ⟨fun h => absurd h (by decide), fun h => h.elim⟩
theorem own_lcgt {a b : Int64} : 0 < lcmpW a b ↔ b < a := by
  unfold lcmpW
  by_cases h1 : a > b
  · rw [if_pos h1]
    exact ⟨fun _ => h1, fun _ => by decide⟩
  · rw [if_neg h1]
    refine ⟨fun h => ?_, fun h => absurd h h1⟩
    by_cases h2 : a = b
    · rw [if_pos h2] at h; exact absurd h (by decide)
    · rw [if_neg h2] at h; exact absurd h (by decide)

theorem own_mask32 (x m : Int32) (h : 0 ≤ m.toInt) : 0 ≤ (x &&& m).toInt ∧ (x &&& m).toInt ≤ m.toInt := by
  have e : (x &&& m).toInt = (x.toBitVec &&& m.toBitVec).toInt := rfl
  have em : m.toInt = m.toBitVec.toInt := rfl
  have h1 : (x.toBitVec &&& m.toBitVec).toNat ≤ m.toBitVec.toNat := by rw [BitVec.toNat_and]; exact Nat.and_le_right
  have h2 := m.toBitVec.isLt
  rw [BitVec.toInt_eq_toNat_cond] at e em
  rw [em] at h
  rw [e, em]
  generalize (x.toBitVec &&& m.toBitVec).toNat = u at *
  generalize m.toBitVec.toNat = w at *
  split at h <;> split <;> omega
theorem own_mask64 (x m : Int64) (h : 0 ≤ m.toInt) : 0 ≤ (x &&& m).toInt ∧ (x &&& m).toInt ≤ m.toInt := by
  have e : (x &&& m).toInt = (x.toBitVec &&& m.toBitVec).toInt := rfl
  have em : m.toInt = m.toBitVec.toInt := rfl
  have h1 : (x.toBitVec &&& m.toBitVec).toNat ≤ m.toBitVec.toNat := by rw [BitVec.toNat_and]; exact Nat.and_le_right
  have h2 := m.toBitVec.isLt
  rw [BitVec.toInt_eq_toNat_cond] at e em
  rw [em] at h
  rw [e, em]
  generalize (x.toBitVec &&& m.toBitVec).toNat = u at *
  generalize m.toBitVec.toNat = w at *
  split at h <;> split <;> omega
theorem own_add32 {a b : Int32} (h1 : -2147483648 ≤ a.toInt + b.toInt) (h2 : a.toInt + b.toInt < 2147483648) : (a + b).toInt = a.toInt + b.toInt := by
  rw [Int32.toInt_add, Int.bmod_def]; omega
theorem own_sub32 {a b : Int32} (h1 : -2147483648 ≤ a.toInt - b.toInt) (h2 : a.toInt - b.toInt < 2147483648) : (a - b).toInt = a.toInt - b.toInt := by
  rw [Int32.toInt_sub, Int.bmod_def]; omega
theorem own_add64 {a b : Int64} (h1 : -9223372036854775808 ≤ a.toInt + b.toInt) (h2 : a.toInt + b.toInt < 9223372036854775808) : (a + b).toInt = a.toInt + b.toInt := by
  rw [Int64.toInt_add, Int.bmod_def]; omega
theorem own_sub64 {a b : Int64} (h1 : -9223372036854775808 ≤ a.toInt - b.toInt) (h2 : a.toInt - b.toInt < 9223372036854775808) : (a - b).toInt = a.toInt - b.toInt := by
  rw [Int64.toInt_sub, Int.bmod_def]; omega
theorem own_mul64 {a b : Int64} (h1 : -9223372036854775808 ≤ a.toInt * b.toInt) (h2 : a.toInt * b.toInt < 9223372036854775808) : (a * b).toInt = a.toInt * b.toInt := by
  rw [Int64.toInt_mul, Int.bmod_def]
  generalize a.toInt * b.toInt = z at *
  omega
theorem own_rem32 {a b : Int32} (h1 : 0 ≤ a.toInt) (h2 : 0 < b.toInt) : (a % b).toInt = a.toInt % b.toInt := by
  rw [Int32.toInt_mod, Int.tmod_eq_emod_of_nonneg h1]
theorem own_rem64 {a b : Int64} (h1 : 0 ≤ a.toInt) (h2 : 0 < b.toInt) : (a % b).toInt = a.toInt % b.toInt := by
  rw [Int64.toInt_mod, Int.tmod_eq_emod_of_nonneg h1]


theorem own_eqint {args : Array Value} {s : State} {a : Term} {n : Int32} (h : (Jvm.Cond.eq a (.int n)).value args s none s [] = some true) : a.eval args s none [] s = some (.int n) := by
  have hb : (Term.int n).eval args s none [] s = some (.int n) := rfl
  simp only [Jvm.Cond.value, hb] at h
  cases ha : a.eval args s none [] s with
  | none => simp [ha] at h
  | some x => cases x <;> simp [ha] at h ⊢; exact h
theorem own_eqref {args : Array Value} {s : State} {a b : Term} {y : Addr} (h : (Jvm.Cond.eq a b).value args s none s [] = some true) (hb : b.eval args s none [] s = some (.ref y)) : a.eval args s none [] s = some (.ref y) := by
  simp only [Jvm.Cond.value, hb] at h
  cases ha : a.eval args s none [] s with
  | none => simp [ha] at h
  | some x => cases x <;> simp [ha] at h ⊢; exact h
theorem own_fld {args : Array Value} {s : State} {t : Term} {x : Addr} {C n d : String} {k : Int32} (ht : t.eval args s none [] s = some (.ref x)) (h : (Jvm.Cond.eq (.field t C n d) (.int k)).value args s none s [] = some true) : Fld s s.heap x C n d (.int k) := by
  have e := own_eqint h
  rw [fld_at ht] at e
  exact Fld.start e


theorem own_arv3 {args : Array Value} {s : State} {t : Term} {a x y z : Addr} {c : Cell} {ty : FieldType} (hf : Fit s) (A : Arr s s.heap a c ty) (ev : t.eval args s none [] s = some (.ref a)) (hl : (Term.length t).eval args s none [] s = some (.int (3 : Int32)))
    (e0 : (Term.elem t (.int (0 : Int32))).eval args s none [] s = some (.ref x)) (e1 : (Term.elem t (.int (1 : Int32))).eval args s none [] s = some (.ref y)) (e2 : (Term.elem t (.int (2 : Int32))).eval args s none [] s = some (.ref z)) :
    Arv s s.heap a c.cls ty (3 : Int32) [(.ref x), (.ref y), (.ref z)] .null := by
  obtain ⟨c0, p0, -, q0⟩ := elem_at e0 ev rfl
  obtain ⟨c1, p1, -, q1⟩ := elem_at e1 ev rfl
  obtain ⟨c2, p2, -, q2⟩ := elem_at e2 ev rfl
  cases A.1.symm.trans p0
  cases A.1.symm.trans p1
  cases A.1.symm.trans p2
  obtain ⟨a', cl, h1, h2, h3⟩ := Term.length_spec hl
  cases ev.symm.trans h1
  have hcl : cl = c := by
    simp only [State.arrayAt?, A.1, Option.bind_eq_bind, Option.bind_some] at h2
    cases hk : s.vm.classes[c.cls]? with
    | none => simp [hk] at h2
    | some k =>
      simp only [hk, Option.bind_some] at h2
      split at h2
      · cases h2
      · split at h2
        · exact (Option.some.inj h2).symm
        · cases h2
  subst hcl
  have hsz : cl.slots.size < 2 ^ 31 := by
    simp only [Term.eval, ev, Option.bind_eq_bind, Option.bind_some, h2] at hl
    split at hl
    · assumption
    · cases hl
  exact Arv.start hf A hsz (by injection h3 with h; exact h.symm) (by decide) rfl ⟨q0, q1, q2, trivial⟩

theorem d2_0 : decode prog_11_method_1_code 0 = .ok (.getstatic 13, 3) := by decide +kernel
theorem d2_3 : decode prog_11_method_1_code 3 = .ok (.invokevirtual 17, 3) := by decide +kernel
theorem d2_6 : decode prog_11_method_1_code 6 = .ok (.checkcast 18, 3) := by decide +kernel
theorem d2_9 : decode prog_11_method_1_code 9 = .ok (.areturn, 1) := by decide +kernel
theorem pn_2 : plainName "com/example/terseline/terseline/Delimiter" = true := by first | (simp [plainName, overriddenIn]; done) | decide +kernel
theorem ef_rm2 (m : MethodId)  : entryFrame m #[] 0 = mkF m 0 #[] [] := by first | (simp [entryFrame, mkF, argsToLocals, Value.category]; done) | rfl
def Q2 (Z : State) (aC aT aP aV : Addr) (k : ClassId) (h0 : Heap) (n0 : Nat) (v : Option Value) (h : Heap) (L : List Loc) : Prop := ∃ b : Addr, v = some (.ref b) ∧ Fr n0 L ∧ Ext h0 h ∧ Arv Z h b k (.object "com/example/terseline/terseline/Delimiter") (3 : Int32) [(.ref aC), (.ref aT), (.ref aP)] .null
set_option maxRecDepth 65536 in
set_option maxHeartbeats 40000000 in
theorem rm2 (l : Launch) (Z : State) (a0 : Array Value) (hw : ∀ d ∈ tables_1, d.before a0 Z = true) (ws : List Jvm.Cond) (aC aT aP aV : Addr) (k : ClassId) (h0 : Heap) (n0 : Nat) (Z0 : n0 ≤ h0.size) (SV : Sta Z h0 "com/example/terseline/terseline/Delimiter" "$VALUES" "[Lcom/example/terseline/terseline/Delimiter;" (.ref aV)) (VA : Arv Z h0 aV k (.object "com/example/terseline/terseline/Delimiter") (3 : Int32) [(.ref aC), (.ref aT), (.ref aP)] .null) (EA : Exa Z h0 aV "[Lcom/example/terseline/terseline/Delimiter;") :
    MetFree l (⟨"com/example/terseline/terseline/Delimiter", "values", "()[Lcom/example/terseline/terseline/Delimiter;"⟩ : MethodName) (head1 (Jvm.Cond.code (⟨"com/example/terseline/terseline/Delimiter", "values", "()[Lcom/example/terseline/terseline/Delimiter;"⟩ : MethodName) prog_11_method_1_code 0 (some (.array (.object "com/example/terseline/terseline/Delimiter"))) :: ws) ({ frames := 1, cells := 1, slots := 3, locals := 14 } : Room)) (fun a U => a = #[] ∧ Z.Warmed39 U.vm ∧ U.heap = h0) (fun _ _ _ _ _ => True) (fun _ U o U' => ∃ v L, o = .returned v ∧ Q2 Z aC aT aP aV k h0 n0 v U'.heap L ∧ FrameEnd U o U' L ({ frames := 1, cells := 1, slots := 3, locals := 14 } : Room).cells ({ frames := 1, cells := 1, slots := 3, locals := 14 } : Room).slots) := by
  refine MetFree.of_bodySF (plainFor_of_name pn_2) hisR ?_
  intro p e s m args below meth c s₁ Bd hml0 hP hK
  obtain ⟨rfl, hZ, hh⟩ := hP
  have hx := Bd.exec
  have hby := Bd.bytes
  have hml : c.maxLocals = 0 := hml0
  have hown : s.vm.findClass "com/example/terseline/terseline/Delimiter" = some m.cls := findClass_of_methodNamed Bd.named
  have hnm := (name_of_methodNamed Bd.named Bd.method).1
  have X0 : Stand p l e ({ frames := 1, cells := 1, slots := 3, locals := 14 } : Room) s m #[] below meth c s₁ [] 0 0 := Stand.of_body Bd
  have e0 : s₁.heap = h0 := by rw [← hh, Bd.state]; rfl
  have N0 := Fr.nil n0
  obtain ⟨G, hG⟩ : ∃ G : State → Prop, G = OwnG p e below s ({ frames := 1, cells := 1, slots := 3, locals := 14 } : Room).cells ({ frames := 1, cells := 1, slots := 3, locals := 14 } : Room).slots (Q2 Z aC aT aP aV k h0 n0) := ⟨_, rfl⟩
  have go : ∀ {A B : State}, (∀ t, Steps p.tables e below A t → Steps p.tables e below B t) → G A → G B := fun h k => by rw [hG] at k ⊢; exact OwnG.go h k
  suffices k0 : G (s₁.setTop (mkF m 0 #[] [])) by
    rw [hG] at k0; exact OwnG.go (fun t k => castTop (ef_rm2 m ) k) k0
  obtain ⟨T1, X1, e1, st1⟩ := getS2 X0 hx hZ hown (host := "") (Or.inl (hw _ (List.mem_of_getElem? (i := 7) rfl))) Via.refl e0 SV (g := (mkF m 0 #[] [])) rfl (hb hby d2_0)
  refine go st1 ?_
  show G (T1.setTop (mkF m 3 #[] [(.ref aV)]))
  obtain ⟨T2, h2, X2, e2, E2, Vh2, A2, st2⟩ := cloneH X1 hx hZ hown (hw _ (List.mem_of_getElem? (i := 9) rfl)) (hw _ (List.mem_of_getElem? (i := 10) rfl)) (hw _ (List.mem_of_getElem? (i := 14) rfl)) (hw _ (List.mem_of_getElem? (i := 12) rfl)) (hw _ (List.mem_of_getElem? (i := 13) rfl)) (hw _ (List.mem_of_getElem? (i := 15) rfl)) e1 VA.arh EA (g := (mkF m 3 #[] [(.ref aV)])) rfl (by rw [hml]; rfl) rfl (hb hby d2_3) (by decide) (W := 0) (cap := 3) (by show 2 * 0 + _ ≤ _; exact Nat.le_of_eq rfl) (by decide) (by decide) (by decide) (by decide)
  obtain ⟨b2, ga2⟩ : ∃ z, z = h0.size := ⟨_, rfl⟩
  have ne_aV_b2 : aV ≠ b2 := Nat.ne_of_lt (Nat.lt_of_lt_of_le VA.lt (Nat.le_of_eq ga2.symm))
  have g_b2 : n0 ≤ b2 := Nat.le_trans Z0 (Nat.le_of_eq ga2.symm)
  rw [← ga2] at Vh2 A2 st2
  have f3 := SV.ext E2
  have f4 := VA.ext E2
  have f5 := EA.ext E2
  have Zs2 : n0 ≤ h2.size := Nat.le_trans Z0 E2.1
  have V2 : Arv Z h2 b2 k (.object "com/example/terseline/terseline/Delimiter") (3 : Int32) [(.ref aC), (.ref aT), (.ref aP)] .null := Vh2
  refine go st2 ?_
  show G (T2.setTop (mkF m 6 #[] [(.ref b2)]))
  obtain ⟨T6, X6, e6, st6⟩ := castY X2 hx hZ hown (hw _ (List.mem_of_getElem? (i := 20) rfl)) e2 (Ins.self A2) (g := (mkF m 6 #[] [(.ref b2)])) rfl rfl (hb hby d2_6)
  refine go st6 ?_
  show G (T6.setTop (mkF m 9 #[] [(.ref b2)]))
  rw [hG]
  refine own_fin X6 Bd.notSynchronized (v := some (.ref b2)) (fun h => by rw [Bd.returns] at h; cases h) (fun fs hr => retOut X6 hx Bd.returns rfl (by simp [FieldType.isReference, Value.isRef]) (hb hby d2_9) hr) ?_ (by decide) (by decide)
  show Q2 Z aC aT aP aV k h0 n0 (some (.ref b2)) T6.heap _
  rw [e6]
  exact ⟨b2, rfl, N0, E2, V2⟩

theorem d3_0 : decode prog_11_method_5_code 0 = .ok (.aload_n 0, 1) := by decide +kernel
theorem d3_1 : decode prog_11_method_5_code 1 = .ok (.getstatic 3, 3) := by decide +kernel
theorem d3_4 : decode prog_11_method_5_code 4 = .ok (.if_acmp .eq 7, 3) := by decide +kernel
theorem d3_11 : decode prog_11_method_5_code 11 = .ok (.iconst 0, 1) := by decide +kernel
theorem d3_12 : decode prog_11_method_5_code 12 = .ok (.ireturn, 1) := by decide +kernel
theorem pn_3 : plainName "com/example/terseline/terseline/Delimiter" = true := by first | (simp [plainName, overriddenIn]; done) | decide +kernel
theorem ef_rm3c (m : MethodId) (a1 : Addr) : entryFrame m #[(.ref a1)] 1 = mkF m 0 #[.val (.ref a1)] [] := by first | (simp [entryFrame, mkF, argsToLocals, Value.category]; done) | rfl
def Q3c (Z : State) (a1 : Addr) (h0 : Heap) (n0 : Nat) (v : Option Value) (h : Heap) (L : List Loc) : Prop := v = some (.int (0 : Int32)) ∧ Fr n0 L ∧ h = h0
set_option maxRecDepth 65536 in
set_option maxHeartbeats 40000000 in
theorem rm3c (l : Launch) (Z : State) (a0 : Array Value) (hw : ∀ d ∈ tables_1, d.before a0 Z = true) (ws : List Jvm.Cond) (a1 : Addr) (h0 : Heap) (n0 : Nat) (Z0 : n0 ≤ h0.size) (SC : Sta Z h0 "com/example/terseline/terseline/Delimiter" "COMMA" "Lcom/example/terseline/terseline/Delimiter;" (.ref a1)) :
    MetFree l (⟨"com/example/terseline/terseline/Delimiter", "isMarked", "()Z"⟩ : MethodName) (head1 (Jvm.Cond.code (⟨"com/example/terseline/terseline/Delimiter", "isMarked", "()Z"⟩ : MethodName) prog_11_method_5_code 1 (some .boolean) :: ws) ({ frames := 0, cells := 0, slots := 0, locals := 0 } : Room)) (fun a U => a = #[(.ref a1)] ∧ Z.Warmed39 U.vm ∧ U.heap = h0) (fun _ _ _ _ _ => True) (fun _ U o U' => ∃ v L, o = .returned v ∧ Q3c Z a1 h0 n0 v U'.heap L ∧ FrameEnd U o U' L ({ frames := 0, cells := 0, slots := 0, locals := 0 } : Room).cells ({ frames := 0, cells := 0, slots := 0, locals := 0 } : Room).slots) := by
  refine MetFree.of_bodySF (plainFor_of_name pn_3) hisR ?_
  intro p e s m args below meth c s₁ Bd hml0 hP hK
  obtain ⟨rfl, hZ, hh⟩ := hP
  have hx := Bd.exec
  have hby := Bd.bytes
  have hml : c.maxLocals = 1 := hml0
  have hown : s.vm.findClass "com/example/terseline/terseline/Delimiter" = some m.cls := findClass_of_methodNamed Bd.named
  have hnm := (name_of_methodNamed Bd.named Bd.method).1
  have X0 : Stand p l e ({ frames := 0, cells := 0, slots := 0, locals := 0 } : Room) s m #[(.ref a1)] below meth c s₁ [] 0 0 := Stand.of_body Bd
  have e0 : s₁.heap = h0 := by rw [← hh, Bd.state]; rfl
  have N0 := Fr.nil n0
  obtain ⟨G, hG⟩ : ∃ G : State → Prop, G = OwnG p e below s ({ frames := 0, cells := 0, slots := 0, locals := 0 } : Room).cells ({ frames := 0, cells := 0, slots := 0, locals := 0 } : Room).slots (Q3c Z a1 h0 n0) := ⟨_, rfl⟩
  have go : ∀ {A B : State}, (∀ t, Steps p.tables e below A t → Steps p.tables e below B t) → G A → G B := fun h k => by rw [hG] at k ⊢; exact OwnG.go h k
  suffices k0 : G (s₁.setTop (mkF m 0 #[.val (.ref a1)] [])) by
    rw [hG] at k0; exact OwnG.go (fun t k => castTop (ef_rm3c m a1) k) k0
  refine go (fun _ k => XS.aloadN X0.here hx rfl (hb hby d3_0) rfl rfl k) ?_
  show G (s₁.setTop (mkF m 1 #[.val (.ref a1)] [(.ref a1)]))
  obtain ⟨T1, X1, e1, st1⟩ := getS2 X0 hx hZ hown (host := "") (Or.inl (hw _ (List.mem_of_getElem? (i := 27) rfl))) Via.refl e0 SC (g := (mkF m 1 #[.val (.ref a1)] [(.ref a1)])) rfl (hb hby d3_1)
  refine go st1 ?_
  show G (T1.setTop (mkF m 4 #[.val (.ref a1)] [(.ref a1), (.ref a1)]))
  refine go (fun _ k => Jvm.RoadKit.acmp (g := (mkF m 4 #[.val (.ref a1)] [(.ref a1), (.ref a1)])) X1 hx rfl rfl rfl (pc0 := 4) (pc' := 11) (same := true) rfl (hb hby d3_4) rfl (decide_eq_true rfl) (by decide) (by decide) k) ?_
  show G (T1.setTop (mkF m 11 #[.val (.ref a1)] []))
  refine go (fun _ k => XS.iconst X1.here hx rfl (hb hby d3_11) k) ?_
  show G (T1.setTop (mkF m 12 #[.val (.ref a1)] [(.int (0 : Int32))]))
  rw [hG]
  refine own_fin X1 Bd.notSynchronized (v := some (.int (0 : Int32))) (fun h => by rw [Bd.returns] at h; cases h) (fun fs hr => retOut X1 hx Bd.returns rfl (by simp [FieldType.isReference, Value.isRef]) (hb hby d3_12) hr) ?_ (by decide) (by decide)
  show Q3c Z a1 h0 n0 (some (.int (0 : Int32))) T1.heap _
  rw [e1]
  exact ⟨rfl, N0, rfl⟩
theorem d3_7 : decode prog_11_method_5_code 7 = .ok (.iconst 1, 1) := by decide +kernel
theorem d3_8 : decode prog_11_method_5_code 8 = .ok (.goto 4, 3) := by decide +kernel
theorem ef_rm3o (m : MethodId) (a1 : Addr) : entryFrame m #[(.ref a1)] 1 = mkF m 0 #[.val (.ref a1)] [] := by first | (simp [entryFrame, mkF, argsToLocals, Value.category]; done) | rfl
def Q3o (Z : State) (a1 : Addr) (aC : Addr) (h0 : Heap) (n0 : Nat) (v : Option Value) (h : Heap) (L : List Loc) : Prop := v = some (.int (1 : Int32)) ∧ Fr n0 L ∧ h = h0
set_option maxRecDepth 65536 in
set_option maxHeartbeats 40000000 in
theorem rm3o (l : Launch) (Z : State) (a0 : Array Value) (hw : ∀ d ∈ tables_1, d.before a0 Z = true) (ws : List Jvm.Cond) (a1 : Addr) (aC : Addr) (h0 : Heap) (n0 : Nat) (Z0 : n0 ≤ h0.size) (SC : Sta Z h0 "com/example/terseline/terseline/Delimiter" "COMMA" "Lcom/example/terseline/terseline/Delimiter;" (.ref aC)) (hne : a1 ≠ aC) :
    MetFree l (⟨"com/example/terseline/terseline/Delimiter", "isMarked", "()Z"⟩ : MethodName) (head1 (Jvm.Cond.code (⟨"com/example/terseline/terseline/Delimiter", "isMarked", "()Z"⟩ : MethodName) prog_11_method_5_code 1 (some .boolean) :: ws) ({ frames := 0, cells := 0, slots := 0, locals := 0 } : Room)) (fun a U => a = #[(.ref a1)] ∧ Z.Warmed39 U.vm ∧ U.heap = h0) (fun _ _ _ _ _ => True) (fun _ U o U' => ∃ v L, o = .returned v ∧ Q3o Z a1 aC h0 n0 v U'.heap L ∧ FrameEnd U o U' L ({ frames := 0, cells := 0, slots := 0, locals := 0 } : Room).cells ({ frames := 0, cells := 0, slots := 0, locals := 0 } : Room).slots) := by
  refine MetFree.of_bodySF (plainFor_of_name pn_3) hisR ?_
  intro p e s m args below meth c s₁ Bd hml0 hP hK
  obtain ⟨rfl, hZ, hh⟩ := hP
  have hx := Bd.exec
  have hby := Bd.bytes
  have hml : c.maxLocals = 1 := hml0
  have hown : s.vm.findClass "com/example/terseline/terseline/Delimiter" = some m.cls := findClass_of_methodNamed Bd.named
  have hnm := (name_of_methodNamed Bd.named Bd.method).1
  have X0 : Stand p l e ({ frames := 0, cells := 0, slots := 0, locals := 0 } : Room) s m #[(.ref a1)] below meth c s₁ [] 0 0 := Stand.of_body Bd
  have e0 : s₁.heap = h0 := by rw [← hh, Bd.state]; rfl
  have N0 := Fr.nil n0
  obtain ⟨G, hG⟩ : ∃ G : State → Prop, G = OwnG p e below s ({ frames := 0, cells := 0, slots := 0, locals := 0 } : Room).cells ({ frames := 0, cells := 0, slots := 0, locals := 0 } : Room).slots (Q3o Z a1 aC h0 n0) := ⟨_, rfl⟩
  have go : ∀ {A B : State}, (∀ t, Steps p.tables e below A t → Steps p.tables e below B t) → G A → G B := fun h k => by rw [hG] at k ⊢; exact OwnG.go h k
  suffices k0 : G (s₁.setTop (mkF m 0 #[.val (.ref a1)] [])) by
    rw [hG] at k0; exact OwnG.go (fun t k => castTop (ef_rm3o m a1) k) k0
  refine go (fun _ k => XS.aloadN X0.here hx rfl (hb hby d3_0) rfl rfl k) ?_
  show G (s₁.setTop (mkF m 1 #[.val (.ref a1)] [(.ref a1)]))
  obtain ⟨T1, X1, e1, st1⟩ := getS2 X0 hx hZ hown (host := "") (Or.inl (hw _ (List.mem_of_getElem? (i := 27) rfl))) Via.refl e0 SC (g := (mkF m 1 #[.val (.ref a1)] [(.ref a1)])) rfl (hb hby d3_1)
  refine go st1 ?_
  show G (T1.setTop (mkF m 4 #[.val (.ref a1)] [(.ref aC), (.ref a1)]))
  refine go (fun _ k => Jvm.RoadKit.acmp (g := (mkF m 4 #[.val (.ref a1)] [(.ref aC), (.ref a1)])) X1 hx rfl rfl rfl (pc0 := 4) (pc' := 7) (same := false) rfl (hb hby d3_4) rfl (decide_eq_false fun q => hne (Value.ref.inj q)) (by decide) (by decide) k) ?_
  show G (T1.setTop (mkF m 7 #[.val (.ref a1)] []))
  refine go (fun _ k => XS.iconst X1.here hx rfl (hb hby d3_7) k) ?_
  show G (T1.setTop (mkF m 8 #[.val (.ref a1)] [(.int (1 : Int32))]))
  refine go (fun _ k => XS.goto X1.here hx rfl (pc0 := 8) (pc' := 12) rfl (hb hby d3_8) (by decide) (by decide) k) ?_
  show G (T1.setTop (mkF m 12 #[.val (.ref a1)] [(.int (1 : Int32))]))
  rw [hG]
  refine own_fin X1 Bd.notSynchronized (v := some (.int (1 : Int32))) (fun h => by rw [Bd.returns] at h; cases h) (fun fs hr => retOut X1 hx Bd.returns rfl (by simp [FieldType.isReference, Value.isRef]) (hb hby d3_12) hr) ?_ (by decide) (by decide)
  show Q3o Z a1 aC h0 n0 (some (.int (1 : Int32))) T1.heap _
  rw [e1]
  exact ⟨rfl, N0, rfl⟩

theorem d1_0 : decode prog_11_method_6_code 0 = .ok (.aconst_null, 1) := by decide +kernel
theorem d1_1 : decode prog_11_method_6_code 1 = .ok (.astore_n 1, 1) := by decide +kernel
theorem d1_2 : decode prog_11_method_6_code 2 = .ok (.invokestatic 36, 3) := by decide +kernel
theorem d1_5 : decode prog_11_method_6_code 5 = .ok (.astore_n 2, 1) := by decide +kernel
theorem d1_6 : decode prog_11_method_6_code 6 = .ok (.aload_n 2, 1) := by decide +kernel
theorem d1_7 : decode prog_11_method_6_code 7 = .ok (.arraylength, 1) := by decide +kernel
theorem d1_8 : decode prog_11_method_6_code 8 = .ok (.istore_n 3, 1) := by decide +kernel
theorem d1_9 : decode prog_11_method_6_code 9 = .ok (.iconst 0, 1) := by decide +kernel
theorem d1_10 : decode prog_11_method_6_code 10 = .ok (.istore 4, 2) := by decide +kernel
theorem d1_12 : decode prog_11_method_6_code 12 = .ok (.iload 4, 2) := by decide +kernel
theorem d1_14 : decode prog_11_method_6_code 14 = .ok (.iload_n 3, 1) := by decide +kernel
theorem d1_15 : decode prog_11_method_6_code 15 = .ok (.if_icmp .ge 35, 3) := by decide +kernel
theorem d1_18 : decode prog_11_method_6_code 18 = .ok (.aload_n 2, 1) := by decide +kernel
theorem d1_19 : decode prog_11_method_6_code 19 = .ok (.iload 4, 2) := by decide +kernel
theorem d1_21 : decode prog_11_method_6_code 21 = .ok (.aaload, 1) := by decide +kernel
theorem d1_22 : decode prog_11_method_6_code 22 = .ok (.astore 5, 2) := by decide +kernel
theorem d1_24 : decode prog_11_method_6_code 24 = .ok (.aload 5, 2) := by decide +kernel
theorem d1_26 : decode prog_11_method_6_code 26 = .ok (.invokevirtual 40, 3) := by decide +kernel
theorem d1_29 : decode prog_11_method_6_code 29 = .ok (.ifCond .eq 15, 3) := by decide +kernel
theorem d1_32 : decode prog_11_method_6_code 32 = .ok (.aload 5, 2) := by decide +kernel
theorem d1_34 : decode prog_11_method_6_code 34 = .ok (.getfield 32, 3) := by decide +kernel
theorem d1_37 : decode prog_11_method_6_code 37 = .ok (.iload_n 0, 1) := by decide +kernel
theorem d1_38 : decode prog_11_method_6_code 38 = .ok (.if_icmp .ne 6, 3) := by decide +kernel
theorem d1_41 : decode prog_11_method_6_code 41 = .ok (.aload 5, 2) := by decide +kernel
theorem d1_43 : decode prog_11_method_6_code 43 = .ok (.astore_n 1, 1) := by decide +kernel
theorem d1_44 : decode prog_11_method_6_code 44 = .ok (.iinc 4 1, 3) := by decide +kernel
theorem d1_47 : decode prog_11_method_6_code 47 = .ok (.goto (-35), 3) := by decide +kernel
theorem d1_50 : decode prog_11_method_6_code 50 = .ok (.aload_n 1, 1) := by decide +kernel
theorem d1_51 : decode prog_11_method_6_code 51 = .ok (.areturn, 1) := by decide +kernel
theorem pn_1 : plainName "com/example/terseline/terseline/Delimiter" = true := by first | (simp [plainName, overriddenIn]; done) | decide +kernel
theorem pd_1_0 : parseMethodDescriptor "()[Lcom/example/terseline/terseline/Delimiter;" = some ⟨[], some (.array (.object "com/example/terseline/terseline/Delimiter"))⟩ := by decide +kernel
theorem pd_1_1 : parseMethodDescriptor "()Z" = some ⟨[], some .boolean⟩ := by decide +kernel
theorem ef_rm1T (m : MethodId) (p1 : Int32) : entryFrame m #[(.int p1)] 6 = mkF m 0 #[.val (.int p1), .unset, .unset, .unset, .unset, .unset] [] := by first | (simp [entryFrame, mkF, argsToLocals, Value.category]; done) | rfl
def Q1T (Z : State) (p1 : Int32) (aC aT aP aV : Addr) (k : ClassId) (h0 : Heap) (n0 : Nat) (v : Option Value) (h : Heap) (L : List Loc) : Prop := v = some (.ref aT) ∧ Fr n0 L ∧ Ext h0 h
set_option maxRecDepth 65536 in
set_option maxHeartbeats 40000000 in
theorem rm1T (l : Launch) (Z : State) (a0 : Array Value) (hw : ∀ d ∈ tables_1, d.before a0 Z = true) (ws : List Jvm.Cond) (p1 : Int32) (aC aT aP aV : Addr) (k : ClassId) (h0 : Heap) (n0 : Nat) (Z0 : n0 ≤ h0.size) (SaC : Sta Z h0 "com/example/terseline/terseline/Delimiter" "COMMA" "Lcom/example/terseline/terseline/Delimiter;" (.ref aC)) (EaC : Exa Z h0 aC "com/example/terseline/terseline/Delimiter") (FaC : Fld Z h0 aC "com/example/terseline/terseline/Delimiter" "character" "C" (.int (44 : Int32))) (SaT : Sta Z h0 "com/example/terseline/terseline/Delimiter" "TAB" "Lcom/example/terseline/terseline/Delimiter;" (.ref aT)) (EaT : Exa Z h0 aT "com/example/terseline/terseline/Delimiter") (FaT : Fld Z h0 aT "com/example/terseline/terseline/Delimiter" "character" "C" (.int (9 : Int32))) (SaP : Sta Z h0 "com/example/terseline/terseline/Delimiter" "PIPE" "Lcom/example/terseline/terseline/Delimiter;" (.ref aP)) (EaP : Exa Z h0 aP "com/example/terseline/terseline/Delimiter") (FaP : Fld Z h0 aP "com/example/terseline/terseline/Delimiter" "character" "C" (.int (124 : Int32))) (SV : Sta Z h0 "com/example/terseline/terseline/Delimiter" "$VALUES" "[Lcom/example/terseline/terseline/Delimiter;" (.ref aV)) (VA : Arv Z h0 aV k (.object "com/example/terseline/terseline/Delimiter") (3 : Int32) [(.ref aC), (.ref aT), (.ref aP)] .null) (EA : Exa Z h0 aV "[Lcom/example/terseline/terseline/Delimiter;") (hp : p1 = 9) :
    MetFree l (⟨"com/example/terseline/terseline/Delimiter", "declaredBy", "(C)Lcom/example/terseline/terseline/Delimiter;"⟩ : MethodName) (head1 (Jvm.Cond.code (⟨"com/example/terseline/terseline/Delimiter", "declaredBy", "(C)Lcom/example/terseline/terseline/Delimiter;"⟩ : MethodName) prog_11_method_6_code 6 (some (.object "com/example/terseline/terseline/Delimiter")) :: ws) ({ frames := 2, cells := 1, slots := 3, locals := 25 } : Room)) (fun a U => a = #[(.int p1)] ∧ Z.Warmed39 U.vm ∧ U.heap = h0) (fun _ _ _ _ _ => True) (fun _ U o U' => ∃ v L, o = .returned v ∧ Q1T Z p1 aC aT aP aV k h0 n0 v U'.heap L ∧ FrameEnd U o U' L ({ frames := 2, cells := 1, slots := 3, locals := 25 } : Room).cells ({ frames := 2, cells := 1, slots := 3, locals := 25 } : Room).slots) := by
  refine MetFree.of_bodySF (plainFor_of_name pn_1) hisR ?_
  intro p e s m args below meth c s₁ Bd hml0 hP hK
  obtain ⟨rfl, hZ, hh⟩ := hP
  have hx := Bd.exec
  have hby := Bd.bytes
  have hml : c.maxLocals = 6 := hml0
  have hown : s.vm.findClass "com/example/terseline/terseline/Delimiter" = some m.cls := findClass_of_methodNamed Bd.named
  have hnm := (name_of_methodNamed Bd.named Bd.method).1
  have X0 : Stand p l e ({ frames := 2, cells := 1, slots := 3, locals := 25 } : Room) s m #[(.int p1)] below meth c s₁ [] 0 0 := Stand.of_body Bd
  have e0 : s₁.heap = h0 := by rw [← hh, Bd.state]; rfl
  have N0 := Fr.nil n0
  obtain ⟨G, hG⟩ : ∃ G : State → Prop, G = OwnG p e below s ({ frames := 2, cells := 1, slots := 3, locals := 25 } : Room).cells ({ frames := 2, cells := 1, slots := 3, locals := 25 } : Room).slots (Q1T Z p1 aC aT aP aV k h0 n0) := ⟨_, rfl⟩
  have go : ∀ {A B : State}, (∀ t, Steps p.tables e below A t → Steps p.tables e below B t) → G A → G B := fun h k => by rw [hG] at k ⊢; exact OwnG.go h k
  suffices k0 : G (s₁.setTop (mkF m 0 #[.val (.int p1), .unset, .unset, .unset, .unset, .unset] [])) by
    rw [hG] at k0; exact OwnG.go (fun t k => castTop (ef_rm1T m p1) k) k0
  refine go (fun _ k => XS.aconstNull X0.here hx rfl (hb hby d1_0) k) ?_
  show G (s₁.setTop (mkF m 1 #[.val (.int p1), .unset, .unset, .unset, .unset, .unset] [.null]))
  refine go (fun _ k => XS.astoreN X0.here hx rfl (hb hby d1_1) rfl rfl (l' := #[.val (.int p1), .val .null, .unset, .unset, .unset, .unset]) rfl k) ?_
  show G (s₁.setTop (mkF m 2 #[.val (.int p1), .val .null, .unset, .unset, .unset, .unset] []))
  obtain ⟨_, _, ⟨T1, L1, k1, n1⟩, -, X1, ⟨Lc1, hQ1, l1, y1, z1⟩, st1⟩ := Jvm.LawKit.callS X0 hx (y := (⟨"com/example/terseline/terseline/Delimiter", "values", "()[Lcom/example/terseline/terseline/Delimiter;"⟩ : MethodName)) hown (mvT hZ (hw _ (List.mem_of_getElem? (i := 4) rfl))) (mvT hZ (hw _ (List.mem_of_getElem? (i := 5) rfl))) (mvT hZ (hw _ (List.mem_of_getElem? (i := 2) rfl))) (mvT hZ (hw _ (List.mem_of_getElem? (i := 6) rfl))) (by decide) (backOf (W := 0) (rm2 l Z a0 hw [] aC aT aP aV k h0 n0 Z0 SV VA EA) hZ (hw _ (List.mem_of_getElem? (i := 6) rfl)) (hw _ (List.mem_of_getElem? (i := 2) rfl)) (by decide) (by decide)) (g := (mkF m 2 #[.val (.int p1), .val .null, .unset, .unset, .unset, .unset] [])) rfl (by rw [hml]; rfl) (argsL := []) (rest := []) (lenOf pd_1_0 rfl) rfl (by show 2 * 0 + _ ≤ _; exact Nat.le_of_eq rfl) (hb hby d1_2) (fun _ _ => ⟨rfl, e0, (by decide : 0 + 1 ≤ _), (by decide : 0 + 3 ≤ _)⟩)
  dsimp only [Pt.U, Pt.locs, Pt.cells, Pt.slots] at X1 l1 y1 z1 st1 hQ1
  subst l1 y1 z1
  obtain ⟨bv1, rfl, N1q, Kc1, c1_0⟩ := hQ1
  have f2 := SaC.ext Kc1
  have f3 := EaC.ext Kc1
  have f4 := FaC.ext Kc1
  have f5 := SaT.ext Kc1
  have f6 := EaT.ext Kc1
  have f7 := FaT.ext Kc1
  have f8 := SaP.ext Kc1
  have f9 := EaP.ext Kc1
  have f10 := FaP.ext Kc1
  have f11 := SV.ext Kc1
  have f12 := VA.ext Kc1
  have f13 := EA.ext Kc1
  have Zs1 : n0 ≤ T1.heap.size := Nat.le_trans Z0 Kc1.1
  have N1 := Fr.app N0 N1q
  refine go st1 ?_
  show G (T1.setTop (mkF m 5 #[.val (.int p1), .val .null, .unset, .unset, .unset, .unset] [(.ref bv1)]))
  refine go (fun _ k => XS.astoreN X1.here hx rfl (hb hby d1_5) rfl rfl (l' := #[.val (.int p1), .val .null, .val (.ref bv1), .unset, .unset, .unset]) rfl k) ?_
  show G (T1.setTop (mkF m 6 #[.val (.int p1), .val .null, .val (.ref bv1), .unset, .unset, .unset] []))
  refine go (fun _ k => XS.aloadN X1.here hx rfl (hb hby d1_6) rfl rfl k) ?_
  show G (T1.setTop (mkF m 7 #[.val (.int p1), .val .null, .val (.ref bv1), .unset, .unset, .unset] [(.ref bv1)]))
  obtain ⟨cl14, Ar14, qk14, qs14, qn14, qh14, qg14⟩ := id c1_0
  refine go (X1.arraylength hx Ar14.1 (State.isArrayOf_alike hZ.alike Ar14.2.1) (g := (mkF m 7 #[.val (.int p1), .val .null, .val (.ref bv1), .unset, .unset, .unset] [(.ref bv1)])) rfl rfl (hb hby d1_7)) ?_
  rw [len_of qs14 qn14]
  show G (T1.setTop (mkF m 8 #[.val (.int p1), .val .null, .val (.ref bv1), .unset, .unset, .unset] [(.int (3 : Int32))]))
  refine go (fun _ k => XS.istoreN X1.here hx rfl (hb hby d1_8) rfl (l' := #[.val (.int p1), .val .null, .val (.ref bv1), .val (.int (3 : Int32)), .unset, .unset]) rfl k) ?_
  show G (T1.setTop (mkF m 9 #[.val (.int p1), .val .null, .val (.ref bv1), .val (.int (3 : Int32)), .unset, .unset] []))
  refine go (fun _ k => XS.iconst X1.here hx rfl (hb hby d1_9) k) ?_
  show G (T1.setTop (mkF m 10 #[.val (.int p1), .val .null, .val (.ref bv1), .val (.int (3 : Int32)), .unset, .unset] [(.int (0 : Int32))]))
  refine go (fun _ k => XS.istore X1.here hx rfl (hb hby d1_10) rfl (l' := #[.val (.int p1), .val .null, .val (.ref bv1), .val (.int (3 : Int32)), .val (.int (0 : Int32)), .unset]) rfl k) ?_
  show G (T1.setTop (mkF m 12 #[.val (.int p1), .val .null, .val (.ref bv1), .val (.int (3 : Int32)), .val (.int (0 : Int32)), .unset] []))
  refine go (fun _ k => XS.iload X1.here hx rfl (hb hby d1_12) rfl k) ?_
  show G (T1.setTop (mkF m 14 #[.val (.int p1), .val .null, .val (.ref bv1), .val (.int (3 : Int32)), .val (.int (0 : Int32)), .unset] [(.int (0 : Int32))]))
  refine go (fun _ k => XS.iloadN X1.here hx rfl (hb hby d1_14) rfl k) ?_
  show G (T1.setTop (mkF m 15 #[.val (.int p1), .val .null, .val (.ref bv1), .val (.int (3 : Int32)), .val (.int (0 : Int32)), .unset] [(.int (3 : Int32)), (.int (0 : Int32))]))
  have hc15 : (0 : Int32) < (3 : Int32) := (by decide)
  refine go (fun _ k => XS.icmpNo X1.here hx rfl (hb hby d1_15) rfl (tlt hc15).2.1 k) ?_
  show G (T1.setTop (mkF m 18 #[.val (.int p1), .val .null, .val (.ref bv1), .val (.int (3 : Int32)), .val (.int (0 : Int32)), .unset] []))
  refine go (fun _ k => XS.aloadN X1.here hx rfl (hb hby d1_18) rfl rfl k) ?_
  show G (T1.setTop (mkF m 19 #[.val (.int p1), .val .null, .val (.ref bv1), .val (.int (3 : Int32)), .val (.int (0 : Int32)), .unset] [(.ref bv1)]))
  refine go (fun _ k => XS.iload X1.here hx rfl (hb hby d1_19) rfl k) ?_
  show G (T1.setTop (mkF m 21 #[.val (.int p1), .val .null, .val (.ref bv1), .val (.int (3 : Int32)), .val (.int (0 : Int32)), .unset] [(.int (0 : Int32)), (.ref bv1)]))
  obtain ⟨cl16, Ar16, qk16, qs16, qn16, qh16, qg16⟩ := id c1_0
  refine go (X1.aaload hx (j := (0 : Int32)) (v := (.ref aC)) Ar16.1 (State.isArrayOf_alike hZ.alike Ar16.2.1) rfl Ar16.2.2 (inb_of qs16 ⟨by decide, by decide⟩) (Has.at qh16 (inb_of qs16 ⟨by decide, by decide⟩) rfl) (g := (mkF m 21 #[.val (.int p1), .val .null, .val (.ref bv1), .val (.int (3 : Int32)), .val (.int (0 : Int32)), .unset] [(.int (0 : Int32)), (.ref bv1)])) rfl rfl (hb hby d1_21)) ?_
  show G (T1.setTop (mkF m 22 #[.val (.int p1), .val .null, .val (.ref bv1), .val (.int (3 : Int32)), .val (.int (0 : Int32)), .unset] [(.ref aC)]))
  refine go (fun _ k => XS.astore X1.here hx rfl (hb hby d1_22) rfl rfl (l' := #[.val (.int p1), .val .null, .val (.ref bv1), .val (.int (3 : Int32)), .val (.int (0 : Int32)), .val (.ref aC)]) rfl k) ?_
  show G (T1.setTop (mkF m 24 #[.val (.int p1), .val .null, .val (.ref bv1), .val (.int (3 : Int32)), .val (.int (0 : Int32)), .val (.ref aC)] []))
  refine go (fun _ k => XS.aload X1.here hx rfl (hb hby d1_24) rfl rfl k) ?_
  show G (T1.setTop (mkF m 26 #[.val (.int p1), .val .null, .val (.ref bv1), .val (.int (3 : Int32)), .val (.int (0 : Int32)), .val (.ref aC)] [(.ref aC)]))
  obtain ⟨cq17, kq17, qa17, qb17, qc17⟩ := isOf hZ rfl f3
  obtain ⟨_, _, ⟨T17, L17, k17, n17⟩, -, X17, ⟨Lc17, hQ17, l17, y17, z17⟩, st17⟩ := X1.virtualBack hx (y := (⟨"com/example/terseline/terseline/Delimiter", "isMarked", "()Z"⟩ : MethodName)) (z := (⟨"com/example/terseline/terseline/Delimiter", "isMarked", "()Z"⟩ : MethodName)) hown (mvT hZ (hw _ (List.mem_of_getElem? (i := 22) rfl))) (mvT hZ (hw _ (List.mem_of_getElem? (i := 23) rfl))) (notFace_of_selects (args := #[]) (mvT hZ (hw _ (List.mem_of_getElem? (i := 25) rfl)))) (mvT hZ (hw _ (List.mem_of_getElem? (i := 25) rfl))) (mvT hZ (hw _ (List.mem_of_getElem? (i := 24) rfl))) (by decide) (backOf (W := 0) (rm3c l Z a0 hw [] aC T1.heap n0 Zs1 f2) hZ (hw _ (List.mem_of_getElem? (i := 26) rfl)) (hw _ (List.mem_of_getElem? (i := 2) rfl)) (by decide) (by decide)) qa17 qc17 (g := (mkF m 26 #[.val (.int p1), .val .null, .val (.ref bv1), .val (.int (3 : Int32)), .val (.int (0 : Int32)), .val (.ref aC)] [(.ref aC)])) rfl (by rw [hml]; rfl) (Steps.refl _) (argsL := []) (rest := []) (lenOf pd_1_1 rfl) rfl (by show 2 * 0 + _ ≤ _; exact Nat.le_of_eq rfl) (hb hby d1_26) (fun _ _ => ⟨rfl, rfl, (by decide : 1 + 0 ≤ _), (by decide : 3 + 0 ≤ _)⟩)
  dsimp only [Pt.U, Pt.locs, Pt.cells, Pt.slots] at X17 l17 y17 z17 st17 hQ17
  subst l17 y17 z17
  obtain ⟨rfl, N17q, e17⟩ := hQ17
  have N17 := Fr.app N1 N17q
  refine go (fun _ k => st17.trans k) ?_
  show G (T17.setTop (mkF m 29 #[.val (.int p1), .val .null, .val (.ref bv1), .val (.int (3 : Int32)), .val (.int (0 : Int32)), .val (.ref aC)] [(.int (0 : Int32))]))
  have hc18 : (0 : Int32) = (0 : Int32) := rfl
  refine go (fun _ k => XS.ifYes X17.here hx rfl (pc0 := 29) (pc' := 44) rfl (hb hby d1_29) rfl ((if0 _ _).trans (teq hc18).1) (by decide) (by decide) k) ?_
  show G (T17.setTop (mkF m 44 #[.val (.int p1), .val .null, .val (.ref bv1), .val (.int (3 : Int32)), .val (.int (0 : Int32)), .val (.ref aC)] []))
  refine go (fun _ k => XS.iinc X17.here hx rfl (hb hby d1_44) rfl (l' := #[.val (.int p1), .val .null, .val (.ref bv1), .val (.int (3 : Int32)), .val (.int ((0 : Int32) + (1 : Int32))), .val (.ref aC)]) rfl k) ?_
  show G (T17.setTop (mkF m 47 #[.val (.int p1), .val .null, .val (.ref bv1), .val (.int (3 : Int32)), .val (.int ((0 : Int32) + (1 : Int32))), .val (.ref aC)] []))
  rw [show ((0 : Int32) + (1 : Int32) : Int32) = (1 : Int32) from by decide]
  show G (T17.setTop (mkF m 47 #[.val (.int p1), .val .null, .val (.ref bv1), .val (.int (3 : Int32)), .val (.int (1 : Int32)), .val (.ref aC)] []))
  refine go (fun _ k => XS.goto X17.here hx rfl (pc0 := 47) (pc' := 12) rfl (hb hby d1_47) (by decide) (by decide) k) ?_
  show G (T17.setTop (mkF m 12 #[.val (.int p1), .val .null, .val (.ref bv1), .val (.int (3 : Int32)), .val (.int (1 : Int32)), .val (.ref aC)] []))
  refine go (fun _ k => XS.iload X17.here hx rfl (hb hby d1_12) rfl k) ?_
  show G (T17.setTop (mkF m 14 #[.val (.int p1), .val .null, .val (.ref bv1), .val (.int (3 : Int32)), .val (.int (1 : Int32)), .val (.ref aC)] [(.int (1 : Int32))]))
  refine go (fun _ k => XS.iloadN X17.here hx rfl (hb hby d1_14) rfl k) ?_
  show G (T17.setTop (mkF m 15 #[.val (.int p1), .val .null, .val (.ref bv1), .val (.int (3 : Int32)), .val (.int (1 : Int32)), .val (.ref aC)] [(.int (3 : Int32)), (.int (1 : Int32))]))
  have hc19 : (1 : Int32) < (3 : Int32) := (by decide)
  refine go (fun _ k => XS.icmpNo X17.here hx rfl (hb hby d1_15) rfl (tlt hc19).2.1 k) ?_
  show G (T17.setTop (mkF m 18 #[.val (.int p1), .val .null, .val (.ref bv1), .val (.int (3 : Int32)), .val (.int (1 : Int32)), .val (.ref aC)] []))
  refine go (fun _ k => XS.aloadN X17.here hx rfl (hb hby d1_18) rfl rfl k) ?_
  show G (T17.setTop (mkF m 19 #[.val (.int p1), .val .null, .val (.ref bv1), .val (.int (3 : Int32)), .val (.int (1 : Int32)), .val (.ref aC)] [(.ref bv1)]))
  refine go (fun _ k => XS.iload X17.here hx rfl (hb hby d1_19) rfl k) ?_
  show G (T17.setTop (mkF m 21 #[.val (.int p1), .val .null, .val (.ref bv1), .val (.int (3 : Int32)), .val (.int (1 : Int32)), .val (.ref aC)] [(.int (1 : Int32)), (.ref bv1)]))
  obtain ⟨cl20, Ar20, qk20, qs20, qn20, qh20, qg20⟩ := id c1_0
  refine go (X17.aaload hx (j := (1 : Int32)) (v := (.ref aT)) (by rw [e17]; exact Ar20.1) (State.isArrayOf_alike hZ.alike Ar20.2.1) rfl Ar20.2.2 (inb_of qs20 ⟨by decide, by decide⟩) (Has.at qh20 (inb_of qs20 ⟨by decide, by decide⟩) rfl) (g := (mkF m 21 #[.val (.int p1), .val .null, .val (.ref bv1), .val (.int (3 : Int32)), .val (.int (1 : Int32)), .val (.ref aC)] [(.int (1 : Int32)), (.ref bv1)])) rfl rfl (hb hby d1_21)) ?_
  show G (T17.setTop (mkF m 22 #[.val (.int p1), .val .null, .val (.ref bv1), .val (.int (3 : Int32)), .val (.int (1 : Int32)), .val (.ref aC)] [(.ref aT)]))
  refine go (fun _ k => XS.astore X17.here hx rfl (hb hby d1_22) rfl rfl (l' := #[.val (.int p1), .val .null, .val (.ref bv1), .val (.int (3 : Int32)), .val (.int (1 : Int32)), .val (.ref aT)]) rfl k) ?_
  show G (T17.setTop (mkF m 24 #[.val (.int p1), .val .null, .val (.ref bv1), .val (.int (3 : Int32)), .val (.int (1 : Int32)), .val (.ref aT)] []))
  refine go (fun _ k => XS.aload X17.here hx rfl (hb hby d1_24) rfl rfl k) ?_
  show G (T17.setTop (mkF m 26 #[.val (.int p1), .val .null, .val (.ref bv1), .val (.int (3 : Int32)), .val (.int (1 : Int32)), .val (.ref aT)] [(.ref aT)]))
  obtain ⟨cq21, kq21, qa21, qb21, qc21⟩ := isOf hZ e17 f6
  obtain ⟨_, _, ⟨T21, L21, k21, n21⟩, -, X21, ⟨Lc21, hQ21, l21, y21, z21⟩, st21⟩ := X17.virtualBack hx (y := (⟨"com/example/terseline/terseline/Delimiter", "isMarked", "()Z"⟩ : MethodName)) (z := (⟨"com/example/terseline/terseline/Delimiter", "isMarked", "()Z"⟩ : MethodName)) hown (mvT hZ (hw _ (List.mem_of_getElem? (i := 22) rfl))) (mvT hZ (hw _ (List.mem_of_getElem? (i := 23) rfl))) (notFace_of_selects (args := #[]) (mvT hZ (hw _ (List.mem_of_getElem? (i := 25) rfl)))) (mvT hZ (hw _ (List.mem_of_getElem? (i := 25) rfl))) (mvT hZ (hw _ (List.mem_of_getElem? (i := 24) rfl))) (by decide) (backOf (W := 0) (rm3o l Z a0 hw [] aT aC T1.heap n0 Zs1 f2 (FaT.ne FaC (by decide))) hZ (hw _ (List.mem_of_getElem? (i := 26) rfl)) (hw _ (List.mem_of_getElem? (i := 2) rfl)) (by decide) (by decide)) qa21 qc21 (g := (mkF m 26 #[.val (.int p1), .val .null, .val (.ref bv1), .val (.int (3 : Int32)), .val (.int (1 : Int32)), .val (.ref aT)] [(.ref aT)])) rfl (by rw [hml]; rfl) (Steps.refl _) (argsL := []) (rest := []) (lenOf pd_1_1 rfl) rfl (by show 2 * 0 + _ ≤ _; exact Nat.le_of_eq rfl) (hb hby d1_26) (fun _ _ => ⟨rfl, e17, (by decide : 1 + 0 ≤ _), (by decide : 3 + 0 ≤ _)⟩)
  dsimp only [Pt.U, Pt.locs, Pt.cells, Pt.slots] at X21 l21 y21 z21 st21 hQ21
  subst l21 y21 z21
  obtain ⟨rfl, N21q, e21⟩ := hQ21
  have N21 := Fr.app N17 N21q
  refine go (fun _ k => st21.trans k) ?_
  show G (T21.setTop (mkF m 29 #[.val (.int p1), .val .null, .val (.ref bv1), .val (.int (3 : Int32)), .val (.int (1 : Int32)), .val (.ref aT)] [(.int (1 : Int32))]))
  have hc22 : ¬ ((1 : Int32) = (0 : Int32)) := (by decide)
  refine go (fun _ k => XS.ifNo X21.here hx rfl (hb hby d1_29) rfl ((if0 _ _).trans (feq hc22).1) k) ?_
  show G (T21.setTop (mkF m 32 #[.val (.int p1), .val .null, .val (.ref bv1), .val (.int (3 : Int32)), .val (.int (1 : Int32)), .val (.ref aT)] []))
  refine go (fun _ k => XS.aload X21.here hx rfl (hb hby d1_32) rfl rfl k) ?_
  show G (T21.setTop (mkF m 34 #[.val (.int p1), .val .null, .val (.ref bv1), .val (.int (3 : Int32)), .val (.int (1 : Int32)), .val (.ref aT)] [(.ref aT)]))
  obtain ⟨T23, X23, e23, st23⟩ := getF X21 hx hZ hown (host := "") (Or.inl (hw _ (List.mem_of_getElem? (i := 28) rfl))) Via.refl e21 f7 (g := (mkF m 34 #[.val (.int p1), .val .null, .val (.ref bv1), .val (.int (3 : Int32)), .val (.int (1 : Int32)), .val (.ref aT)] [(.ref aT)])) rfl rfl (hb hby d1_34)
  refine go st23 ?_
  show G (T23.setTop (mkF m 37 #[.val (.int p1), .val .null, .val (.ref bv1), .val (.int (3 : Int32)), .val (.int (1 : Int32)), .val (.ref aT)] [(.int (9 : Int32))]))
  refine go (fun _ k => XS.iloadN X23.here hx rfl (hb hby d1_37) rfl k) ?_
  show G (T23.setTop (mkF m 38 #[.val (.int p1), .val .null, .val (.ref bv1), .val (.int (3 : Int32)), .val (.int (1 : Int32)), .val (.ref aT)] [(.int p1), (.int (9 : Int32))]))
  have hc24 : (9 : Int32) = p1 := hp.symm
  refine go (fun _ k => XS.icmpNo X23.here hx rfl (hb hby d1_38) rfl (teq hc24).2 k) ?_
  show G (T23.setTop (mkF m 41 #[.val (.int p1), .val .null, .val (.ref bv1), .val (.int (3 : Int32)), .val (.int (1 : Int32)), .val (.ref aT)] []))
  refine go (fun _ k => XS.aload X23.here hx rfl (hb hby d1_41) rfl rfl k) ?_
  show G (T23.setTop (mkF m 43 #[.val (.int p1), .val .null, .val (.ref bv1), .val (.int (3 : Int32)), .val (.int (1 : Int32)), .val (.ref aT)] [(.ref aT)]))
  refine go (fun _ k => XS.astoreN X23.here hx rfl (hb hby d1_43) rfl rfl (l' := #[.val (.int p1), .val (.ref aT), .val (.ref bv1), .val (.int (3 : Int32)), .val (.int (1 : Int32)), .val (.ref aT)]) rfl k) ?_
  show G (T23.setTop (mkF m 44 #[.val (.int p1), .val (.ref aT), .val (.ref bv1), .val (.int (3 : Int32)), .val (.int (1 : Int32)), .val (.ref aT)] []))
  refine go (fun _ k => XS.iinc X23.here hx rfl (hb hby d1_44) rfl (l' := #[.val (.int p1), .val (.ref aT), .val (.ref bv1), .val (.int (3 : Int32)), .val (.int ((1 : Int32) + (1 : Int32))), .val (.ref aT)]) rfl k) ?_
  show G (T23.setTop (mkF m 47 #[.val (.int p1), .val (.ref aT), .val (.ref bv1), .val (.int (3 : Int32)), .val (.int ((1 : Int32) + (1 : Int32))), .val (.ref aT)] []))
  rw [show ((1 : Int32) + (1 : Int32) : Int32) = (2 : Int32) from by decide]
  show G (T23.setTop (mkF m 47 #[.val (.int p1), .val (.ref aT), .val (.ref bv1), .val (.int (3 : Int32)), .val (.int (2 : Int32)), .val (.ref aT)] []))
  refine go (fun _ k => XS.goto X23.here hx rfl (pc0 := 47) (pc' := 12) rfl (hb hby d1_47) (by decide) (by decide) k) ?_
  show G (T23.setTop (mkF m 12 #[.val (.int p1), .val (.ref aT), .val (.ref bv1), .val (.int (3 : Int32)), .val (.int (2 : Int32)), .val (.ref aT)] []))
  refine go (fun _ k => XS.iload X23.here hx rfl (hb hby d1_12) rfl k) ?_
  show G (T23.setTop (mkF m 14 #[.val (.int p1), .val (.ref aT), .val (.ref bv1), .val (.int (3 : Int32)), .val (.int (2 : Int32)), .val (.ref aT)] [(.int (2 : Int32))]))
  refine go (fun _ k => XS.iloadN X23.here hx rfl (hb hby d1_14) rfl k) ?_
  show G (T23.setTop (mkF m 15 #[.val (.int p1), .val (.ref aT), .val (.ref bv1), .val (.int (3 : Int32)), .val (.int (2 : Int32)), .val (.ref aT)] [(.int (3 : Int32)), (.int (2 : Int32))]))
  have hc25 : (2 : Int32) < (3 : Int32) := (by decide)
  refine go (fun _ k => XS.icmpNo X23.here hx rfl (hb hby d1_15) rfl (tlt hc25).2.1 k) ?_
  show G (T23.setTop (mkF m 18 #[.val (.int p1), .val (.ref aT), .val (.ref bv1), .val (.int (3 : Int32)), .val (.int (2 : Int32)), .val (.ref aT)] []))
  refine go (fun _ k => XS.aloadN X23.here hx rfl (hb hby d1_18) rfl rfl k) ?_
  show G (T23.setTop (mkF m 19 #[.val (.int p1), .val (.ref aT), .val (.ref bv1), .val (.int (3 : Int32)), .val (.int (2 : Int32)), .val (.ref aT)] [(.ref bv1)]))
  refine go (fun _ k => XS.iload X23.here hx rfl (hb hby d1_19) rfl k) ?_
  show G (T23.setTop (mkF m 21 #[.val (.int p1), .val (.ref aT), .val (.ref bv1), .val (.int (3 : Int32)), .val (.int (2 : Int32)), .val (.ref aT)] [(.int (2 : Int32)), (.ref bv1)]))
  obtain ⟨cl26, Ar26, qk26, qs26, qn26, qh26, qg26⟩ := id c1_0
  refine go (X23.aaload hx (j := (2 : Int32)) (v := (.ref aP)) (by rw [e23]; exact Ar26.1) (State.isArrayOf_alike hZ.alike Ar26.2.1) rfl Ar26.2.2 (inb_of qs26 ⟨by decide, by decide⟩) (Has.at qh26 (inb_of qs26 ⟨by decide, by decide⟩) rfl) (g := (mkF m 21 #[.val (.int p1), .val (.ref aT), .val (.ref bv1), .val (.int (3 : Int32)), .val (.int (2 : Int32)), .val (.ref aT)] [(.int (2 : Int32)), (.ref bv1)])) rfl rfl (hb hby d1_21)) ?_
  show G (T23.setTop (mkF m 22 #[.val (.int p1), .val (.ref aT), .val (.ref bv1), .val (.int (3 : Int32)), .val (.int (2 : Int32)), .val (.ref aT)] [(.ref aP)]))
  refine go (fun _ k => XS.astore X23.here hx rfl (hb hby d1_22) rfl rfl (l' := #[.val (.int p1), .val (.ref aT), .val (.ref bv1), .val (.int (3 : Int32)), .val (.int (2 : Int32)), .val (.ref aP)]) rfl k) ?_
  show G (T23.setTop (mkF m 24 #[.val (.int p1), .val (.ref aT), .val (.ref bv1), .val (.int (3 : Int32)), .val (.int (2 : Int32)), .val (.ref aP)] []))
  refine go (fun _ k => XS.aload X23.here hx rfl (hb hby d1_24) rfl rfl k) ?_
  show G (T23.setTop (mkF m 26 #[.val (.int p1), .val (.ref aT), .val (.ref bv1), .val (.int (3 : Int32)), .val (.int (2 : Int32)), .val (.ref aP)] [(.ref aP)]))
  obtain ⟨cq27, kq27, qa27, qb27, qc27⟩ := isOf hZ e23 f9
  obtain ⟨_, _, ⟨T27, L27, k27, n27⟩, -, X27, ⟨Lc27, hQ27, l27, y27, z27⟩, st27⟩ := X23.virtualBack hx (y := (⟨"com/example/terseline/terseline/Delimiter", "isMarked", "()Z"⟩ : MethodName)) (z := (⟨"com/example/terseline/terseline/Delimiter", "isMarked", "()Z"⟩ : MethodName)) hown (mvT hZ (hw _ (List.mem_of_getElem? (i := 22) rfl))) (mvT hZ (hw _ (List.mem_of_getElem? (i := 23) rfl))) (notFace_of_selects (args := #[]) (mvT hZ (hw _ (List.mem_of_getElem? (i := 25) rfl)))) (mvT hZ (hw _ (List.mem_of_getElem? (i := 25) rfl))) (mvT hZ (hw _ (List.mem_of_getElem? (i := 24) rfl))) (by decide) (backOf (W := 0) (rm3o l Z a0 hw [] aP aC T1.heap n0 Zs1 f2 (FaP.ne FaC (by decide))) hZ (hw _ (List.mem_of_getElem? (i := 26) rfl)) (hw _ (List.mem_of_getElem? (i := 2) rfl)) (by decide) (by decide)) qa27 qc27 (g := (mkF m 26 #[.val (.int p1), .val (.ref aT), .val (.ref bv1), .val (.int (3 : Int32)), .val (.int (2 : Int32)), .val (.ref aP)] [(.ref aP)])) rfl (by rw [hml]; rfl) (Steps.refl _) (argsL := []) (rest := []) (lenOf pd_1_1 rfl) rfl (by show 2 * 0 + _ ≤ _; exact Nat.le_of_eq rfl) (hb hby d1_26) (fun _ _ => ⟨rfl, e23, (by decide : 1 + 0 ≤ _), (by decide : 3 + 0 ≤ _)⟩)
  dsimp only [Pt.U, Pt.locs, Pt.cells, Pt.slots] at X27 l27 y27 z27 st27 hQ27
  subst l27 y27 z27
  obtain ⟨rfl, N27q, e27⟩ := hQ27
  have N27 := Fr.app N21 N27q
  refine go (fun _ k => st27.trans k) ?_
  show G (T27.setTop (mkF m 29 #[.val (.int p1), .val (.ref aT), .val (.ref bv1), .val (.int (3 : Int32)), .val (.int (2 : Int32)), .val (.ref aP)] [(.int (1 : Int32))]))
  have hc28 : ¬ ((1 : Int32) = (0 : Int32)) := (by decide)
  refine go (fun _ k => XS.ifNo X27.here hx rfl (hb hby d1_29) rfl ((if0 _ _).trans (feq hc28).1) k) ?_
  show G (T27.setTop (mkF m 32 #[.val (.int p1), .val (.ref aT), .val (.ref bv1), .val (.int (3 : Int32)), .val (.int (2 : Int32)), .val (.ref aP)] []))
  refine go (fun _ k => XS.aload X27.here hx rfl (hb hby d1_32) rfl rfl k) ?_
  show G (T27.setTop (mkF m 34 #[.val (.int p1), .val (.ref aT), .val (.ref bv1), .val (.int (3 : Int32)), .val (.int (2 : Int32)), .val (.ref aP)] [(.ref aP)]))
  obtain ⟨T29, X29, e29, st29⟩ := getF X27 hx hZ hown (host := "") (Or.inl (hw _ (List.mem_of_getElem? (i := 28) rfl))) Via.refl e27 f10 (g := (mkF m 34 #[.val (.int p1), .val (.ref aT), .val (.ref bv1), .val (.int (3 : Int32)), .val (.int (2 : Int32)), .val (.ref aP)] [(.ref aP)])) rfl rfl (hb hby d1_34)
  refine go st29 ?_
  show G (T29.setTop (mkF m 37 #[.val (.int p1), .val (.ref aT), .val (.ref bv1), .val (.int (3 : Int32)), .val (.int (2 : Int32)), .val (.ref aP)] [(.int (124 : Int32))]))
  refine go (fun _ k => XS.iloadN X29.here hx rfl (hb hby d1_37) rfl k) ?_
  show G (T29.setTop (mkF m 38 #[.val (.int p1), .val (.ref aT), .val (.ref bv1), .val (.int (3 : Int32)), .val (.int (2 : Int32)), .val (.ref aP)] [(.int p1), (.int (124 : Int32))]))
  have hc30 : ¬ ((124 : Int32) = p1) := by rw [hp]; decide
  refine go (fun _ k => XS.icmpYes X29.here hx rfl (pc0 := 38) (pc' := 44) rfl (hb hby d1_38) rfl (feq hc30).2 (by decide) (by decide) k) ?_
  show G (T29.setTop (mkF m 44 #[.val (.int p1), .val (.ref aT), .val (.ref bv1), .val (.int (3 : Int32)), .val (.int (2 : Int32)), .val (.ref aP)] []))
  refine go (fun _ k => XS.iinc X29.here hx rfl (hb hby d1_44) rfl (l' := #[.val (.int p1), .val (.ref aT), .val (.ref bv1), .val (.int (3 : Int32)), .val (.int ((2 : Int32) + (1 : Int32))), .val (.ref aP)]) rfl k) ?_
  show G (T29.setTop (mkF m 47 #[.val (.int p1), .val (.ref aT), .val (.ref bv1), .val (.int (3 : Int32)), .val (.int ((2 : Int32) + (1 : Int32))), .val (.ref aP)] []))
  rw [show ((2 : Int32) + (1 : Int32) : Int32) = (3 : Int32) from by decide]
  show G (T29.setTop (mkF m 47 #[.val (.int p1), .val (.ref aT), .val (.ref bv1), .val (.int (3 : Int32)), .val (.int (3 : Int32)), .val (.ref aP)] []))
  refine go (fun _ k => XS.goto X29.here hx rfl (pc0 := 47) (pc' := 12) rfl (hb hby d1_47) (by decide) (by decide) k) ?_
  show G (T29.setTop (mkF m 12 #[.val (.int p1), .val (.ref aT), .val (.ref bv1), .val (.int (3 : Int32)), .val (.int (3 : Int32)), .val (.ref aP)] []))
  refine go (fun _ k => XS.iload X29.here hx rfl (hb hby d1_12) rfl k) ?_
  show G (T29.setTop (mkF m 14 #[.val (.int p1), .val (.ref aT), .val (.ref bv1), .val (.int (3 : Int32)), .val (.int (3 : Int32)), .val (.ref aP)] [(.int (3 : Int32))]))
  refine go (fun _ k => XS.iloadN X29.here hx rfl (hb hby d1_14) rfl k) ?_
  show G (T29.setTop (mkF m 15 #[.val (.int p1), .val (.ref aT), .val (.ref bv1), .val (.int (3 : Int32)), .val (.int (3 : Int32)), .val (.ref aP)] [(.int (3 : Int32)), (.int (3 : Int32))]))
  have hc31 : ¬ ((3 : Int32) < (3 : Int32)) := (by decide)
  refine go (fun _ k => XS.icmpYes X29.here hx rfl (pc0 := 15) (pc' := 50) rfl (hb hby d1_15) rfl (flt hc31).2.1 (by decide) (by decide) k) ?_
  show G (T29.setTop (mkF m 50 #[.val (.int p1), .val (.ref aT), .val (.ref bv1), .val (.int (3 : Int32)), .val (.int (3 : Int32)), .val (.ref aP)] []))
  refine go (fun _ k => XS.aloadN X29.here hx rfl (hb hby d1_50) rfl rfl k) ?_
  show G (T29.setTop (mkF m 51 #[.val (.int p1), .val (.ref aT), .val (.ref bv1), .val (.int (3 : Int32)), .val (.int (3 : Int32)), .val (.ref aP)] [(.ref aT)]))
  rw [hG]
  refine own_fin X29 Bd.notSynchronized (v := some (.ref aT)) (fun h => by rw [Bd.returns] at h; cases h) (fun fs hr => retOut X29 hx Bd.returns rfl (by simp [FieldType.isReference, Value.isRef]) (hb hby d1_51) hr) ?_ (by decide) (by decide)
  show Q1T Z p1 aC aT aP aV k h0 n0 (some (.ref aT)) T29.heap _
  rw [e29]
  exact ⟨rfl, N27, Kc1⟩

theorem ef_rm1P (m : MethodId) (p1 : Int32) : entryFrame m #[(.int p1)] 6 = mkF m 0 #[.val (.int p1), .unset, .unset, .unset, .unset, .unset] [] := by first | (simp [entryFrame, mkF, argsToLocals, Value.category]; done) | rfl
def Q1P (Z : State) (p1 : Int32) (aC aT aP aV : Addr) (k : ClassId) (h0 : Heap) (n0 : Nat) (v : Option Value) (h : Heap) (L : List Loc) : Prop := v = some (.ref aP) ∧ Fr n0 L ∧ Ext h0 h
set_option maxRecDepth 65536 in
set_option maxHeartbeats 40000000 in
theorem rm1P (l : Launch) (Z : State) (a0 : Array Value) (hw : ∀ d ∈ tables_1, d.before a0 Z = true) (ws : List Jvm.Cond) (p1 : Int32) (aC aT aP aV : Addr) (k : ClassId) (h0 : Heap) (n0 : Nat) (Z0 : n0 ≤ h0.size) (SaC : Sta Z h0 "com/example/terseline/terseline/Delimiter" "COMMA" "Lcom/example/terseline/terseline/Delimiter;" (.ref aC)) (EaC : Exa Z h0 aC "com/example/terseline/terseline/Delimiter") (FaC : Fld Z h0 aC "com/example/terseline/terseline/Delimiter" "character" "C" (.int (44 : Int32))) (SaT : Sta Z h0 "com/example/terseline/terseline/Delimiter" "TAB" "Lcom/example/terseline/terseline/Delimiter;" (.ref aT)) (EaT : Exa Z h0 aT "com/example/terseline/terseline/Delimiter") (FaT : Fld Z h0 aT "com/example/terseline/terseline/Delimiter" "character" "C" (.int (9 : Int32))) (SaP : Sta Z h0 "com/example/terseline/terseline/Delimiter" "PIPE" "Lcom/example/terseline/terseline/Delimiter;" (.ref aP)) (EaP : Exa Z h0 aP "com/example/terseline/terseline/Delimiter") (FaP : Fld Z h0 aP "com/example/terseline/terseline/Delimiter" "character" "C" (.int (124 : Int32))) (SV : Sta Z h0 "com/example/terseline/terseline/Delimiter" "$VALUES" "[Lcom/example/terseline/terseline/Delimiter;" (.ref aV)) (VA : Arv Z h0 aV k (.object "com/example/terseline/terseline/Delimiter") (3 : Int32) [(.ref aC), (.ref aT), (.ref aP)] .null) (EA : Exa Z h0 aV "[Lcom/example/terseline/terseline/Delimiter;") (hp : p1 = 124) :
    MetFree l (⟨"com/example/terseline/terseline/Delimiter", "declaredBy", "(C)Lcom/example/terseline/terseline/Delimiter;"⟩ : MethodName) (head1 (Jvm.Cond.code (⟨"com/example/terseline/terseline/Delimiter", "declaredBy", "(C)Lcom/example/terseline/terseline/Delimiter;"⟩ : MethodName) prog_11_method_6_code 6 (some (.object "com/example/terseline/terseline/Delimiter")) :: ws) ({ frames := 2, cells := 1, slots := 3, locals := 25 } : Room)) (fun a U => a = #[(.int p1)] ∧ Z.Warmed39 U.vm ∧ U.heap = h0) (fun _ _ _ _ _ => True) (fun _ U o U' => ∃ v L, o = .returned v ∧ Q1P Z p1 aC aT aP aV k h0 n0 v U'.heap L ∧ FrameEnd U o U' L ({ frames := 2, cells := 1, slots := 3, locals := 25 } : Room).cells ({ frames := 2, cells := 1, slots := 3, locals := 25 } : Room).slots) := by
  refine MetFree.of_bodySF (plainFor_of_name pn_1) hisR ?_
  intro p e s m args below meth c s₁ Bd hml0 hP hK
  obtain ⟨rfl, hZ, hh⟩ := hP
  have hx := Bd.exec
  have hby := Bd.bytes
  have hml : c.maxLocals = 6 := hml0
  have hown : s.vm.findClass "com/example/terseline/terseline/Delimiter" = some m.cls := findClass_of_methodNamed Bd.named
  have hnm := (name_of_methodNamed Bd.named Bd.method).1
  have X0 : Stand p l e ({ frames := 2, cells := 1, slots := 3, locals := 25 } : Room) s m #[(.int p1)] below meth c s₁ [] 0 0 := Stand.of_body Bd
  have e0 : s₁.heap = h0 := by rw [← hh, Bd.state]; rfl
  have N0 := Fr.nil n0
  obtain ⟨G, hG⟩ : ∃ G : State → Prop, G = OwnG p e below s ({ frames := 2, cells := 1, slots := 3, locals := 25 } : Room).cells ({ frames := 2, cells := 1, slots := 3, locals := 25 } : Room).slots (Q1P Z p1 aC aT aP aV k h0 n0) := ⟨_, rfl⟩
  have go : ∀ {A B : State}, (∀ t, Steps p.tables e below A t → Steps p.tables e below B t) → G A → G B := fun h k => by rw [hG] at k ⊢; exact OwnG.go h k
  suffices k0 : G (s₁.setTop (mkF m 0 #[.val (.int p1), .unset, .unset, .unset, .unset, .unset] [])) by
    rw [hG] at k0; exact OwnG.go (fun t k => castTop (ef_rm1P m p1) k) k0
  refine go (fun _ k => XS.aconstNull X0.here hx rfl (hb hby d1_0) k) ?_
  show G (s₁.setTop (mkF m 1 #[.val (.int p1), .unset, .unset, .unset, .unset, .unset] [.null]))
  refine go (fun _ k => XS.astoreN X0.here hx rfl (hb hby d1_1) rfl rfl (l' := #[.val (.int p1), .val .null, .unset, .unset, .unset, .unset]) rfl k) ?_
  show G (s₁.setTop (mkF m 2 #[.val (.int p1), .val .null, .unset, .unset, .unset, .unset] []))
  obtain ⟨_, _, ⟨T1, L1, k1, n1⟩, -, X1, ⟨Lc1, hQ1, l1, y1, z1⟩, st1⟩ := Jvm.LawKit.callS X0 hx (y := (⟨"com/example/terseline/terseline/Delimiter", "values", "()[Lcom/example/terseline/terseline/Delimiter;"⟩ : MethodName)) hown (mvT hZ (hw _ (List.mem_of_getElem? (i := 4) rfl))) (mvT hZ (hw _ (List.mem_of_getElem? (i := 5) rfl))) (mvT hZ (hw _ (List.mem_of_getElem? (i := 2) rfl))) (mvT hZ (hw _ (List.mem_of_getElem? (i := 6) rfl))) (by decide) (backOf (W := 0) (rm2 l Z a0 hw [] aC aT aP aV k h0 n0 Z0 SV VA EA) hZ (hw _ (List.mem_of_getElem? (i := 6) rfl)) (hw _ (List.mem_of_getElem? (i := 2) rfl)) (by decide) (by decide)) (g := (mkF m 2 #[.val (.int p1), .val .null, .unset, .unset, .unset, .unset] [])) rfl (by rw [hml]; rfl) (argsL := []) (rest := []) (lenOf pd_1_0 rfl) rfl (by show 2 * 0 + _ ≤ _; exact Nat.le_of_eq rfl) (hb hby d1_2) (fun _ _ => ⟨rfl, e0, (by decide : 0 + 1 ≤ _), (by decide : 0 + 3 ≤ _)⟩)
  dsimp only [Pt.U, Pt.locs, Pt.cells, Pt.slots] at X1 l1 y1 z1 st1 hQ1
  subst l1 y1 z1
  obtain ⟨bv1, rfl, N1q, Kc1, c1_0⟩ := hQ1
  have f2 := SaC.ext Kc1
  have f3 := EaC.ext Kc1
  have f4 := FaC.ext Kc1
  have f5 := SaT.ext Kc1
  have f6 := EaT.ext Kc1
  have f7 := FaT.ext Kc1
  have f8 := SaP.ext Kc1
  have f9 := EaP.ext Kc1
  have f10 := FaP.ext Kc1
  have f11 := SV.ext Kc1
  have f12 := VA.ext Kc1
  have f13 := EA.ext Kc1
  have Zs1 : n0 ≤ T1.heap.size := Nat.le_trans Z0 Kc1.1
  have N1 := Fr.app N0 N1q
  refine go st1 ?_
  show G (T1.setTop (mkF m 5 #[.val (.int p1), .val .null, .unset, .unset, .unset, .unset] [(.ref bv1)]))
  refine go (fun _ k => XS.astoreN X1.here hx rfl (hb hby d1_5) rfl rfl (l' := #[.val (.int p1), .val .null, .val (.ref bv1), .unset, .unset, .unset]) rfl k) ?_
  show G (T1.setTop (mkF m 6 #[.val (.int p1), .val .null, .val (.ref bv1), .unset, .unset, .unset] []))
  refine go (fun _ k => XS.aloadN X1.here hx rfl (hb hby d1_6) rfl rfl k) ?_
  show G (T1.setTop (mkF m 7 #[.val (.int p1), .val .null, .val (.ref bv1), .unset, .unset, .unset] [(.ref bv1)]))
  obtain ⟨cl14, Ar14, qk14, qs14, qn14, qh14, qg14⟩ := id c1_0
  refine go (X1.arraylength hx Ar14.1 (State.isArrayOf_alike hZ.alike Ar14.2.1) (g := (mkF m 7 #[.val (.int p1), .val .null, .val (.ref bv1), .unset, .unset, .unset] [(.ref bv1)])) rfl rfl (hb hby d1_7)) ?_
  rw [len_of qs14 qn14]
  show G (T1.setTop (mkF m 8 #[.val (.int p1), .val .null, .val (.ref bv1), .unset, .unset, .unset] [(.int (3 : Int32))]))
  refine go (fun _ k => XS.istoreN X1.here hx rfl (hb hby d1_8) rfl (l' := #[.val (.int p1), .val .null, .val (.ref bv1), .val (.int (3 : Int32)), .unset, .unset]) rfl k) ?_
  show G (T1.setTop (mkF m 9 #[.val (.int p1), .val .null, .val (.ref bv1), .val (.int (3 : Int32)), .unset, .unset] []))
  refine go (fun _ k => XS.iconst X1.here hx rfl (hb hby d1_9) k) ?_
  show G (T1.setTop (mkF m 10 #[.val (.int p1), .val .null, .val (.ref bv1), .val (.int (3 : Int32)), .unset, .unset] [(.int (0 : Int32))]))
  refine go (fun _ k => XS.istore X1.here hx rfl (hb hby d1_10) rfl (l' := #[.val (.int p1), .val .null, .val (.ref bv1), .val (.int (3 : Int32)), .val (.int (0 : Int32)), .unset]) rfl k) ?_
  show G (T1.setTop (mkF m 12 #[.val (.int p1), .val .null, .val (.ref bv1), .val (.int (3 : Int32)), .val (.int (0 : Int32)), .unset] []))
  refine go (fun _ k => XS.iload X1.here hx rfl (hb hby d1_12) rfl k) ?_
  show G (T1.setTop (mkF m 14 #[.val (.int p1), .val .null, .val (.ref bv1), .val (.int (3 : Int32)), .val (.int (0 : Int32)), .unset] [(.int (0 : Int32))]))
  refine go (fun _ k => XS.iloadN X1.here hx rfl (hb hby d1_14) rfl k) ?_
  show G (T1.setTop (mkF m 15 #[.val (.int p1), .val .null, .val (.ref bv1), .val (.int (3 : Int32)), .val (.int (0 : Int32)), .unset] [(.int (3 : Int32)), (.int (0 : Int32))]))
  have hc15 : (0 : Int32) < (3 : Int32) := (by decide)
  refine go (fun _ k => XS.icmpNo X1.here hx rfl (hb hby d1_15) rfl (tlt hc15).2.1 k) ?_
  show G (T1.setTop (mkF m 18 #[.val (.int p1), .val .null, .val (.ref bv1), .val (.int (3 : Int32)), .val (.int (0 : Int32)), .unset] []))
  refine go (fun _ k => XS.aloadN X1.here hx rfl (hb hby d1_18) rfl rfl k) ?_
  show G (T1.setTop (mkF m 19 #[.val (.int p1), .val .null, .val (.ref bv1), .val (.int (3 : Int32)), .val (.int (0 : Int32)), .unset] [(.ref bv1)]))
  refine go (fun _ k => XS.iload X1.here hx rfl (hb hby d1_19) rfl k) ?_
  show G (T1.setTop (mkF m 21 #[.val (.int p1), .val .null, .val (.ref bv1), .val (.int (3 : Int32)), .val (.int (0 : Int32)), .unset] [(.int (0 : Int32)), (.ref bv1)]))
  obtain ⟨cl16, Ar16, qk16, qs16, qn16, qh16, qg16⟩ := id c1_0
  refine go (X1.aaload hx (j := (0 : Int32)) (v := (.ref aC)) Ar16.1 (State.isArrayOf_alike hZ.alike Ar16.2.1) rfl Ar16.2.2 (inb_of qs16 ⟨by decide, by decide⟩) (Has.at qh16 (inb_of qs16 ⟨by decide, by decide⟩) rfl) (g := (mkF m 21 #[.val (.int p1), .val .null, .val (.ref bv1), .val (.int (3 : Int32)), .val (.int (0 : Int32)), .unset] [(.int (0 : Int32)), (.ref bv1)])) rfl rfl (hb hby d1_21)) ?_
  show G (T1.setTop (mkF m 22 #[.val (.int p1), .val .null, .val (.ref bv1), .val (.int (3 : Int32)), .val (.int (0 : Int32)), .unset] [(.ref aC)]))
  refine go (fun _ k => XS.astore X1.here hx rfl (hb hby d1_22) rfl rfl (l' := #[.val (.int p1), .val .null, .val (.ref bv1), .val (.int (3 : Int32)), .val (.int (0 : Int32)), .val (.ref aC)]) rfl k) ?_
  show G (T1.setTop (mkF m 24 #[.val (.int p1), .val .null, .val (.ref bv1), .val (.int (3 : Int32)), .val (.int (0 : Int32)), .val (.ref aC)] []))
  refine go (fun _ k => XS.aload X1.here hx rfl (hb hby d1_24) rfl rfl k) ?_
  show G (T1.setTop (mkF m 26 #[.val (.int p1), .val .null, .val (.ref bv1), .val (.int (3 : Int32)), .val (.int (0 : Int32)), .val (.ref aC)] [(.ref aC)]))
  obtain ⟨cq17, kq17, qa17, qb17, qc17⟩ := isOf hZ rfl f3
  obtain ⟨_, _, ⟨T17, L17, k17, n17⟩, -, X17, ⟨Lc17, hQ17, l17, y17, z17⟩, st17⟩ := X1.virtualBack hx (y := (⟨"com/example/terseline/terseline/Delimiter", "isMarked", "()Z"⟩ : MethodName)) (z := (⟨"com/example/terseline/terseline/Delimiter", "isMarked", "()Z"⟩ : MethodName)) hown (mvT hZ (hw _ (List.mem_of_getElem? (i := 22) rfl))) (mvT hZ (hw _ (List.mem_of_getElem? (i := 23) rfl))) (notFace_of_selects (args := #[]) (mvT hZ (hw _ (List.mem_of_getElem? (i := 25) rfl)))) (mvT hZ (hw _ (List.mem_of_getElem? (i := 25) rfl))) (mvT hZ (hw _ (List.mem_of_getElem? (i := 24) rfl))) (by decide) (backOf (W := 0) (rm3c l Z a0 hw [] aC T1.heap n0 Zs1 f2) hZ (hw _ (List.mem_of_getElem? (i := 26) rfl)) (hw _ (List.mem_of_getElem? (i := 2) rfl)) (by decide) (by decide)) qa17 qc17 (g := (mkF m 26 #[.val (.int p1), .val .null, .val (.ref bv1), .val (.int (3 : Int32)), .val (.int (0 : Int32)), .val (.ref aC)] [(.ref aC)])) rfl (by rw [hml]; rfl) (Steps.refl _) (argsL := []) (rest := []) (lenOf pd_1_1 rfl) rfl (by show 2 * 0 + _ ≤ _; exact Nat.le_of_eq rfl) (hb hby d1_26) (fun _ _ => ⟨rfl, rfl, (by decide : 1 + 0 ≤ _), (by decide : 3 + 0 ≤ _)⟩)
  dsimp only [Pt.U, Pt.locs, Pt.cells, Pt.slots] at X17 l17 y17 z17 st17 hQ17
  subst l17 y17 z17
  obtain ⟨rfl, N17q, e17⟩ := hQ17
  have N17 := Fr.app N1 N17q
  refine go (fun _ k => st17.trans k) ?_
  show G (T17.setTop (mkF m 29 #[.val (.int p1), .val .null, .val (.ref bv1), .val (.int (3 : Int32)), .val (.int (0 : Int32)), .val (.ref aC)] [(.int (0 : Int32))]))
  have hc18 : (0 : Int32) = (0 : Int32) := rfl
  refine go (fun _ k => XS.ifYes X17.here hx rfl (pc0 := 29) (pc' := 44) rfl (hb hby d1_29) rfl ((if0 _ _).trans (teq hc18).1) (by decide) (by decide) k) ?_
  show G (T17.setTop (mkF m 44 #[.val (.int p1), .val .null, .val (.ref bv1), .val (.int (3 : Int32)), .val (.int (0 : Int32)), .val (.ref aC)] []))
  refine go (fun _ k => XS.iinc X17.here hx rfl (hb hby d1_44) rfl (l' := #[.val (.int p1), .val .null, .val (.ref bv1), .val (.int (3 : Int32)), .val (.int ((0 : Int32) + (1 : Int32))), .val (.ref aC)]) rfl k) ?_
  show G (T17.setTop (mkF m 47 #[.val (.int p1), .val .null, .val (.ref bv1), .val (.int (3 : Int32)), .val (.int ((0 : Int32) + (1 : Int32))), .val (.ref aC)] []))
  rw [show ((0 : Int32) + (1 : Int32) : Int32) = (1 : Int32) from by decide]
  show G (T17.setTop (mkF m 47 #[.val (.int p1), .val .null, .val (.ref bv1), .val (.int (3 : Int32)), .val (.int (1 : Int32)), .val (.ref aC)] []))
  refine go (fun _ k => XS.goto X17.here hx rfl (pc0 := 47) (pc' := 12) rfl (hb hby d1_47) (by decide) (by decide) k) ?_
  show G (T17.setTop (mkF m 12 #[.val (.int p1), .val .null, .val (.ref bv1), .val (.int (3 : Int32)), .val (.int (1 : Int32)), .val (.ref aC)] []))
  refine go (fun _ k => XS.iload X17.here hx rfl (hb hby d1_12) rfl k) ?_
  show G (T17.setTop (mkF m 14 #[.val (.int p1), .val .null, .val (.ref bv1), .val (.int (3 : Int32)), .val (.int (1 : Int32)), .val (.ref aC)] [(.int (1 : Int32))]))
  refine go (fun _ k => XS.iloadN X17.here hx rfl (hb hby d1_14) rfl k) ?_
  show G (T17.setTop (mkF m 15 #[.val (.int p1), .val .null, .val (.ref bv1), .val (.int (3 : Int32)), .val (.int (1 : Int32)), .val (.ref aC)] [(.int (3 : Int32)), (.int (1 : Int32))]))
  have hc19 : (1 : Int32) < (3 : Int32) := (by decide)
  refine go (fun _ k => XS.icmpNo X17.here hx rfl (hb hby d1_15) rfl (tlt hc19).2.1 k) ?_
  show G (T17.setTop (mkF m 18 #[.val (.int p1), .val .null, .val (.ref bv1), .val (.int (3 : Int32)), .val (.int (1 : Int32)), .val (.ref aC)] []))
  refine go (fun _ k => XS.aloadN X17.here hx rfl (hb hby d1_18) rfl rfl k) ?_
  show G (T17.setTop (mkF m 19 #[.val (.int p1), .val .null, .val (.ref bv1), .val (.int (3 : Int32)), .val (.int (1 : Int32)), .val (.ref aC)] [(.ref bv1)]))
  refine go (fun _ k => XS.iload X17.here hx rfl (hb hby d1_19) rfl k) ?_
  show G (T17.setTop (mkF m 21 #[.val (.int p1), .val .null, .val (.ref bv1), .val (.int (3 : Int32)), .val (.int (1 : Int32)), .val (.ref aC)] [(.int (1 : Int32)), (.ref bv1)]))
  obtain ⟨cl20, Ar20, qk20, qs20, qn20, qh20, qg20⟩ := id c1_0
  refine go (X17.aaload hx (j := (1 : Int32)) (v := (.ref aT)) (by rw [e17]; exact Ar20.1) (State.isArrayOf_alike hZ.alike Ar20.2.1) rfl Ar20.2.2 (inb_of qs20 ⟨by decide, by decide⟩) (Has.at qh20 (inb_of qs20 ⟨by decide, by decide⟩) rfl) (g := (mkF m 21 #[.val (.int p1), .val .null, .val (.ref bv1), .val (.int (3 : Int32)), .val (.int (1 : Int32)), .val (.ref aC)] [(.int (1 : Int32)), (.ref bv1)])) rfl rfl (hb hby d1_21)) ?_
  show G (T17.setTop (mkF m 22 #[.val (.int p1), .val .null, .val (.ref bv1), .val (.int (3 : Int32)), .val (.int (1 : Int32)), .val (.ref aC)] [(.ref aT)]))
  refine go (fun _ k => XS.astore X17.here hx rfl (hb hby d1_22) rfl rfl (l' := #[.val (.int p1), .val .null, .val (.ref bv1), .val (.int (3 : Int32)), .val (.int (1 : Int32)), .val (.ref aT)]) rfl k) ?_
  show G (T17.setTop (mkF m 24 #[.val (.int p1), .val .null, .val (.ref bv1), .val (.int (3 : Int32)), .val (.int (1 : Int32)), .val (.ref aT)] []))
  refine go (fun _ k => XS.aload X17.here hx rfl (hb hby d1_24) rfl rfl k) ?_
  show G (T17.setTop (mkF m 26 #[.val (.int p1), .val .null, .val (.ref bv1), .val (.int (3 : Int32)), .val (.int (1 : Int32)), .val (.ref aT)] [(.ref aT)]))
  obtain ⟨cq21, kq21, qa21, qb21, qc21⟩ := isOf hZ e17 f6
  obtain ⟨_, _, ⟨T21, L21, k21, n21⟩, -, X21, ⟨Lc21, hQ21, l21, y21, z21⟩, st21⟩ := X17.virtualBack hx (y := (⟨"com/example/terseline/terseline/Delimiter", "isMarked", "()Z"⟩ : MethodName)) (z := (⟨"com/example/terseline/terseline/Delimiter", "isMarked", "()Z"⟩ : MethodName)) hown (mvT hZ (hw _ (List.mem_of_getElem? (i := 22) rfl))) (mvT hZ (hw _ (List.mem_of_getElem? (i := 23) rfl))) (notFace_of_selects (args := #[]) (mvT hZ (hw _ (List.mem_of_getElem? (i := 25) rfl)))) (mvT hZ (hw _ (List.mem_of_getElem? (i := 25) rfl))) (mvT hZ (hw _ (List.mem_of_getElem? (i := 24) rfl))) (by decide) (backOf (W := 0) (rm3o l Z a0 hw [] aT aC T1.heap n0 Zs1 f2 (FaT.ne FaC (by decide))) hZ (hw _ (List.mem_of_getElem? (i := 26) rfl)) (hw _ (List.mem_of_getElem? (i := 2) rfl)) (by decide) (by decide)) qa21 qc21 (g := (mkF m 26 #[.val (.int p1), .val .null, .val (.ref bv1), .val (.int (3 : Int32)), .val (.int (1 : Int32)), .val (.ref aT)] [(.ref aT)])) rfl (by rw [hml]; rfl) (Steps.refl _) (argsL := []) (rest := []) (lenOf pd_1_1 rfl) rfl (by show 2 * 0 + _ ≤ _; exact Nat.le_of_eq rfl) (hb hby d1_26) (fun _ _ => ⟨rfl, e17, (by decide : 1 + 0 ≤ _), (by decide : 3 + 0 ≤ _)⟩)
  dsimp only [Pt.U, Pt.locs, Pt.cells, Pt.slots] at X21 l21 y21 z21 st21 hQ21
  subst l21 y21 z21
  obtain ⟨rfl, N21q, e21⟩ := hQ21
  have N21 := Fr.app N17 N21q
  refine go (fun _ k => st21.trans k) ?_
  show G (T21.setTop (mkF m 29 #[.val (.int p1), .val .null, .val (.ref bv1), .val (.int (3 : Int32)), .val (.int (1 : Int32)), .val (.ref aT)] [(.int (1 : Int32))]))
  have hc22 : ¬ ((1 : Int32) = (0 : Int32)) := (by decide)
  refine go (fun _ k => XS.ifNo X21.here hx rfl (hb hby d1_29) rfl ((if0 _ _).trans (feq hc22).1) k) ?_
  show G (T21.setTop (mkF m 32 #[.val (.int p1), .val .null, .val (.ref bv1), .val (.int (3 : Int32)), .val (.int (1 : Int32)), .val (.ref aT)] []))
  refine go (fun _ k => XS.aload X21.here hx rfl (hb hby d1_32) rfl rfl k) ?_
  show G (T21.setTop (mkF m 34 #[.val (.int p1), .val .null, .val (.ref bv1), .val (.int (3 : Int32)), .val (.int (1 : Int32)), .val (.ref aT)] [(.ref aT)]))
  obtain ⟨T23, X23, e23, st23⟩ := getF X21 hx hZ hown (host := "") (Or.inl (hw _ (List.mem_of_getElem? (i := 28) rfl))) Via.refl e21 f7 (g := (mkF m 34 #[.val (.int p1), .val .null, .val (.ref bv1), .val (.int (3 : Int32)), .val (.int (1 : Int32)), .val (.ref aT)] [(.ref aT)])) rfl rfl (hb hby d1_34)
  refine go st23 ?_
  show G (T23.setTop (mkF m 37 #[.val (.int p1), .val .null, .val (.ref bv1), .val (.int (3 : Int32)), .val (.int (1 : Int32)), .val (.ref aT)] [(.int (9 : Int32))]))
  refine go (fun _ k => XS.iloadN X23.here hx rfl (hb hby d1_37) rfl k) ?_
  show G (T23.setTop (mkF m 38 #[.val (.int p1), .val .null, .val (.ref bv1), .val (.int (3 : Int32)), .val (.int (1 : Int32)), .val (.ref aT)] [(.int p1), (.int (9 : Int32))]))
  have hc24 : ¬ ((9 : Int32) = p1) := by rw [hp]; decide
  refine go (fun _ k => XS.icmpYes X23.here hx rfl (pc0 := 38) (pc' := 44) rfl (hb hby d1_38) rfl (feq hc24).2 (by decide) (by decide) k) ?_
  show G (T23.setTop (mkF m 44 #[.val (.int p1), .val .null, .val (.ref bv1), .val (.int (3 : Int32)), .val (.int (1 : Int32)), .val (.ref aT)] []))
  refine go (fun _ k => XS.iinc X23.here hx rfl (hb hby d1_44) rfl (l' := #[.val (.int p1), .val .null, .val (.ref bv1), .val (.int (3 : Int32)), .val (.int ((1 : Int32) + (1 : Int32))), .val (.ref aT)]) rfl k) ?_
  show G (T23.setTop (mkF m 47 #[.val (.int p1), .val .null, .val (.ref bv1), .val (.int (3 : Int32)), .val (.int ((1 : Int32) + (1 : Int32))), .val (.ref aT)] []))
  rw [show ((1 : Int32) + (1 : Int32) : Int32) = (2 : Int32) from by decide]
  show G (T23.setTop (mkF m 47 #[.val (.int p1), .val .null, .val (.ref bv1), .val (.int (3 : Int32)), .val (.int (2 : Int32)), .val (.ref aT)] []))
  refine go (fun _ k => XS.goto X23.here hx rfl (pc0 := 47) (pc' := 12) rfl (hb hby d1_47) (by decide) (by decide) k) ?_
  show G (T23.setTop (mkF m 12 #[.val (.int p1), .val .null, .val (.ref bv1), .val (.int (3 : Int32)), .val (.int (2 : Int32)), .val (.ref aT)] []))
  refine go (fun _ k => XS.iload X23.here hx rfl (hb hby d1_12) rfl k) ?_
  show G (T23.setTop (mkF m 14 #[.val (.int p1), .val .null, .val (.ref bv1), .val (.int (3 : Int32)), .val (.int (2 : Int32)), .val (.ref aT)] [(.int (2 : Int32))]))
  refine go (fun _ k => XS.iloadN X23.here hx rfl (hb hby d1_14) rfl k) ?_
  show G (T23.setTop (mkF m 15 #[.val (.int p1), .val .null, .val (.ref bv1), .val (.int (3 : Int32)), .val (.int (2 : Int32)), .val (.ref aT)] [(.int (3 : Int32)), (.int (2 : Int32))]))
  have hc25 : (2 : Int32) < (3 : Int32) := (by decide)
  refine go (fun _ k => XS.icmpNo X23.here hx rfl (hb hby d1_15) rfl (tlt hc25).2.1 k) ?_
  show G (T23.setTop (mkF m 18 #[.val (.int p1), .val .null, .val (.ref bv1), .val (.int (3 : Int32)), .val (.int (2 : Int32)), .val (.ref aT)] []))
  refine go (fun _ k => XS.aloadN X23.here hx rfl (hb hby d1_18) rfl rfl k) ?_
  show G (T23.setTop (mkF m 19 #[.val (.int p1), .val .null, .val (.ref bv1), .val (.int (3 : Int32)), .val (.int (2 : Int32)), .val (.ref aT)] [(.ref bv1)]))
  refine go (fun _ k => XS.iload X23.here hx rfl (hb hby d1_19) rfl k) ?_
  show G (T23.setTop (mkF m 21 #[.val (.int p1), .val .null, .val (.ref bv1), .val (.int (3 : Int32)), .val (.int (2 : Int32)), .val (.ref aT)] [(.int (2 : Int32)), (.ref bv1)]))
  obtain ⟨cl26, Ar26, qk26, qs26, qn26, qh26, qg26⟩ := id c1_0
  refine go (X23.aaload hx (j := (2 : Int32)) (v := (.ref aP)) (by rw [e23]; exact Ar26.1) (State.isArrayOf_alike hZ.alike Ar26.2.1) rfl Ar26.2.2 (inb_of qs26 ⟨by decide, by decide⟩) (Has.at qh26 (inb_of qs26 ⟨by decide, by decide⟩) rfl) (g := (mkF m 21 #[.val (.int p1), .val .null, .val (.ref bv1), .val (.int (3 : Int32)), .val (.int (2 : Int32)), .val (.ref aT)] [(.int (2 : Int32)), (.ref bv1)])) rfl rfl (hb hby d1_21)) ?_
  show G (T23.setTop (mkF m 22 #[.val (.int p1), .val .null, .val (.ref bv1), .val (.int (3 : Int32)), .val (.int (2 : Int32)), .val (.ref aT)] [(.ref aP)]))
  refine go (fun _ k => XS.astore X23.here hx rfl (hb hby d1_22) rfl rfl (l' := #[.val (.int p1), .val .null, .val (.ref bv1), .val (.int (3 : Int32)), .val (.int (2 : Int32)), .val (.ref aP)]) rfl k) ?_
  show G (T23.setTop (mkF m 24 #[.val (.int p1), .val .null, .val (.ref bv1), .val (.int (3 : Int32)), .val (.int (2 : Int32)), .val (.ref aP)] []))
  refine go (fun _ k => XS.aload X23.here hx rfl (hb hby d1_24) rfl rfl k) ?_
  show G (T23.setTop (mkF m 26 #[.val (.int p1), .val .null, .val (.ref bv1), .val (.int (3 : Int32)), .val (.int (2 : Int32)), .val (.ref aP)] [(.ref aP)]))
  obtain ⟨cq27, kq27, qa27, qb27, qc27⟩ := isOf hZ e23 f9
  obtain ⟨_, _, ⟨T27, L27, k27, n27⟩, -, X27, ⟨Lc27, hQ27, l27, y27, z27⟩, st27⟩ := X23.virtualBack hx (y := (⟨"com/example/terseline/terseline/Delimiter", "isMarked", "()Z"⟩ : MethodName)) (z := (⟨"com/example/terseline/terseline/Delimiter", "isMarked", "()Z"⟩ : MethodName)) hown (mvT hZ (hw _ (List.mem_of_getElem? (i := 22) rfl))) (mvT hZ (hw _ (List.mem_of_getElem? (i := 23) rfl))) (notFace_of_selects (args := #[]) (mvT hZ (hw _ (List.mem_of_getElem? (i := 25) rfl)))) (mvT hZ (hw _ (List.mem_of_getElem? (i := 25) rfl))) (mvT hZ (hw _ (List.mem_of_getElem? (i := 24) rfl))) (by decide) (backOf (W := 0) (rm3o l Z a0 hw [] aP aC T1.heap n0 Zs1 f2 (FaP.ne FaC (by decide))) hZ (hw _ (List.mem_of_getElem? (i := 26) rfl)) (hw _ (List.mem_of_getElem? (i := 2) rfl)) (by decide) (by decide)) qa27 qc27 (g := (mkF m 26 #[.val (.int p1), .val .null, .val (.ref bv1), .val (.int (3 : Int32)), .val (.int (2 : Int32)), .val (.ref aP)] [(.ref aP)])) rfl (by rw [hml]; rfl) (Steps.refl _) (argsL := []) (rest := []) (lenOf pd_1_1 rfl) rfl (by show 2 * 0 + _ ≤ _; exact Nat.le_of_eq rfl) (hb hby d1_26) (fun _ _ => ⟨rfl, e23, (by decide : 1 + 0 ≤ _), (by decide : 3 + 0 ≤ _)⟩)
  dsimp only [Pt.U, Pt.locs, Pt.cells, Pt.slots] at X27 l27 y27 z27 st27 hQ27
  subst l27 y27 z27
  obtain ⟨rfl, N27q, e27⟩ := hQ27
  have N27 := Fr.app N21 N27q
  refine go (fun _ k => st27.trans k) ?_
  show G (T27.setTop (mkF m 29 #[.val (.int p1), .val .null, .val (.ref bv1), .val (.int (3 : Int32)), .val (.int (2 : Int32)), .val (.ref aP)] [(.int (1 : Int32))]))
  have hc28 : ¬ ((1 : Int32) = (0 : Int32)) := (by decide)
  refine go (fun _ k => XS.ifNo X27.here hx rfl (hb hby d1_29) rfl ((if0 _ _).trans (feq hc28).1) k) ?_
  show G (T27.setTop (mkF m 32 #[.val (.int p1), .val .null, .val (.ref bv1), .val (.int (3 : Int32)), .val (.int (2 : Int32)), .val (.ref aP)] []))
  refine go (fun _ k => XS.aload X27.here hx rfl (hb hby d1_32) rfl rfl k) ?_
  show G (T27.setTop (mkF m 34 #[.val (.int p1), .val .null, .val (.ref bv1), .val (.int (3 : Int32)), .val (.int (2 : Int32)), .val (.ref aP)] [(.ref aP)]))
  obtain ⟨T29, X29, e29, st29⟩ := getF X27 hx hZ hown (host := "") (Or.inl (hw _ (List.mem_of_getElem? (i := 28) rfl))) Via.refl e27 f10 (g := (mkF m 34 #[.val (.int p1), .val .null, .val (.ref bv1), .val (.int (3 : Int32)), .val (.int (2 : Int32)), .val (.ref aP)] [(.ref aP)])) rfl rfl (hb hby d1_34)
  refine go st29 ?_
  show G (T29.setTop (mkF m 37 #[.val (.int p1), .val .null, .val (.ref bv1), .val (.int (3 : Int32)), .val (.int (2 : Int32)), .val (.ref aP)] [(.int (124 : Int32))]))
  refine go (fun _ k => XS.iloadN X29.here hx rfl (hb hby d1_37) rfl k) ?_
  show G (T29.setTop (mkF m 38 #[.val (.int p1), .val .null, .val (.ref bv1), .val (.int (3 : Int32)), .val (.int (2 : Int32)), .val (.ref aP)] [(.int p1), (.int (124 : Int32))]))
  have hc30 : (124 : Int32) = p1 := hp.symm
  refine go (fun _ k => XS.icmpNo X29.here hx rfl (hb hby d1_38) rfl (teq hc30).2 k) ?_
  show G (T29.setTop (mkF m 41 #[.val (.int p1), .val .null, .val (.ref bv1), .val (.int (3 : Int32)), .val (.int (2 : Int32)), .val (.ref aP)] []))
  refine go (fun _ k => XS.aload X29.here hx rfl (hb hby d1_41) rfl rfl k) ?_
  show G (T29.setTop (mkF m 43 #[.val (.int p1), .val .null, .val (.ref bv1), .val (.int (3 : Int32)), .val (.int (2 : Int32)), .val (.ref aP)] [(.ref aP)]))
  refine go (fun _ k => XS.astoreN X29.here hx rfl (hb hby d1_43) rfl rfl (l' := #[.val (.int p1), .val (.ref aP), .val (.ref bv1), .val (.int (3 : Int32)), .val (.int (2 : Int32)), .val (.ref aP)]) rfl k) ?_
  show G (T29.setTop (mkF m 44 #[.val (.int p1), .val (.ref aP), .val (.ref bv1), .val (.int (3 : Int32)), .val (.int (2 : Int32)), .val (.ref aP)] []))
  refine go (fun _ k => XS.iinc X29.here hx rfl (hb hby d1_44) rfl (l' := #[.val (.int p1), .val (.ref aP), .val (.ref bv1), .val (.int (3 : Int32)), .val (.int ((2 : Int32) + (1 : Int32))), .val (.ref aP)]) rfl k) ?_
  show G (T29.setTop (mkF m 47 #[.val (.int p1), .val (.ref aP), .val (.ref bv1), .val (.int (3 : Int32)), .val (.int ((2 : Int32) + (1 : Int32))), .val (.ref aP)] []))
  rw [show ((2 : Int32) + (1 : Int32) : Int32) = (3 : Int32) from by decide]
  show G (T29.setTop (mkF m 47 #[.val (.int p1), .val (.ref aP), .val (.ref bv1), .val (.int (3 : Int32)), .val (.int (3 : Int32)), .val (.ref aP)] []))
  refine go (fun _ k => XS.goto X29.here hx rfl (pc0 := 47) (pc' := 12) rfl (hb hby d1_47) (by decide) (by decide) k) ?_
  show G (T29.setTop (mkF m 12 #[.val (.int p1), .val (.ref aP), .val (.ref bv1), .val (.int (3 : Int32)), .val (.int (3 : Int32)), .val (.ref aP)] []))
  refine go (fun _ k => XS.iload X29.here hx rfl (hb hby d1_12) rfl k) ?_
  show G (T29.setTop (mkF m 14 #[.val (.int p1), .val (.ref aP), .val (.ref bv1), .val (.int (3 : Int32)), .val (.int (3 : Int32)), .val (.ref aP)] [(.int (3 : Int32))]))
  refine go (fun _ k => XS.iloadN X29.here hx rfl (hb hby d1_14) rfl k) ?_
  show G (T29.setTop (mkF m 15 #[.val (.int p1), .val (.ref aP), .val (.ref bv1), .val (.int (3 : Int32)), .val (.int (3 : Int32)), .val (.ref aP)] [(.int (3 : Int32)), (.int (3 : Int32))]))
  have hc31 : ¬ ((3 : Int32) < (3 : Int32)) := (by decide)
  refine go (fun _ k => XS.icmpYes X29.here hx rfl (pc0 := 15) (pc' := 50) rfl (hb hby d1_15) rfl (flt hc31).2.1 (by decide) (by decide) k) ?_
  show G (T29.setTop (mkF m 50 #[.val (.int p1), .val (.ref aP), .val (.ref bv1), .val (.int (3 : Int32)), .val (.int (3 : Int32)), .val (.ref aP)] []))
  refine go (fun _ k => XS.aloadN X29.here hx rfl (hb hby d1_50) rfl rfl k) ?_
  show G (T29.setTop (mkF m 51 #[.val (.int p1), .val (.ref aP), .val (.ref bv1), .val (.int (3 : Int32)), .val (.int (3 : Int32)), .val (.ref aP)] [(.ref aP)]))
  rw [hG]
  refine own_fin X29 Bd.notSynchronized (v := some (.ref aP)) (fun h => by rw [Bd.returns] at h; cases h) (fun fs hr => retOut X29 hx Bd.returns rfl (by simp [FieldType.isReference, Value.isRef]) (hb hby d1_51) hr) ?_ (by decide) (by decide)
  show Q1P Z p1 aC aT aP aV k h0 n0 (some (.ref aP)) T29.heap _
  rw [e29]
  exact ⟨rfl, N27, Kc1⟩

theorem ef_rm1N (m : MethodId) (p1 : Int32) : entryFrame m #[(.int p1)] 6 = mkF m 0 #[.val (.int p1), .unset, .unset, .unset, .unset, .unset] [] := by first | (simp [entryFrame, mkF, argsToLocals, Value.category]; done) | rfl
def Q1N (Z : State) (p1 : Int32) (aC aT aP aV : Addr) (k : ClassId) (h0 : Heap) (n0 : Nat) (v : Option Value) (h : Heap) (L : List Loc) : Prop := v = some .null ∧ Fr n0 L ∧ Ext h0 h
set_option maxRecDepth 65536 in
set_option maxHeartbeats 40000000 in
theorem rm1N (l : Launch) (Z : State) (a0 : Array Value) (hw : ∀ d ∈ tables_1, d.before a0 Z = true) (ws : List Jvm.Cond) (p1 : Int32) (aC aT aP aV : Addr) (k : ClassId) (h0 : Heap) (n0 : Nat) (Z0 : n0 ≤ h0.size) (SaC : Sta Z h0 "com/example/terseline/terseline/Delimiter" "COMMA" "Lcom/example/terseline/terseline/Delimiter;" (.ref aC)) (EaC : Exa Z h0 aC "com/example/terseline/terseline/Delimiter") (FaC : Fld Z h0 aC "com/example/terseline/terseline/Delimiter" "character" "C" (.int (44 : Int32))) (SaT : Sta Z h0 "com/example/terseline/terseline/Delimiter" "TAB" "Lcom/example/terseline/terseline/Delimiter;" (.ref aT)) (EaT : Exa Z h0 aT "com/example/terseline/terseline/Delimiter") (FaT : Fld Z h0 aT "com/example/terseline/terseline/Delimiter" "character" "C" (.int (9 : Int32))) (SaP : Sta Z h0 "com/example/terseline/terseline/Delimiter" "PIPE" "Lcom/example/terseline/terseline/Delimiter;" (.ref aP)) (EaP : Exa Z h0 aP "com/example/terseline/terseline/Delimiter") (FaP : Fld Z h0 aP "com/example/terseline/terseline/Delimiter" "character" "C" (.int (124 : Int32))) (SV : Sta Z h0 "com/example/terseline/terseline/Delimiter" "$VALUES" "[Lcom/example/terseline/terseline/Delimiter;" (.ref aV)) (VA : Arv Z h0 aV k (.object "com/example/terseline/terseline/Delimiter") (3 : Int32) [(.ref aC), (.ref aT), (.ref aP)] .null) (EA : Exa Z h0 aV "[Lcom/example/terseline/terseline/Delimiter;") (hp : ¬ p1 = 9) (hq : ¬ p1 = 124) :
    MetFree l (⟨"com/example/terseline/terseline/Delimiter", "declaredBy", "(C)Lcom/example/terseline/terseline/Delimiter;"⟩ : MethodName) (head1 (Jvm.Cond.code (⟨"com/example/terseline/terseline/Delimiter", "declaredBy", "(C)Lcom/example/terseline/terseline/Delimiter;"⟩ : MethodName) prog_11_method_6_code 6 (some (.object "com/example/terseline/terseline/Delimiter")) :: ws) ({ frames := 2, cells := 1, slots := 3, locals := 25 } : Room)) (fun a U => a = #[(.int p1)] ∧ Z.Warmed39 U.vm ∧ U.heap = h0) (fun _ _ _ _ _ => True) (fun _ U o U' => ∃ v L, o = .returned v ∧ Q1N Z p1 aC aT aP aV k h0 n0 v U'.heap L ∧ FrameEnd U o U' L ({ frames := 2, cells := 1, slots := 3, locals := 25 } : Room).cells ({ frames := 2, cells := 1, slots := 3, locals := 25 } : Room).slots) := by
  refine MetFree.of_bodySF (plainFor_of_name pn_1) hisR ?_
  intro p e s m args below meth c s₁ Bd hml0 hP hK
  obtain ⟨rfl, hZ, hh⟩ := hP
  have hx := Bd.exec
  have hby := Bd.bytes
  have hml : c.maxLocals = 6 := hml0
  have hown : s.vm.findClass "com/example/terseline/terseline/Delimiter" = some m.cls := findClass_of_methodNamed Bd.named
  have hnm := (name_of_methodNamed Bd.named Bd.method).1
  have X0 : Stand p l e ({ frames := 2, cells := 1, slots := 3, locals := 25 } : Room) s m #[(.int p1)] below meth c s₁ [] 0 0 := Stand.of_body Bd
  have e0 : s₁.heap = h0 := by rw [← hh, Bd.state]; rfl
  have N0 := Fr.nil n0
  obtain ⟨G, hG⟩ : ∃ G : State → Prop, G = OwnG p e below s ({ frames := 2, cells := 1, slots := 3, locals := 25 } : Room).cells ({ frames := 2, cells := 1, slots := 3, locals := 25 } : Room).slots (Q1N Z p1 aC aT aP aV k h0 n0) := ⟨_, rfl⟩
  have go : ∀ {A B : State}, (∀ t, Steps p.tables e below A t → Steps p.tables e below B t) → G A → G B := fun h k => by rw [hG] at k ⊢; exact OwnG.go h k
  suffices k0 : G (s₁.setTop (mkF m 0 #[.val (.int p1), .unset, .unset, .unset, .unset, .unset] [])) by
    rw [hG] at k0; exact OwnG.go (fun t k => castTop (ef_rm1N m p1) k) k0
  refine go (fun _ k => XS.aconstNull X0.here hx rfl (hb hby d1_0) k) ?_
  show G (s₁.setTop (mkF m 1 #[.val (.int p1), .unset, .unset, .unset, .unset, .unset] [.null]))
  refine go (fun _ k => XS.astoreN X0.here hx rfl (hb hby d1_1) rfl rfl (l' := #[.val (.int p1), .val .null, .unset, .unset, .unset, .unset]) rfl k) ?_
  show G (s₁.setTop (mkF m 2 #[.val (.int p1), .val .null, .unset, .unset, .unset, .unset] []))
  obtain ⟨_, _, ⟨T1, L1, k1, n1⟩, -, X1, ⟨Lc1, hQ1, l1, y1, z1⟩, st1⟩ := Jvm.LawKit.callS X0 hx (y := (⟨"com/example/terseline/terseline/Delimiter", "values", "()[Lcom/example/terseline/terseline/Delimiter;"⟩ : MethodName)) hown (mvT hZ (hw _ (List.mem_of_getElem? (i := 4) rfl))) (mvT hZ (hw _ (List.mem_of_getElem? (i := 5) rfl))) (mvT hZ (hw _ (List.mem_of_getElem? (i := 2) rfl))) (mvT hZ (hw _ (List.mem_of_getElem? (i := 6) rfl))) (by decide) (backOf (W := 0) (rm2 l Z a0 hw [] aC aT aP aV k h0 n0 Z0 SV VA EA) hZ (hw _ (List.mem_of_getElem? (i := 6) rfl)) (hw _ (List.mem_of_getElem? (i := 2) rfl)) (by decide) (by decide)) (g := (mkF m 2 #[.val (.int p1), .val .null, .unset, .unset, .unset, .unset] [])) rfl (by rw [hml]; rfl) (argsL := []) (rest := []) (lenOf pd_1_0 rfl) rfl (by show 2 * 0 + _ ≤ _; exact Nat.le_of_eq rfl) (hb hby d1_2) (fun _ _ => ⟨rfl, e0, (by decide : 0 + 1 ≤ _), (by decide : 0 + 3 ≤ _)⟩)
  dsimp only [Pt.U, Pt.locs, Pt.cells, Pt.slots] at X1 l1 y1 z1 st1 hQ1
  subst l1 y1 z1
  obtain ⟨bv1, rfl, N1q, Kc1, c1_0⟩ := hQ1
  have f2 := SaC.ext Kc1
  have f3 := EaC.ext Kc1
  have f4 := FaC.ext Kc1
  have f5 := SaT.ext Kc1
  have f6 := EaT.ext Kc1
  have f7 := FaT.ext Kc1
  have f8 := SaP.ext Kc1
  have f9 := EaP.ext Kc1
  have f10 := FaP.ext Kc1
  have f11 := SV.ext Kc1
  have f12 := VA.ext Kc1
  have f13 := EA.ext Kc1
  have Zs1 : n0 ≤ T1.heap.size := Nat.le_trans Z0 Kc1.1
  have N1 := Fr.app N0 N1q
  refine go st1 ?_
  show G (T1.setTop (mkF m 5 #[.val (.int p1), .val .null, .unset, .unset, .unset, .unset] [(.ref bv1)]))
  refine go (fun _ k => XS.astoreN X1.here hx rfl (hb hby d1_5) rfl rfl (l' := #[.val (.int p1), .val .null, .val (.ref bv1), .unset, .unset, .unset]) rfl k) ?_
  show G (T1.setTop (mkF m 6 #[.val (.int p1), .val .null, .val (.ref bv1), .unset, .unset, .unset] []))
  refine go (fun _ k => XS.aloadN X1.here hx rfl (hb hby d1_6) rfl rfl k) ?_
  show G (T1.setTop (mkF m 7 #[.val (.int p1), .val .null, .val (.ref bv1), .unset, .unset, .unset] [(.ref bv1)]))
  obtain ⟨cl14, Ar14, qk14, qs14, qn14, qh14, qg14⟩ := id c1_0
  refine go (X1.arraylength hx Ar14.1 (State.isArrayOf_alike hZ.alike Ar14.2.1) (g := (mkF m 7 #[.val (.int p1), .val .null, .val (.ref bv1), .unset, .unset, .unset] [(.ref bv1)])) rfl rfl (hb hby d1_7)) ?_
  rw [len_of qs14 qn14]
  show G (T1.setTop (mkF m 8 #[.val (.int p1), .val .null, .val (.ref bv1), .unset, .unset, .unset] [(.int (3 : Int32))]))
  refine go (fun _ k => XS.istoreN X1.here hx rfl (hb hby d1_8) rfl (l' := #[.val (.int p1), .val .null, .val (.ref bv1), .val (.int (3 : Int32)), .unset, .unset]) rfl k) ?_
  show G (T1.setTop (mkF m 9 #[.val (.int p1), .val .null, .val (.ref bv1), .val (.int (3 : Int32)), .unset, .unset] []))
  refine go (fun _ k => XS.iconst X1.here hx rfl (hb hby d1_9) k) ?_
  show G (T1.setTop (mkF m 10 #[.val (.int p1), .val .null, .val (.ref bv1), .val (.int (3 : Int32)), .unset, .unset] [(.int (0 : Int32))]))
  refine go (fun _ k => XS.istore X1.here hx rfl (hb hby d1_10) rfl (l' := #[.val (.int p1), .val .null, .val (.ref bv1), .val (.int (3 : Int32)), .val (.int (0 : Int32)), .unset]) rfl k) ?_
  show G (T1.setTop (mkF m 12 #[.val (.int p1), .val .null, .val (.ref bv1), .val (.int (3 : Int32)), .val (.int (0 : Int32)), .unset] []))
  refine go (fun _ k => XS.iload X1.here hx rfl (hb hby d1_12) rfl k) ?_
  show G (T1.setTop (mkF m 14 #[.val (.int p1), .val .null, .val (.ref bv1), .val (.int (3 : Int32)), .val (.int (0 : Int32)), .unset] [(.int (0 : Int32))]))
  refine go (fun _ k => XS.iloadN X1.here hx rfl (hb hby d1_14) rfl k) ?_
  show G (T1.setTop (mkF m 15 #[.val (.int p1), .val .null, .val (.ref bv1), .val (.int (3 : Int32)), .val (.int (0 : Int32)), .unset] [(.int (3 : Int32)), (.int (0 : Int32))]))
  have hc15 : (0 : Int32) < (3 : Int32) := (by decide)
  refine go (fun _ k => XS.icmpNo X1.here hx rfl (hb hby d1_15) rfl (tlt hc15).2.1 k) ?_
  show G (T1.setTop (mkF m 18 #[.val (.int p1), .val .null, .val (.ref bv1), .val (.int (3 : Int32)), .val (.int (0 : Int32)), .unset] []))
  refine go (fun _ k => XS.aloadN X1.here hx rfl (hb hby d1_18) rfl rfl k) ?_
  show G (T1.setTop (mkF m 19 #[.val (.int p1), .val .null, .val (.ref bv1), .val (.int (3 : Int32)), .val (.int (0 : Int32)), .unset] [(.ref bv1)]))
  refine go (fun _ k => XS.iload X1.here hx rfl (hb hby d1_19) rfl k) ?_
  show G (T1.setTop (mkF m 21 #[.val (.int p1), .val .null, .val (.ref bv1), .val (.int (3 : Int32)), .val (.int (0 : Int32)), .unset] [(.int (0 : Int32)), (.ref bv1)]))
  obtain ⟨cl16, Ar16, qk16, qs16, qn16, qh16, qg16⟩ := id c1_0
  refine go (X1.aaload hx (j := (0 : Int32)) (v := (.ref aC)) Ar16.1 (State.isArrayOf_alike hZ.alike Ar16.2.1) rfl Ar16.2.2 (inb_of qs16 ⟨by decide, by decide⟩) (Has.at qh16 (inb_of qs16 ⟨by decide, by decide⟩) rfl) (g := (mkF m 21 #[.val (.int p1), .val .null, .val (.ref bv1), .val (.int (3 : Int32)), .val (.int (0 : Int32)), .unset] [(.int (0 : Int32)), (.ref bv1)])) rfl rfl (hb hby d1_21)) ?_
  show G (T1.setTop (mkF m 22 #[.val (.int p1), .val .null, .val (.ref bv1), .val (.int (3 : Int32)), .val (.int (0 : Int32)), .unset] [(.ref aC)]))
  refine go (fun _ k => XS.astore X1.here hx rfl (hb hby d1_22) rfl rfl (l' := #[.val (.int p1), .val .null, .val (.ref bv1), .val (.int (3 : Int32)), .val (.int (0 : Int32)), .val (.ref aC)]) rfl k) ?_
  show G (T1.setTop (mkF m 24 #[.val (.int p1), .val .null, .val (.ref bv1), .val (.int (3 : Int32)), .val (.int (0 : Int32)), .val (.ref aC)] []))
  refine go (fun _ k => XS.aload X1.here hx rfl (hb hby d1_24) rfl rfl k) ?_
  show G (T1.setTop (mkF m 26 #[.val (.int p1), .val .null, .val (.ref bv1), .val (.int (3 : Int32)), .val (.int (0 : Int32)), .val (.ref aC)] [(.ref aC)]))
  obtain ⟨cq17, kq17, qa17, qb17, qc17⟩ := isOf hZ rfl f3
  obtain ⟨_, _, ⟨T17, L17, k17, n17⟩, -, X17, ⟨Lc17, hQ17, l17, y17, z17⟩, st17⟩ := X1.virtualBack hx (y := (⟨"com/example/terseline/terseline/Delimiter", "isMarked", "()Z"⟩ : MethodName)) (z := (⟨"com/example/terseline/terseline/Delimiter", "isMarked", "()Z"⟩ : MethodName)) hown (mvT hZ (hw _ (List.mem_of_getElem? (i := 22) rfl))) (mvT hZ (hw _ (List.mem_of_getElem? (i := 23) rfl))) (notFace_of_selects (args := #[]) (mvT hZ (hw _ (List.mem_of_getElem? (i := 25) rfl)))) (mvT hZ (hw _ (List.mem_of_getElem? (i := 25) rfl))) (mvT hZ (hw _ (List.mem_of_getElem? (i := 24) rfl))) (by decide) (backOf (W := 0) (rm3c l Z a0 hw [] aC T1.heap n0 Zs1 f2) hZ (hw _ (List.mem_of_getElem? (i := 26) rfl)) (hw _ (List.mem_of_getElem? (i := 2) rfl)) (by decide) (by decide)) qa17 qc17 (g := (mkF m 26 #[.val (.int p1), .val .null, .val (.ref bv1), .val (.int (3 : Int32)), .val (.int (0 : Int32)), .val (.ref aC)] [(.ref aC)])) rfl (by rw [hml]; rfl) (Steps.refl _) (argsL := []) (rest := []) (lenOf pd_1_1 rfl) rfl (by show 2 * 0 + _ ≤ _; exact Nat.le_of_eq rfl) (hb hby d1_26) (fun _ _ => ⟨rfl, rfl, (by decide : 1 + 0 ≤ _), (by decide : 3 + 0 ≤ _)⟩)
  dsimp only [Pt.U, Pt.locs, Pt.cells, Pt.slots] at X17 l17 y17 z17 st17 hQ17
  subst l17 y17 z17
  obtain ⟨rfl, N17q, e17⟩ := hQ17
  have N17 := Fr.app N1 N17q
  refine go (fun _ k => st17.trans k) ?_
  show G (T17.setTop (mkF m 29 #[.val (.int p1), .val .null, .val (.ref bv1), .val (.int (3 : Int32)), .val (.int (0 : Int32)), .val (.ref aC)] [(.int (0 : Int32))]))
  have hc18 : (0 : Int32) = (0 : Int32) := rfl
  refine go (fun _ k => XS.ifYes X17.here hx rfl (pc0 := 29) (pc' := 44) rfl (hb hby d1_29) rfl ((if0 _ _).trans (teq hc18).1) (by decide) (by decide) k) ?_
  show G (T17.setTop (mkF m 44 #[.val (.int p1), .val .null, .val (.ref bv1), .val (.int (3 : Int32)), .val (.int (0 : Int32)), .val (.ref aC)] []))
  refine go (fun _ k => XS.iinc X17.here hx rfl (hb hby d1_44) rfl (l' := #[.val (.int p1), .val .null, .val (.ref bv1), .val (.int (3 : Int32)), .val (.int ((0 : Int32) + (1 : Int32))), .val (.ref aC)]) rfl k) ?_
  show G (T17.setTop (mkF m 47 #[.val (.int p1), .val .null, .val (.ref bv1), .val (.int (3 : Int32)), .val (.int ((0 : Int32) + (1 : Int32))), .val (.ref aC)] []))
  rw [show ((0 : Int32) + (1 : Int32) : Int32) = (1 : Int32) from by decide]
  show G (T17.setTop (mkF m 47 #[.val (.int p1), .val .null, .val (.ref bv1), .val (.int (3 : Int32)), .val (.int (1 : Int32)), .val (.ref aC)] []))
  refine go (fun _ k => XS.goto X17.here hx rfl (pc0 := 47) (pc' := 12) rfl (hb hby d1_47) (by decide) (by decide) k) ?_
  show G (T17.setTop (mkF m 12 #[.val (.int p1), .val .null, .val (.ref bv1), .val (.int (3 : Int32)), .val (.int (1 : Int32)), .val (.ref aC)] []))
  refine go (fun _ k => XS.iload X17.here hx rfl (hb hby d1_12) rfl k) ?_
  show G (T17.setTop (mkF m 14 #[.val (.int p1), .val .null, .val (.ref bv1), .val (.int (3 : Int32)), .val (.int (1 : Int32)), .val (.ref aC)] [(.int (1 : Int32))]))
  refine go (fun _ k => XS.iloadN X17.here hx rfl (hb hby d1_14) rfl k) ?_
  show G (T17.setTop (mkF m 15 #[.val (.int p1), .val .null, .val (.ref bv1), .val (.int (3 : Int32)), .val (.int (1 : Int32)), .val (.ref aC)] [(.int (3 : Int32)), (.int (1 : Int32))]))
  have hc19 : (1 : Int32) < (3 : Int32) := (by decide)
  refine go (fun _ k => XS.icmpNo X17.here hx rfl (hb hby d1_15) rfl (tlt hc19).2.1 k) ?_
  show G (T17.setTop (mkF m 18 #[.val (.int p1), .val .null, .val (.ref bv1), .val (.int (3 : Int32)), .val (.int (1 : Int32)), .val (.ref aC)] []))
  refine go (fun _ k => XS.aloadN X17.here hx rfl (hb hby d1_18) rfl rfl k) ?_
  show G (T17.setTop (mkF m 19 #[.val (.int p1), .val .null, .val (.ref bv1), .val (.int (3 : Int32)), .val (.int (1 : Int32)), .val (.ref aC)] [(.ref bv1)]))
  refine go (fun _ k => XS.iload X17.here hx rfl (hb hby d1_19) rfl k) ?_
  show G (T17.setTop (mkF m 21 #[.val (.int p1), .val .null, .val (.ref bv1), .val (.int (3 : Int32)), .val (.int (1 : Int32)), .val (.ref aC)] [(.int (1 : Int32)), (.ref bv1)]))
  obtain ⟨cl20, Ar20, qk20, qs20, qn20, qh20, qg20⟩ := id c1_0
  refine go (X17.aaload hx (j := (1 : Int32)) (v := (.ref aT)) (by rw [e17]; exact Ar20.1) (State.isArrayOf_alike hZ.alike Ar20.2.1) rfl Ar20.2.2 (inb_of qs20 ⟨by decide, by decide⟩) (Has.at qh20 (inb_of qs20 ⟨by decide, by decide⟩) rfl) (g := (mkF m 21 #[.val (.int p1), .val .null, .val (.ref bv1), .val (.int (3 : Int32)), .val (.int (1 : Int32)), .val (.ref aC)] [(.int (1 : Int32)), (.ref bv1)])) rfl rfl (hb hby d1_21)) ?_
  show G (T17.setTop (mkF m 22 #[.val (.int p1), .val .null, .val (.ref bv1), .val (.int (3 : Int32)), .val (.int (1 : Int32)), .val (.ref aC)] [(.ref aT)]))
  refine go (fun _ k => XS.astore X17.here hx rfl (hb hby d1_22) rfl rfl (l' := #[.val (.int p1), .val .null, .val (.ref bv1), .val (.int (3 : Int32)), .val (.int (1 : Int32)), .val (.ref aT)]) rfl k) ?_
  show G (T17.setTop (mkF m 24 #[.val (.int p1), .val .null, .val (.ref bv1), .val (.int (3 : Int32)), .val (.int (1 : Int32)), .val (.ref aT)] []))
  refine go (fun _ k => XS.aload X17.here hx rfl (hb hby d1_24) rfl rfl k) ?_
  show G (T17.setTop (mkF m 26 #[.val (.int p1), .val .null, .val (.ref bv1), .val (.int (3 : Int32)), .val (.int (1 : Int32)), .val (.ref aT)] [(.ref aT)]))
  obtain ⟨cq21, kq21, qa21, qb21, qc21⟩ := isOf hZ e17 f6
  obtain ⟨_, _, ⟨T21, L21, k21, n21⟩, -, X21, ⟨Lc21, hQ21, l21, y21, z21⟩, st21⟩ := X17.virtualBack hx (y := (⟨"com/example/terseline/terseline/Delimiter", "isMarked", "()Z"⟩ : MethodName)) (z := (⟨"com/example/terseline/terseline/Delimiter", "isMarked", "()Z"⟩ : MethodName)) hown (mvT hZ (hw _ (List.mem_of_getElem? (i := 22) rfl))) (mvT hZ (hw _ (List.mem_of_getElem? (i := 23) rfl))) (notFace_of_selects (args := #[]) (mvT hZ (hw _ (List.mem_of_getElem? (i := 25) rfl)))) (mvT hZ (hw _ (List.mem_of_getElem? (i := 25) rfl))) (mvT hZ (hw _ (List.mem_of_getElem? (i := 24) rfl))) (by decide) (backOf (W := 0) (rm3o l Z a0 hw [] aT aC T1.heap n0 Zs1 f2 (FaT.ne FaC (by decide))) hZ (hw _ (List.mem_of_getElem? (i := 26) rfl)) (hw _ (List.mem_of_getElem? (i := 2) rfl)) (by decide) (by decide)) qa21 qc21 (g := (mkF m 26 #[.val (.int p1), .val .null, .val (.ref bv1), .val (.int (3 : Int32)), .val (.int (1 : Int32)), .val (.ref aT)] [(.ref aT)])) rfl (by rw [hml]; rfl) (Steps.refl _) (argsL := []) (rest := []) (lenOf pd_1_1 rfl) rfl (by show 2 * 0 + _ ≤ _; exact Nat.le_of_eq rfl) (hb hby d1_26) (fun _ _ => ⟨rfl, e17, (by decide : 1 + 0 ≤ _), (by decide : 3 + 0 ≤ _)⟩)
  dsimp only [Pt.U, Pt.locs, Pt.cells, Pt.slots] at X21 l21 y21 z21 st21 hQ21
  subst l21 y21 z21
  obtain ⟨rfl, N21q, e21⟩ := hQ21
  have N21 := Fr.app N17 N21q
  refine go (fun _ k => st21.trans k) ?_
  show G (T21.setTop (mkF m 29 #[.val (.int p1), .val .null, .val (.ref bv1), .val (.int (3 : Int32)), .val (.int (1 : Int32)), .val (.ref aT)] [(.int (1 : Int32))]))
  have hc22 : ¬ ((1 : Int32) = (0 : Int32)) := (by decide)
  refine go (fun _ k => XS.ifNo X21.here hx rfl (hb hby d1_29) rfl ((if0 _ _).trans (feq hc22).1) k) ?_
  show G (T21.setTop (mkF m 32 #[.val (.int p1), .val .null, .val (.ref bv1), .val (.int (3 : Int32)), .val (.int (1 : Int32)), .val (.ref aT)] []))
  refine go (fun _ k => XS.aload X21.here hx rfl (hb hby d1_32) rfl rfl k) ?_
  show G (T21.setTop (mkF m 34 #[.val (.int p1), .val .null, .val (.ref bv1), .val (.int (3 : Int32)), .val (.int (1 : Int32)), .val (.ref aT)] [(.ref aT)]))
  obtain ⟨T23, X23, e23, st23⟩ := getF X21 hx hZ hown (host := "") (Or.inl (hw _ (List.mem_of_getElem? (i := 28) rfl))) Via.refl e21 f7 (g := (mkF m 34 #[.val (.int p1), .val .null, .val (.ref bv1), .val (.int (3 : Int32)), .val (.int (1 : Int32)), .val (.ref aT)] [(.ref aT)])) rfl rfl (hb hby d1_34)
  refine go st23 ?_
  show G (T23.setTop (mkF m 37 #[.val (.int p1), .val .null, .val (.ref bv1), .val (.int (3 : Int32)), .val (.int (1 : Int32)), .val (.ref aT)] [(.int (9 : Int32))]))
  refine go (fun _ k => XS.iloadN X23.here hx rfl (hb hby d1_37) rfl k) ?_
  show G (T23.setTop (mkF m 38 #[.val (.int p1), .val .null, .val (.ref bv1), .val (.int (3 : Int32)), .val (.int (1 : Int32)), .val (.ref aT)] [(.int p1), (.int (9 : Int32))]))
  have hc24 : ¬ ((9 : Int32) = p1) := fun q => hp q.symm
  refine go (fun _ k => XS.icmpYes X23.here hx rfl (pc0 := 38) (pc' := 44) rfl (hb hby d1_38) rfl (feq hc24).2 (by decide) (by decide) k) ?_
  show G (T23.setTop (mkF m 44 #[.val (.int p1), .val .null, .val (.ref bv1), .val (.int (3 : Int32)), .val (.int (1 : Int32)), .val (.ref aT)] []))
  refine go (fun _ k => XS.iinc X23.here hx rfl (hb hby d1_44) rfl (l' := #[.val (.int p1), .val .null, .val (.ref bv1), .val (.int (3 : Int32)), .val (.int ((1 : Int32) + (1 : Int32))), .val (.ref aT)]) rfl k) ?_
  show G (T23.setTop (mkF m 47 #[.val (.int p1), .val .null, .val (.ref bv1), .val (.int (3 : Int32)), .val (.int ((1 : Int32) + (1 : Int32))), .val (.ref aT)] []))
  rw [show ((1 : Int32) + (1 : Int32) : Int32) = (2 : Int32) from by decide]
  show G (T23.setTop (mkF m 47 #[.val (.int p1), .val .null, .val (.ref bv1), .val (.int (3 : Int32)), .val (.int (2 : Int32)), .val (.ref aT)] []))
  refine go (fun _ k => XS.goto X23.here hx rfl (pc0 := 47) (pc' := 12) rfl (hb hby d1_47) (by decide) (by decide) k) ?_
  show G (T23.setTop (mkF m 12 #[.val (.int p1), .val .null, .val (.ref bv1), .val (.int (3 : Int32)), .val (.int (2 : Int32)), .val (.ref aT)] []))
  refine go (fun _ k => XS.iload X23.here hx rfl (hb hby d1_12) rfl k) ?_
  show G (T23.setTop (mkF m 14 #[.val (.int p1), .val .null, .val (.ref bv1), .val (.int (3 : Int32)), .val (.int (2 : Int32)), .val (.ref aT)] [(.int (2 : Int32))]))
  refine go (fun _ k => XS.iloadN X23.here hx rfl (hb hby d1_14) rfl k) ?_
  show G (T23.setTop (mkF m 15 #[.val (.int p1), .val .null, .val (.ref bv1), .val (.int (3 : Int32)), .val (.int (2 : Int32)), .val (.ref aT)] [(.int (3 : Int32)), (.int (2 : Int32))]))
  have hc25 : (2 : Int32) < (3 : Int32) := (by decide)
  refine go (fun _ k => XS.icmpNo X23.here hx rfl (hb hby d1_15) rfl (tlt hc25).2.1 k) ?_
  show G (T23.setTop (mkF m 18 #[.val (.int p1), .val .null, .val (.ref bv1), .val (.int (3 : Int32)), .val (.int (2 : Int32)), .val (.ref aT)] []))
  refine go (fun _ k => XS.aloadN X23.here hx rfl (hb hby d1_18) rfl rfl k) ?_
  show G (T23.setTop (mkF m 19 #[.val (.int p1), .val .null, .val (.ref bv1), .val (.int (3 : Int32)), .val (.int (2 : Int32)), .val (.ref aT)] [(.ref bv1)]))
  refine go (fun _ k => XS.iload X23.here hx rfl (hb hby d1_19) rfl k) ?_
  show G (T23.setTop (mkF m 21 #[.val (.int p1), .val .null, .val (.ref bv1), .val (.int (3 : Int32)), .val (.int (2 : Int32)), .val (.ref aT)] [(.int (2 : Int32)), (.ref bv1)]))
  obtain ⟨cl26, Ar26, qk26, qs26, qn26, qh26, qg26⟩ := id c1_0
  refine go (X23.aaload hx (j := (2 : Int32)) (v := (.ref aP)) (by rw [e23]; exact Ar26.1) (State.isArrayOf_alike hZ.alike Ar26.2.1) rfl Ar26.2.2 (inb_of qs26 ⟨by decide, by decide⟩) (Has.at qh26 (inb_of qs26 ⟨by decide, by decide⟩) rfl) (g := (mkF m 21 #[.val (.int p1), .val .null, .val (.ref bv1), .val (.int (3 : Int32)), .val (.int (2 : Int32)), .val (.ref aT)] [(.int (2 : Int32)), (.ref bv1)])) rfl rfl (hb hby d1_21)) ?_
  show G (T23.setTop (mkF m 22 #[.val (.int p1), .val .null, .val (.ref bv1), .val (.int (3 : Int32)), .val (.int (2 : Int32)), .val (.ref aT)] [(.ref aP)]))
  refine go (fun _ k => XS.astore X23.here hx rfl (hb hby d1_22) rfl rfl (l' := #[.val (.int p1), .val .null, .val (.ref bv1), .val (.int (3 : Int32)), .val (.int (2 : Int32)), .val (.ref aP)]) rfl k) ?_
  show G (T23.setTop (mkF m 24 #[.val (.int p1), .val .null, .val (.ref bv1), .val (.int (3 : Int32)), .val (.int (2 : Int32)), .val (.ref aP)] []))
  refine go (fun _ k => XS.aload X23.here hx rfl (hb hby d1_24) rfl rfl k) ?_
  show G (T23.setTop (mkF m 26 #[.val (.int p1), .val .null, .val (.ref bv1), .val (.int (3 : Int32)), .val (.int (2 : Int32)), .val (.ref aP)] [(.ref aP)]))
  obtain ⟨cq27, kq27, qa27, qb27, qc27⟩ := isOf hZ e23 f9
  obtain ⟨_, _, ⟨T27, L27, k27, n27⟩, -, X27, ⟨Lc27, hQ27, l27, y27, z27⟩, st27⟩ := X23.virtualBack hx (y := (⟨"com/example/terseline/terseline/Delimiter", "isMarked", "()Z"⟩ : MethodName)) (z := (⟨"com/example/terseline/terseline/Delimiter", "isMarked", "()Z"⟩ : MethodName)) hown (mvT hZ (hw _ (List.mem_of_getElem? (i := 22) rfl))) (mvT hZ (hw _ (List.mem_of_getElem? (i := 23) rfl))) (notFace_of_selects (args := #[]) (mvT hZ (hw _ (List.mem_of_getElem? (i := 25) rfl)))) (mvT hZ (hw _ (List.mem_of_getElem? (i := 25) rfl))) (mvT hZ (hw _ (List.mem_of_getElem? (i := 24) rfl))) (by decide) (backOf (W := 0) (rm3o l Z a0 hw [] aP aC T1.heap n0 Zs1 f2 (FaP.ne FaC (by decide))) hZ (hw _ (List.mem_of_getElem? (i := 26) rfl)) (hw _ (List.mem_of_getElem? (i := 2) rfl)) (by decide) (by decide)) qa27 qc27 (g := (mkF m 26 #[.val (.int p1), .val .null, .val (.ref bv1), .val (.int (3 : Int32)), .val (.int (2 : Int32)), .val (.ref aP)] [(.ref aP)])) rfl (by rw [hml]; rfl) (Steps.refl _) (argsL := []) (rest := []) (lenOf pd_1_1 rfl) rfl (by show 2 * 0 + _ ≤ _; exact Nat.le_of_eq rfl) (hb hby d1_26) (fun _ _ => ⟨rfl, e23, (by decide : 1 + 0 ≤ _), (by decide : 3 + 0 ≤ _)⟩)
  dsimp only [Pt.U, Pt.locs, Pt.cells, Pt.slots] at X27 l27 y27 z27 st27 hQ27
  subst l27 y27 z27
  obtain ⟨rfl, N27q, e27⟩ := hQ27
  have N27 := Fr.app N21 N27q
  refine go (fun _ k => st27.trans k) ?_
  show G (T27.setTop (mkF m 29 #[.val (.int p1), .val .null, .val (.ref bv1), .val (.int (3 : Int32)), .val (.int (2 : Int32)), .val (.ref aP)] [(.int (1 : Int32))]))
  have hc28 : ¬ ((1 : Int32) = (0 : Int32)) := (by decide)
  refine go (fun _ k => XS.ifNo X27.here hx rfl (hb hby d1_29) rfl ((if0 _ _).trans (feq hc28).1) k) ?_
  show G (T27.setTop (mkF m 32 #[.val (.int p1), .val .null, .val (.ref bv1), .val (.int (3 : Int32)), .val (.int (2 : Int32)), .val (.ref aP)] []))
  refine go (fun _ k => XS.aload X27.here hx rfl (hb hby d1_32) rfl rfl k) ?_
  show G (T27.setTop (mkF m 34 #[.val (.int p1), .val .null, .val (.ref bv1), .val (.int (3 : Int32)), .val (.int (2 : Int32)), .val (.ref aP)] [(.ref aP)]))
  obtain ⟨T29, X29, e29, st29⟩ := getF X27 hx hZ hown (host := "") (Or.inl (hw _ (List.mem_of_getElem? (i := 28) rfl))) Via.refl e27 f10 (g := (mkF m 34 #[.val (.int p1), .val .null, .val (.ref bv1), .val (.int (3 : Int32)), .val (.int (2 : Int32)), .val (.ref aP)] [(.ref aP)])) rfl rfl (hb hby d1_34)
  refine go st29 ?_
  show G (T29.setTop (mkF m 37 #[.val (.int p1), .val .null, .val (.ref bv1), .val (.int (3 : Int32)), .val (.int (2 : Int32)), .val (.ref aP)] [(.int (124 : Int32))]))
  refine go (fun _ k => XS.iloadN X29.here hx rfl (hb hby d1_37) rfl k) ?_
  show G (T29.setTop (mkF m 38 #[.val (.int p1), .val .null, .val (.ref bv1), .val (.int (3 : Int32)), .val (.int (2 : Int32)), .val (.ref aP)] [(.int p1), (.int (124 : Int32))]))
  have hc30 : ¬ ((124 : Int32) = p1) := fun q => hq q.symm
  refine go (fun _ k => XS.icmpYes X29.here hx rfl (pc0 := 38) (pc' := 44) rfl (hb hby d1_38) rfl (feq hc30).2 (by decide) (by decide) k) ?_
  show G (T29.setTop (mkF m 44 #[.val (.int p1), .val .null, .val (.ref bv1), .val (.int (3 : Int32)), .val (.int (2 : Int32)), .val (.ref aP)] []))
  refine go (fun _ k => XS.iinc X29.here hx rfl (hb hby d1_44) rfl (l' := #[.val (.int p1), .val .null, .val (.ref bv1), .val (.int (3 : Int32)), .val (.int ((2 : Int32) + (1 : Int32))), .val (.ref aP)]) rfl k) ?_
  show G (T29.setTop (mkF m 47 #[.val (.int p1), .val .null, .val (.ref bv1), .val (.int (3 : Int32)), .val (.int ((2 : Int32) + (1 : Int32))), .val (.ref aP)] []))
  rw [show ((2 : Int32) + (1 : Int32) : Int32) = (3 : Int32) from by decide]
  show G (T29.setTop (mkF m 47 #[.val (.int p1), .val .null, .val (.ref bv1), .val (.int (3 : Int32)), .val (.int (3 : Int32)), .val (.ref aP)] []))
  refine go (fun _ k => XS.goto X29.here hx rfl (pc0 := 47) (pc' := 12) rfl (hb hby d1_47) (by decide) (by decide) k) ?_
  show G (T29.setTop (mkF m 12 #[.val (.int p1), .val .null, .val (.ref bv1), .val (.int (3 : Int32)), .val (.int (3 : Int32)), .val (.ref aP)] []))
  refine go (fun _ k => XS.iload X29.here hx rfl (hb hby d1_12) rfl k) ?_
  show G (T29.setTop (mkF m 14 #[.val (.int p1), .val .null, .val (.ref bv1), .val (.int (3 : Int32)), .val (.int (3 : Int32)), .val (.ref aP)] [(.int (3 : Int32))]))
  refine go (fun _ k => XS.iloadN X29.here hx rfl (hb hby d1_14) rfl k) ?_
  show G (T29.setTop (mkF m 15 #[.val (.int p1), .val .null, .val (.ref bv1), .val (.int (3 : Int32)), .val (.int (3 : Int32)), .val (.ref aP)] [(.int (3 : Int32)), (.int (3 : Int32))]))
  have hc31 : ¬ ((3 : Int32) < (3 : Int32)) := (by decide)
  refine go (fun _ k => XS.icmpYes X29.here hx rfl (pc0 := 15) (pc' := 50) rfl (hb hby d1_15) rfl (flt hc31).2.1 (by decide) (by decide) k) ?_
  show G (T29.setTop (mkF m 50 #[.val (.int p1), .val .null, .val (.ref bv1), .val (.int (3 : Int32)), .val (.int (3 : Int32)), .val (.ref aP)] []))
  refine go (fun _ k => XS.aloadN X29.here hx rfl (hb hby d1_50) rfl rfl k) ?_
  show G (T29.setTop (mkF m 51 #[.val (.int p1), .val .null, .val (.ref bv1), .val (.int (3 : Int32)), .val (.int (3 : Int32)), .val (.ref aP)] [.null]))
  rw [hG]
  refine own_fin X29 Bd.notSynchronized (v := some .null) (fun h => by rw [Bd.returns] at h; cases h) (fun fs hr => retOut X29 hx Bd.returns rfl (by simp [FieldType.isReference, Value.isRef]) (hb hby d1_51) hr) ?_ (by decide) (by decide)
  show Q1N Z p1 aC aT aP aV k h0 n0 (some .null) T29.heap _
  rw [e29]
  exact ⟨rfl, N27, Kc1⟩

theorem pn_0 : plainName "com/example/terseline/terseline/DelimiterDeclaredByPinLaw" = true := by first | (simp [plainName, overriddenIn]; done) | decide +kernel
theorem pd_0_0 : parseMethodDescriptor "(C)Lcom/example/terseline/terseline/Delimiter;" = some ⟨[.char], some (.object "com/example/terseline/terseline/Delimiter")⟩ := by decide +kernel
theorem ef_rm0 (m : MethodId) (p1 : Int32) (p2 : Int32) : entryFrame m #[(.int p1), (.int p2)] maxLocals = mkF m 0 #[.val (.int p1), .val (.int p2), .unset, .unset, .unset, .unset] [] := by first | (simp [entryFrame, mkF, argsToLocals, Value.category, maxLocals]; done) | rfl
def Q0 (Z : State) (p1 : Int32) (p2 : Int32) (aC aT aP aV : Addr) (k : ClassId) (h0 : Heap) (n0 : Nat) (v : Option Value) (h : Heap) (L : List Loc) : Prop := v = some (.int (1 : Int32)) ∧ Fr n0 L
set_option maxRecDepth 65536 in
set_option maxHeartbeats 40000000 in
theorem rm0 (l : Launch) (Z : State) (a0 : Array Value) (hw : ∀ d ∈ tables_1, d.before a0 Z = true) (ws : List Jvm.Cond) (p1 : Int32) (p2 : Int32) (aC aT aP aV : Addr) (k : ClassId) (h0 : Heap) (n0 : Nat) (Z0 : n0 ≤ h0.size) (SaC : Sta Z h0 "com/example/terseline/terseline/Delimiter" "COMMA" "Lcom/example/terseline/terseline/Delimiter;" (.ref aC)) (EaC : Exa Z h0 aC "com/example/terseline/terseline/Delimiter") (FaC : Fld Z h0 aC "com/example/terseline/terseline/Delimiter" "character" "C" (.int (44 : Int32))) (SaT : Sta Z h0 "com/example/terseline/terseline/Delimiter" "TAB" "Lcom/example/terseline/terseline/Delimiter;" (.ref aT)) (EaT : Exa Z h0 aT "com/example/terseline/terseline/Delimiter") (FaT : Fld Z h0 aT "com/example/terseline/terseline/Delimiter" "character" "C" (.int (9 : Int32))) (SaP : Sta Z h0 "com/example/terseline/terseline/Delimiter" "PIPE" "Lcom/example/terseline/terseline/Delimiter;" (.ref aP)) (EaP : Exa Z h0 aP "com/example/terseline/terseline/Delimiter") (FaP : Fld Z h0 aP "com/example/terseline/terseline/Delimiter" "character" "C" (.int (124 : Int32))) (SV : Sta Z h0 "com/example/terseline/terseline/Delimiter" "$VALUES" "[Lcom/example/terseline/terseline/Delimiter;" (.ref aV)) (VA : Arv Z h0 aV k (.object "com/example/terseline/terseline/Delimiter") (3 : Int32) [(.ref aC), (.ref aT), (.ref aP)] .null) (EA : Exa Z h0 aV "[Lcom/example/terseline/terseline/Delimiter;") :
    MetFree l x (head1 (Jvm.Cond.code x code maxLocals ret :: ws) room_1) (fun a U => a = #[(.int p1), (.int p2)] ∧ Z.Warmed39 U.vm ∧ U.heap = h0) (fun _ _ _ _ _ => True) (fun _ U o U' => ∃ v L, o = .returned v ∧ Q0 Z p1 p2 aC aT aP aV k h0 n0 v U'.heap L ∧ FrameEnd U o U' L room_1.cells room_1.slots) := by
  refine MetFree.of_bodySF (plainFor_of_name pn_0) hisR ?_
  intro p e s m args below meth c s₁ Bd hml0 hP hK
  obtain ⟨rfl, hZ, hh⟩ := hP
  have hx := Bd.exec
  have hby := Bd.bytes
  have hml : c.maxLocals = 6 := hml0
  have hown : s.vm.findClass "com/example/terseline/terseline/DelimiterDeclaredByPinLaw" = some m.cls := findClass_of_methodNamed Bd.named
  have hnm := (name_of_methodNamed Bd.named Bd.method).1
  have X0 : Stand p l e room_1 s m #[(.int p1), (.int p2)] below meth c s₁ [] 0 0 := Stand.of_body Bd
  have e0 : s₁.heap = h0 := by rw [← hh, Bd.state]; rfl
  have N0 := Fr.nil n0
  obtain ⟨G, hG⟩ : ∃ G : State → Prop, G = OwnG p e below s room_1.cells room_1.slots (Q0 Z p1 p2 aC aT aP aV k h0 n0) := ⟨_, rfl⟩
  have go : ∀ {A B : State}, (∀ t, Steps p.tables e below A t → Steps p.tables e below B t) → G A → G B := fun h k => by rw [hG] at k ⊢; exact OwnG.go h k
  suffices k0 : G (s₁.setTop (mkF m 0 #[.val (.int p1), .val (.int p2), .unset, .unset, .unset, .unset] [])) by
    rw [hG] at k0; exact OwnG.go (fun t k => castTop (ef_rm0 m p1 p2) k) k0
  refine go (fun _ k => XS.iloadN X0.here hx rfl (hb hby at_0) rfl k) ?_
  show G (s₁.setTop (mkF m 1 #[.val (.int p1), .val (.int p2), .unset, .unset, .unset, .unset] [(.int p2)]))
  refine go (fun _ k => XS.iconst X0.here hx rfl (hb hby at_1) k) ?_
  show G (s₁.setTop (mkF m 2 #[.val (.int p1), .val (.int p2), .unset, .unset, .unset, .unset] [(.int (3 : Int32)), (.int p2)]))
  refine go (fun _ k => XS.iand X0.here hx rfl (hb hby at_2) rfl k) ?_
  show G (s₁.setTop (mkF m 3 #[.val (.int p1), .val (.int p2), .unset, .unset, .unset, .unset] [(.int (p2 &&& (3 : Int32)))]))
  refine go (fun _ k => XS.istoreN X0.here hx rfl (hb hby at_3) rfl (l' := #[.val (.int p1), .val (.int p2), .val (.int (p2 &&& (3 : Int32))), .unset, .unset, .unset]) rfl k) ?_
  show G (s₁.setTop (mkF m 4 #[.val (.int p1), .val (.int p2), .val (.int (p2 &&& (3 : Int32))), .unset, .unset, .unset] []))
  refine go (fun _ k => XS.iloadN X0.here hx rfl (hb hby at_4) rfl k) ?_
  show G (s₁.setTop (mkF m 5 #[.val (.int p1), .val (.int p2), .val (.int (p2 &&& (3 : Int32))), .unset, .unset, .unset] [(.int (p2 &&& (3 : Int32)))]))
  by_cases hc5_1 : (p2 &&& (3 : Int32)) = (0 : Int32)
  · refine go (fun _ k => XS.ifNo X0.here hx rfl (hb hby at_5) rfl ((if0 _ _).trans (teq hc5_1).2) k) ?_
    show G (s₁.setTop (mkF m 8 #[.val (.int p1), .val (.int p2), .val (.int (p2 &&& (3 : Int32))), .unset, .unset, .unset] []))
    refine go (fun _ k => XS.bipush X0.here hx rfl (hb hby at_8) k) ?_
    show G (s₁.setTop (mkF m 10 #[.val (.int p1), .val (.int p2), .val (.int (p2 &&& (3 : Int32))), .unset, .unset, .unset] [(.int (9 : Int32))]))
    refine go (fun _ k => XS.istoreN X0.here hx rfl (hb hby at_10) rfl (l' := #[.val (.int p1), .val (.int p2), .val (.int (p2 &&& (3 : Int32))), .val (.int (9 : Int32)), .unset, .unset]) rfl k) ?_
    show G (s₁.setTop (mkF m 11 #[.val (.int p1), .val (.int p2), .val (.int (p2 &&& (3 : Int32))), .val (.int (9 : Int32)), .unset, .unset] []))
    refine go (fun _ k => XS.goto X0.here hx rfl (pc0 := 11) (pc' := 39) rfl (hb hby at_11) (by decide) (by decide) k) ?_
    show G (s₁.setTop (mkF m 39 #[.val (.int p1), .val (.int p2), .val (.int (p2 &&& (3 : Int32))), .val (.int (9 : Int32)), .unset, .unset] []))
    refine go (fun _ k => XS.iloadN X0.here hx rfl (hb hby at_39) rfl k) ?_
    show G (s₁.setTop (mkF m 40 #[.val (.int p1), .val (.int p2), .val (.int (p2 &&& (3 : Int32))), .val (.int (9 : Int32)), .unset, .unset] [(.int (9 : Int32))]))
    refine go (fun _ k => XS.bipush X0.here hx rfl (hb hby at_40) k) ?_
    show G (s₁.setTop (mkF m 42 #[.val (.int p1), .val (.int p2), .val (.int (p2 &&& (3 : Int32))), .val (.int (9 : Int32)), .unset, .unset] [(.int (9 : Int32)), (.int (9 : Int32))]))
    have hc2 : (9 : Int32) = (9 : Int32) := rfl
    refine go (fun _ k => XS.icmpNo X0.here hx rfl (hb hby at_42) rfl (teq hc2).2 k) ?_
    show G (s₁.setTop (mkF m 45 #[.val (.int p1), .val (.int p2), .val (.int (p2 &&& (3 : Int32))), .val (.int (9 : Int32)), .unset, .unset] []))
    obtain ⟨T3, X3, e3, st3⟩ := getS2 X0 hx hZ hown (host := "") (Or.inl (hw _ (List.mem_of_getElem? (i := 31) rfl))) Via.refl e0 SaT (g := (mkF m 45 #[.val (.int p1), .val (.int p2), .val (.int (p2 &&& (3 : Int32))), .val (.int (9 : Int32)), .unset, .unset] [])) rfl (hb hby at_45)
    refine go st3 ?_
    show G (T3.setTop (mkF m 48 #[.val (.int p1), .val (.int p2), .val (.int (p2 &&& (3 : Int32))), .val (.int (9 : Int32)), .unset, .unset] [(.ref aT)]))
    refine go (fun _ k => XS.astore X3.here hx rfl (hb hby at_48) rfl rfl (l' := #[.val (.int p1), .val (.int p2), .val (.int (p2 &&& (3 : Int32))), .val (.int (9 : Int32)), .val (.ref aT), .unset]) rfl k) ?_
    show G (T3.setTop (mkF m 50 #[.val (.int p1), .val (.int p2), .val (.int (p2 &&& (3 : Int32))), .val (.int (9 : Int32)), .val (.ref aT), .unset] []))
    refine go (fun _ k => XS.goto X3.here hx rfl (pc0 := 50) (pc' := 70) rfl (hb hby at_50) (by decide) (by decide) k) ?_
    show G (T3.setTop (mkF m 70 #[.val (.int p1), .val (.int p2), .val (.int (p2 &&& (3 : Int32))), .val (.int (9 : Int32)), .val (.ref aT), .unset] []))
    refine go (fun _ k => XS.iloadN X3.here hx rfl (hb hby at_70) rfl k) ?_
    show G (T3.setTop (mkF m 71 #[.val (.int p1), .val (.int p2), .val (.int (p2 &&& (3 : Int32))), .val (.int (9 : Int32)), .val (.ref aT), .unset] [(.int (9 : Int32))]))
    obtain ⟨_, _, ⟨T4, L4, k4, n4⟩, -, X4, ⟨Lc4, hQ4, l4, y4, z4⟩, st4⟩ := Jvm.LawKit.callS X3 hx (y := (⟨"com/example/terseline/terseline/Delimiter", "declaredBy", "(C)Lcom/example/terseline/terseline/Delimiter;"⟩ : MethodName)) hown (mvT hZ (hw _ (List.mem_of_getElem? (i := 0) rfl))) (mvT hZ (hw _ (List.mem_of_getElem? (i := 1) rfl))) (mvT hZ (hw _ (List.mem_of_getElem? (i := 2) rfl))) (mvT hZ (hw _ (List.mem_of_getElem? (i := 3) rfl))) (by decide) (backOf (W := 0) (rm1T l Z a0 hw [] (9 : Int32) aC aT aP aV k h0 n0 Z0 SaC EaC FaC SaT EaT FaT SaP EaP FaP SV VA EA (by decide)) hZ (hw _ (List.mem_of_getElem? (i := 3) rfl)) (hw _ (List.mem_of_getElem? (i := 2) rfl)) (by decide) (by decide)) (g := (mkF m 71 #[.val (.int p1), .val (.int p2), .val (.int (p2 &&& (3 : Int32))), .val (.int (9 : Int32)), .val (.ref aT), .unset] [(.int (9 : Int32))])) rfl (by rw [hml]; rfl) (argsL := [(.int (9 : Int32))]) (rest := []) (lenOf pd_0_0 rfl) rfl (by show 2 * 0 + _ ≤ _; exact Nat.le_of_eq rfl) (hb hby at_71) (fun _ _ => ⟨rfl, e3, (by decide : 0 + 1 ≤ _), (by decide : 0 + 3 ≤ _)⟩)
    dsimp only [Pt.U, Pt.locs, Pt.cells, Pt.slots] at X4 l4 y4 z4 st4 hQ4
    subst l4 y4 z4
    obtain ⟨rfl, N4q, Kc4⟩ := hQ4
    have f5 := SaC.ext Kc4
    have f6 := EaC.ext Kc4
    have f7 := FaC.ext Kc4
    have f8 := SaT.ext Kc4
    have f9 := EaT.ext Kc4
    have f10 := FaT.ext Kc4
    have f11 := SaP.ext Kc4
    have f12 := EaP.ext Kc4
    have f13 := FaP.ext Kc4
    have f14 := SV.ext Kc4
    have f15 := VA.ext Kc4
    have f16 := EA.ext Kc4
    have Zs4 : n0 ≤ T4.heap.size := Nat.le_trans Z0 Kc4.1
    have N4 := Fr.app N0 N4q
    refine go st4 ?_
    show G (T4.setTop (mkF m 74 #[.val (.int p1), .val (.int p2), .val (.int (p2 &&& (3 : Int32))), .val (.int (9 : Int32)), .val (.ref aT), .unset] [(.ref aT)]))
    refine go (fun _ k => XS.astore X4.here hx rfl (hb hby at_74) rfl rfl (l' := #[.val (.int p1), .val (.int p2), .val (.int (p2 &&& (3 : Int32))), .val (.int (9 : Int32)), .val (.ref aT), .val (.ref aT)]) rfl k) ?_
    show G (T4.setTop (mkF m 76 #[.val (.int p1), .val (.int p2), .val (.int (p2 &&& (3 : Int32))), .val (.int (9 : Int32)), .val (.ref aT), .val (.ref aT)] []))
    refine go (fun _ k => XS.aload X4.here hx rfl (hb hby at_76) rfl rfl k) ?_
    show G (T4.setTop (mkF m 78 #[.val (.int p1), .val (.int p2), .val (.int (p2 &&& (3 : Int32))), .val (.int (9 : Int32)), .val (.ref aT), .val (.ref aT)] [(.ref aT)]))
    refine go (fun _ k => XS.aload X4.here hx rfl (hb hby at_78) rfl rfl k) ?_
    show G (T4.setTop (mkF m 80 #[.val (.int p1), .val (.int p2), .val (.int (p2 &&& (3 : Int32))), .val (.int (9 : Int32)), .val (.ref aT), .val (.ref aT)] [(.ref aT), (.ref aT)]))
    refine go (fun _ k => Jvm.RoadKit.acmp (g := (mkF m 80 #[.val (.int p1), .val (.int p2), .val (.int (p2 &&& (3 : Int32))), .val (.int (9 : Int32)), .val (.ref aT), .val (.ref aT)] [(.ref aT), (.ref aT)])) X4 hx rfl rfl rfl (pc0 := 80) (pc' := 83) (same := true) rfl (hb hby at_80) rfl (decide_eq_true rfl) (by decide) (by decide) k) ?_
    show G (T4.setTop (mkF m 83 #[.val (.int p1), .val (.int p2), .val (.int (p2 &&& (3 : Int32))), .val (.int (9 : Int32)), .val (.ref aT), .val (.ref aT)] []))
    refine go (fun _ k => XS.iconst X4.here hx rfl (hb hby at_83) k) ?_
    show G (T4.setTop (mkF m 84 #[.val (.int p1), .val (.int p2), .val (.int (p2 &&& (3 : Int32))), .val (.int (9 : Int32)), .val (.ref aT), .val (.ref aT)] [(.int (1 : Int32))]))
    refine go (fun _ k => XS.goto X4.here hx rfl (pc0 := 84) (pc' := 88) rfl (hb hby at_84) (by decide) (by decide) k) ?_
    show G (T4.setTop (mkF m 88 #[.val (.int p1), .val (.int p2), .val (.int (p2 &&& (3 : Int32))), .val (.int (9 : Int32)), .val (.ref aT), .val (.ref aT)] [(.int (1 : Int32))]))
    rw [hG]
    refine own_fin X4 Bd.notSynchronized (v := some (.int (1 : Int32))) (fun h => by rw [Bd.returns] at h; cases h) (fun fs hr => retOut X4 hx Bd.returns rfl (by simp [FieldType.isReference, Value.isRef]) (hb hby at_88) hr) ?_ (by decide) (by decide)
    show Q0 Z p1 p2 aC aT aP aV k h0 n0 (some (.int (1 : Int32))) T4.heap _
    exact ⟨rfl, N4⟩
  · refine go (fun _ k => XS.ifYes X0.here hx rfl (pc0 := 5) (pc' := 14) rfl (hb hby at_5) rfl ((if0 _ _).trans (feq hc5_1).2) (by decide) (by decide) k) ?_
    show G (s₁.setTop (mkF m 14 #[.val (.int p1), .val (.int p2), .val (.int (p2 &&& (3 : Int32))), .unset, .unset, .unset] []))
    refine go (fun _ k => XS.iloadN X0.here hx rfl (hb hby at_14) rfl k) ?_
    show G (s₁.setTop (mkF m 15 #[.val (.int p1), .val (.int p2), .val (.int (p2 &&& (3 : Int32))), .unset, .unset, .unset] [(.int (p2 &&& (3 : Int32)))]))
    refine go (fun _ k => XS.iconst X0.here hx rfl (hb hby at_15) k) ?_
    show G (s₁.setTop (mkF m 16 #[.val (.int p1), .val (.int p2), .val (.int (p2 &&& (3 : Int32))), .unset, .unset, .unset] [(.int (1 : Int32)), (.int (p2 &&& (3 : Int32)))]))
    by_cases hc16_17 : (p2 &&& (3 : Int32)) = (1 : Int32)
    · refine go (fun _ k => XS.icmpNo X0.here hx rfl (hb hby at_16) rfl (teq hc16_17).2 k) ?_
      show G (s₁.setTop (mkF m 19 #[.val (.int p1), .val (.int p2), .val (.int (p2 &&& (3 : Int32))), .unset, .unset, .unset] []))
      refine go (fun _ k => XS.bipush X0.here hx rfl (hb hby at_19) k) ?_
      show G (s₁.setTop (mkF m 21 #[.val (.int p1), .val (.int p2), .val (.int (p2 &&& (3 : Int32))), .unset, .unset, .unset] [(.int (124 : Int32))]))
      refine go (fun _ k => XS.istoreN X0.here hx rfl (hb hby at_21) rfl (l' := #[.val (.int p1), .val (.int p2), .val (.int (p2 &&& (3 : Int32))), .val (.int (124 : Int32)), .unset, .unset]) rfl k) ?_
      show G (s₁.setTop (mkF m 22 #[.val (.int p1), .val (.int p2), .val (.int (p2 &&& (3 : Int32))), .val (.int (124 : Int32)), .unset, .unset] []))
      refine go (fun _ k => XS.goto X0.here hx rfl (pc0 := 22) (pc' := 39) rfl (hb hby at_22) (by decide) (by decide) k) ?_
      show G (s₁.setTop (mkF m 39 #[.val (.int p1), .val (.int p2), .val (.int (p2 &&& (3 : Int32))), .val (.int (124 : Int32)), .unset, .unset] []))
      refine go (fun _ k => XS.iloadN X0.here hx rfl (hb hby at_39) rfl k) ?_
      show G (s₁.setTop (mkF m 40 #[.val (.int p1), .val (.int p2), .val (.int (p2 &&& (3 : Int32))), .val (.int (124 : Int32)), .unset, .unset] [(.int (124 : Int32))]))
      refine go (fun _ k => XS.bipush X0.here hx rfl (hb hby at_40) k) ?_
      show G (s₁.setTop (mkF m 42 #[.val (.int p1), .val (.int p2), .val (.int (p2 &&& (3 : Int32))), .val (.int (124 : Int32)), .unset, .unset] [(.int (9 : Int32)), (.int (124 : Int32))]))
      have hc18 : ¬ ((124 : Int32) = (9 : Int32)) := (by decide)
      refine go (fun _ k => XS.icmpYes X0.here hx rfl (pc0 := 42) (pc' := 53) rfl (hb hby at_42) rfl (feq hc18).2 (by decide) (by decide) k) ?_
      show G (s₁.setTop (mkF m 53 #[.val (.int p1), .val (.int p2), .val (.int (p2 &&& (3 : Int32))), .val (.int (124 : Int32)), .unset, .unset] []))
      refine go (fun _ k => XS.iloadN X0.here hx rfl (hb hby at_53) rfl k) ?_
      show G (s₁.setTop (mkF m 54 #[.val (.int p1), .val (.int p2), .val (.int (p2 &&& (3 : Int32))), .val (.int (124 : Int32)), .unset, .unset] [(.int (124 : Int32))]))
      refine go (fun _ k => XS.bipush X0.here hx rfl (hb hby at_54) k) ?_
      show G (s₁.setTop (mkF m 56 #[.val (.int p1), .val (.int p2), .val (.int (p2 &&& (3 : Int32))), .val (.int (124 : Int32)), .unset, .unset] [(.int (124 : Int32)), (.int (124 : Int32))]))
      have hc19 : (124 : Int32) = (124 : Int32) := rfl
      refine go (fun _ k => XS.icmpNo X0.here hx rfl (hb hby at_56) rfl (teq hc19).2 k) ?_
      show G (s₁.setTop (mkF m 59 #[.val (.int p1), .val (.int p2), .val (.int (p2 &&& (3 : Int32))), .val (.int (124 : Int32)), .unset, .unset] []))
      obtain ⟨T20, X20, e20, st20⟩ := getS2 X0 hx hZ hown (host := "") (Or.inl (hw _ (List.mem_of_getElem? (i := 30) rfl))) Via.refl e0 SaP (g := (mkF m 59 #[.val (.int p1), .val (.int p2), .val (.int (p2 &&& (3 : Int32))), .val (.int (124 : Int32)), .unset, .unset] [])) rfl (hb hby at_59)
      refine go st20 ?_
      show G (T20.setTop (mkF m 62 #[.val (.int p1), .val (.int p2), .val (.int (p2 &&& (3 : Int32))), .val (.int (124 : Int32)), .unset, .unset] [(.ref aP)]))
      refine go (fun _ k => XS.astore X20.here hx rfl (hb hby at_62) rfl rfl (l' := #[.val (.int p1), .val (.int p2), .val (.int (p2 &&& (3 : Int32))), .val (.int (124 : Int32)), .val (.ref aP), .unset]) rfl k) ?_
      show G (T20.setTop (mkF m 64 #[.val (.int p1), .val (.int p2), .val (.int (p2 &&& (3 : Int32))), .val (.int (124 : Int32)), .val (.ref aP), .unset] []))
      refine go (fun _ k => XS.goto X20.here hx rfl (pc0 := 64) (pc' := 70) rfl (hb hby at_64) (by decide) (by decide) k) ?_
      show G (T20.setTop (mkF m 70 #[.val (.int p1), .val (.int p2), .val (.int (p2 &&& (3 : Int32))), .val (.int (124 : Int32)), .val (.ref aP), .unset] []))
      refine go (fun _ k => XS.iloadN X20.here hx rfl (hb hby at_70) rfl k) ?_
      show G (T20.setTop (mkF m 71 #[.val (.int p1), .val (.int p2), .val (.int (p2 &&& (3 : Int32))), .val (.int (124 : Int32)), .val (.ref aP), .unset] [(.int (124 : Int32))]))
      obtain ⟨_, _, ⟨T21, L21, k21, n21⟩, -, X21, ⟨Lc21, hQ21, l21, y21, z21⟩, st21⟩ := Jvm.LawKit.callS X20 hx (y := (⟨"com/example/terseline/terseline/Delimiter", "declaredBy", "(C)Lcom/example/terseline/terseline/Delimiter;"⟩ : MethodName)) hown (mvT hZ (hw _ (List.mem_of_getElem? (i := 0) rfl))) (mvT hZ (hw _ (List.mem_of_getElem? (i := 1) rfl))) (mvT hZ (hw _ (List.mem_of_getElem? (i := 2) rfl))) (mvT hZ (hw _ (List.mem_of_getElem? (i := 3) rfl))) (by decide) (backOf (W := 0) (rm1P l Z a0 hw [] (124 : Int32) aC aT aP aV k h0 n0 Z0 SaC EaC FaC SaT EaT FaT SaP EaP FaP SV VA EA (by decide)) hZ (hw _ (List.mem_of_getElem? (i := 3) rfl)) (hw _ (List.mem_of_getElem? (i := 2) rfl)) (by decide) (by decide)) (g := (mkF m 71 #[.val (.int p1), .val (.int p2), .val (.int (p2 &&& (3 : Int32))), .val (.int (124 : Int32)), .val (.ref aP), .unset] [(.int (124 : Int32))])) rfl (by rw [hml]; rfl) (argsL := [(.int (124 : Int32))]) (rest := []) (lenOf pd_0_0 rfl) rfl (by show 2 * 0 + _ ≤ _; exact Nat.le_of_eq rfl) (hb hby at_71) (fun _ _ => ⟨rfl, e20, (by decide : 0 + 1 ≤ _), (by decide : 0 + 3 ≤ _)⟩)
      dsimp only [Pt.U, Pt.locs, Pt.cells, Pt.slots] at X21 l21 y21 z21 st21 hQ21
      subst l21 y21 z21
      obtain ⟨rfl, N21q, Kc21⟩ := hQ21
      have f22 := SaC.ext Kc21
      have f23 := EaC.ext Kc21
      have f24 := FaC.ext Kc21
      have f25 := SaT.ext Kc21
      have f26 := EaT.ext Kc21
      have f27 := FaT.ext Kc21
      have f28 := SaP.ext Kc21
      have f29 := EaP.ext Kc21
      have f30 := FaP.ext Kc21
      have f31 := SV.ext Kc21
      have f32 := VA.ext Kc21
      have f33 := EA.ext Kc21
      have Zs21 : n0 ≤ T21.heap.size := Nat.le_trans Z0 Kc21.1
      have N21 := Fr.app N0 N21q
      refine go st21 ?_
      show G (T21.setTop (mkF m 74 #[.val (.int p1), .val (.int p2), .val (.int (p2 &&& (3 : Int32))), .val (.int (124 : Int32)), .val (.ref aP), .unset] [(.ref aP)]))
      refine go (fun _ k => XS.astore X21.here hx rfl (hb hby at_74) rfl rfl (l' := #[.val (.int p1), .val (.int p2), .val (.int (p2 &&& (3 : Int32))), .val (.int (124 : Int32)), .val (.ref aP), .val (.ref aP)]) rfl k) ?_
      show G (T21.setTop (mkF m 76 #[.val (.int p1), .val (.int p2), .val (.int (p2 &&& (3 : Int32))), .val (.int (124 : Int32)), .val (.ref aP), .val (.ref aP)] []))
      refine go (fun _ k => XS.aload X21.here hx rfl (hb hby at_76) rfl rfl k) ?_
      show G (T21.setTop (mkF m 78 #[.val (.int p1), .val (.int p2), .val (.int (p2 &&& (3 : Int32))), .val (.int (124 : Int32)), .val (.ref aP), .val (.ref aP)] [(.ref aP)]))
      refine go (fun _ k => XS.aload X21.here hx rfl (hb hby at_78) rfl rfl k) ?_
      show G (T21.setTop (mkF m 80 #[.val (.int p1), .val (.int p2), .val (.int (p2 &&& (3 : Int32))), .val (.int (124 : Int32)), .val (.ref aP), .val (.ref aP)] [(.ref aP), (.ref aP)]))
      refine go (fun _ k => Jvm.RoadKit.acmp (g := (mkF m 80 #[.val (.int p1), .val (.int p2), .val (.int (p2 &&& (3 : Int32))), .val (.int (124 : Int32)), .val (.ref aP), .val (.ref aP)] [(.ref aP), (.ref aP)])) X21 hx rfl rfl rfl (pc0 := 80) (pc' := 83) (same := true) rfl (hb hby at_80) rfl (decide_eq_true rfl) (by decide) (by decide) k) ?_
      show G (T21.setTop (mkF m 83 #[.val (.int p1), .val (.int p2), .val (.int (p2 &&& (3 : Int32))), .val (.int (124 : Int32)), .val (.ref aP), .val (.ref aP)] []))
      refine go (fun _ k => XS.iconst X21.here hx rfl (hb hby at_83) k) ?_
      show G (T21.setTop (mkF m 84 #[.val (.int p1), .val (.int p2), .val (.int (p2 &&& (3 : Int32))), .val (.int (124 : Int32)), .val (.ref aP), .val (.ref aP)] [(.int (1 : Int32))]))
      refine go (fun _ k => XS.goto X21.here hx rfl (pc0 := 84) (pc' := 88) rfl (hb hby at_84) (by decide) (by decide) k) ?_
      show G (T21.setTop (mkF m 88 #[.val (.int p1), .val (.int p2), .val (.int (p2 &&& (3 : Int32))), .val (.int (124 : Int32)), .val (.ref aP), .val (.ref aP)] [(.int (1 : Int32))]))
      rw [hG]
      refine own_fin X21 Bd.notSynchronized (v := some (.int (1 : Int32))) (fun h => by rw [Bd.returns] at h; cases h) (fun fs hr => retOut X21 hx Bd.returns rfl (by simp [FieldType.isReference, Value.isRef]) (hb hby at_88) hr) ?_ (by decide) (by decide)
      show Q0 Z p1 p2 aC aT aP aV k h0 n0 (some (.int (1 : Int32))) T21.heap _
      exact ⟨rfl, N21⟩
    · refine go (fun _ k => XS.icmpYes X0.here hx rfl (pc0 := 16) (pc' := 25) rfl (hb hby at_16) rfl (feq hc16_17).2 (by decide) (by decide) k) ?_
      show G (s₁.setTop (mkF m 25 #[.val (.int p1), .val (.int p2), .val (.int (p2 &&& (3 : Int32))), .unset, .unset, .unset] []))
      refine go (fun _ k => XS.iloadN X0.here hx rfl (hb hby at_25) rfl k) ?_
      show G (s₁.setTop (mkF m 26 #[.val (.int p1), .val (.int p2), .val (.int (p2 &&& (3 : Int32))), .unset, .unset, .unset] [(.int (p2 &&& (3 : Int32)))]))
      refine go (fun _ k => XS.iconst X0.here hx rfl (hb hby at_26) k) ?_
      show G (s₁.setTop (mkF m 27 #[.val (.int p1), .val (.int p2), .val (.int (p2 &&& (3 : Int32))), .unset, .unset, .unset] [(.int (2 : Int32)), (.int (p2 &&& (3 : Int32)))]))
      by_cases hc27_34 : (p2 &&& (3 : Int32)) = (2 : Int32)
      · refine go (fun _ k => XS.icmpNo X0.here hx rfl (hb hby at_27) rfl (teq hc27_34).2 k) ?_
        show G (s₁.setTop (mkF m 30 #[.val (.int p1), .val (.int p2), .val (.int (p2 &&& (3 : Int32))), .unset, .unset, .unset] []))
        refine go (fun _ k => XS.bipush X0.here hx rfl (hb hby at_30) k) ?_
        show G (s₁.setTop (mkF m 32 #[.val (.int p1), .val (.int p2), .val (.int (p2 &&& (3 : Int32))), .unset, .unset, .unset] [(.int (44 : Int32))]))
        refine go (fun _ k => XS.istoreN X0.here hx rfl (hb hby at_32) rfl (l' := #[.val (.int p1), .val (.int p2), .val (.int (p2 &&& (3 : Int32))), .val (.int (44 : Int32)), .unset, .unset]) rfl k) ?_
        show G (s₁.setTop (mkF m 33 #[.val (.int p1), .val (.int p2), .val (.int (p2 &&& (3 : Int32))), .val (.int (44 : Int32)), .unset, .unset] []))
        refine go (fun _ k => XS.goto X0.here hx rfl (pc0 := 33) (pc' := 39) rfl (hb hby at_33) (by decide) (by decide) k) ?_
        show G (s₁.setTop (mkF m 39 #[.val (.int p1), .val (.int p2), .val (.int (p2 &&& (3 : Int32))), .val (.int (44 : Int32)), .unset, .unset] []))
        refine go (fun _ k => XS.iloadN X0.here hx rfl (hb hby at_39) rfl k) ?_
        show G (s₁.setTop (mkF m 40 #[.val (.int p1), .val (.int p2), .val (.int (p2 &&& (3 : Int32))), .val (.int (44 : Int32)), .unset, .unset] [(.int (44 : Int32))]))
        refine go (fun _ k => XS.bipush X0.here hx rfl (hb hby at_40) k) ?_
        show G (s₁.setTop (mkF m 42 #[.val (.int p1), .val (.int p2), .val (.int (p2 &&& (3 : Int32))), .val (.int (44 : Int32)), .unset, .unset] [(.int (9 : Int32)), (.int (44 : Int32))]))
        have hc35 : ¬ ((44 : Int32) = (9 : Int32)) := (by decide)
        refine go (fun _ k => XS.icmpYes X0.here hx rfl (pc0 := 42) (pc' := 53) rfl (hb hby at_42) rfl (feq hc35).2 (by decide) (by decide) k) ?_
        show G (s₁.setTop (mkF m 53 #[.val (.int p1), .val (.int p2), .val (.int (p2 &&& (3 : Int32))), .val (.int (44 : Int32)), .unset, .unset] []))
        refine go (fun _ k => XS.iloadN X0.here hx rfl (hb hby at_53) rfl k) ?_
        show G (s₁.setTop (mkF m 54 #[.val (.int p1), .val (.int p2), .val (.int (p2 &&& (3 : Int32))), .val (.int (44 : Int32)), .unset, .unset] [(.int (44 : Int32))]))
        refine go (fun _ k => XS.bipush X0.here hx rfl (hb hby at_54) k) ?_
        show G (s₁.setTop (mkF m 56 #[.val (.int p1), .val (.int p2), .val (.int (p2 &&& (3 : Int32))), .val (.int (44 : Int32)), .unset, .unset] [(.int (124 : Int32)), (.int (44 : Int32))]))
        have hc36 : ¬ ((44 : Int32) = (124 : Int32)) := (by decide)
        refine go (fun _ k => XS.icmpYes X0.here hx rfl (pc0 := 56) (pc' := 67) rfl (hb hby at_56) rfl (feq hc36).2 (by decide) (by decide) k) ?_
        show G (s₁.setTop (mkF m 67 #[.val (.int p1), .val (.int p2), .val (.int (p2 &&& (3 : Int32))), .val (.int (44 : Int32)), .unset, .unset] []))
        refine go (fun _ k => XS.aconstNull X0.here hx rfl (hb hby at_67) k) ?_
        show G (s₁.setTop (mkF m 68 #[.val (.int p1), .val (.int p2), .val (.int (p2 &&& (3 : Int32))), .val (.int (44 : Int32)), .unset, .unset] [.null]))
        refine go (fun _ k => XS.astore X0.here hx rfl (hb hby at_68) rfl rfl (l' := #[.val (.int p1), .val (.int p2), .val (.int (p2 &&& (3 : Int32))), .val (.int (44 : Int32)), .val .null, .unset]) rfl k) ?_
        show G (s₁.setTop (mkF m 70 #[.val (.int p1), .val (.int p2), .val (.int (p2 &&& (3 : Int32))), .val (.int (44 : Int32)), .val .null, .unset] []))
        refine go (fun _ k => XS.iloadN X0.here hx rfl (hb hby at_70) rfl k) ?_
        show G (s₁.setTop (mkF m 71 #[.val (.int p1), .val (.int p2), .val (.int (p2 &&& (3 : Int32))), .val (.int (44 : Int32)), .val .null, .unset] [(.int (44 : Int32))]))
        obtain ⟨_, _, ⟨T37, L37, k37, n37⟩, -, X37, ⟨Lc37, hQ37, l37, y37, z37⟩, st37⟩ := Jvm.LawKit.callS X0 hx (y := (⟨"com/example/terseline/terseline/Delimiter", "declaredBy", "(C)Lcom/example/terseline/terseline/Delimiter;"⟩ : MethodName)) hown (mvT hZ (hw _ (List.mem_of_getElem? (i := 0) rfl))) (mvT hZ (hw _ (List.mem_of_getElem? (i := 1) rfl))) (mvT hZ (hw _ (List.mem_of_getElem? (i := 2) rfl))) (mvT hZ (hw _ (List.mem_of_getElem? (i := 3) rfl))) (by decide) (backOf (W := 0) (rm1N l Z a0 hw [] (44 : Int32) aC aT aP aV k h0 n0 Z0 SaC EaC FaC SaT EaT FaT SaP EaP FaP SV VA EA (by decide) (by decide)) hZ (hw _ (List.mem_of_getElem? (i := 3) rfl)) (hw _ (List.mem_of_getElem? (i := 2) rfl)) (by decide) (by decide)) (g := (mkF m 71 #[.val (.int p1), .val (.int p2), .val (.int (p2 &&& (3 : Int32))), .val (.int (44 : Int32)), .val .null, .unset] [(.int (44 : Int32))])) rfl (by rw [hml]; rfl) (argsL := [(.int (44 : Int32))]) (rest := []) (lenOf pd_0_0 rfl) rfl (by show 2 * 0 + _ ≤ _; exact Nat.le_of_eq rfl) (hb hby at_71) (fun _ _ => ⟨rfl, e0, (by decide : 0 + 1 ≤ _), (by decide : 0 + 3 ≤ _)⟩)
        dsimp only [Pt.U, Pt.locs, Pt.cells, Pt.slots] at X37 l37 y37 z37 st37 hQ37
        subst l37 y37 z37
        obtain ⟨rfl, N37q, Kc37⟩ := hQ37
        have f38 := SaC.ext Kc37
        have f39 := EaC.ext Kc37
        have f40 := FaC.ext Kc37
        have f41 := SaT.ext Kc37
        have f42 := EaT.ext Kc37
        have f43 := FaT.ext Kc37
        have f44 := SaP.ext Kc37
        have f45 := EaP.ext Kc37
        have f46 := FaP.ext Kc37
        have f47 := SV.ext Kc37
        have f48 := VA.ext Kc37
        have f49 := EA.ext Kc37
        have Zs37 : n0 ≤ T37.heap.size := Nat.le_trans Z0 Kc37.1
        have N37 := Fr.app N0 N37q
        refine go st37 ?_
        show G (T37.setTop (mkF m 74 #[.val (.int p1), .val (.int p2), .val (.int (p2 &&& (3 : Int32))), .val (.int (44 : Int32)), .val .null, .unset] [.null]))
        refine go (fun _ k => XS.astore X37.here hx rfl (hb hby at_74) rfl rfl (l' := #[.val (.int p1), .val (.int p2), .val (.int (p2 &&& (3 : Int32))), .val (.int (44 : Int32)), .val .null, .val .null]) rfl k) ?_
        show G (T37.setTop (mkF m 76 #[.val (.int p1), .val (.int p2), .val (.int (p2 &&& (3 : Int32))), .val (.int (44 : Int32)), .val .null, .val .null] []))
        refine go (fun _ k => XS.aload X37.here hx rfl (hb hby at_76) rfl rfl k) ?_
        show G (T37.setTop (mkF m 78 #[.val (.int p1), .val (.int p2), .val (.int (p2 &&& (3 : Int32))), .val (.int (44 : Int32)), .val .null, .val .null] [.null]))
        refine go (fun _ k => XS.aload X37.here hx rfl (hb hby at_78) rfl rfl k) ?_
        show G (T37.setTop (mkF m 80 #[.val (.int p1), .val (.int p2), .val (.int (p2 &&& (3 : Int32))), .val (.int (44 : Int32)), .val .null, .val .null] [.null, .null]))
        refine go (fun _ k => Jvm.RoadKit.acmp (g := (mkF m 80 #[.val (.int p1), .val (.int p2), .val (.int (p2 &&& (3 : Int32))), .val (.int (44 : Int32)), .val .null, .val .null] [.null, .null])) X37 hx rfl rfl rfl (pc0 := 80) (pc' := 83) (same := true) rfl (hb hby at_80) rfl (decide_eq_true rfl) (by decide) (by decide) k) ?_
        show G (T37.setTop (mkF m 83 #[.val (.int p1), .val (.int p2), .val (.int (p2 &&& (3 : Int32))), .val (.int (44 : Int32)), .val .null, .val .null] []))
        refine go (fun _ k => XS.iconst X37.here hx rfl (hb hby at_83) k) ?_
        show G (T37.setTop (mkF m 84 #[.val (.int p1), .val (.int p2), .val (.int (p2 &&& (3 : Int32))), .val (.int (44 : Int32)), .val .null, .val .null] [(.int (1 : Int32))]))
        refine go (fun _ k => XS.goto X37.here hx rfl (pc0 := 84) (pc' := 88) rfl (hb hby at_84) (by decide) (by decide) k) ?_
        show G (T37.setTop (mkF m 88 #[.val (.int p1), .val (.int p2), .val (.int (p2 &&& (3 : Int32))), .val (.int (44 : Int32)), .val .null, .val .null] [(.int (1 : Int32))]))
        rw [hG]
        refine own_fin X37 Bd.notSynchronized (v := some (.int (1 : Int32))) (fun h => by rw [Bd.returns] at h; cases h) (fun fs hr => retOut X37 hx Bd.returns rfl (by simp [FieldType.isReference, Value.isRef]) (hb hby at_88) hr) ?_ (by decide) (by decide)
        show Q0 Z p1 p2 aC aT aP aV k h0 n0 (some (.int (1 : Int32))) T37.heap _
        exact ⟨rfl, N37⟩
      · refine go (fun _ k => XS.icmpYes X0.here hx rfl (pc0 := 27) (pc' := 36) rfl (hb hby at_27) rfl (feq hc27_34).2 (by decide) (by decide) k) ?_
        show G (s₁.setTop (mkF m 36 #[.val (.int p1), .val (.int p2), .val (.int (p2 &&& (3 : Int32))), .unset, .unset, .unset] []))
        refine go (fun _ k => XS.iloadN X0.here hx rfl (hb hby at_36) rfl k) ?_
        show G (s₁.setTop (mkF m 37 #[.val (.int p1), .val (.int p2), .val (.int (p2 &&& (3 : Int32))), .unset, .unset, .unset] [(.int p1)]))
        refine go (fun _ k => XS.i2c X0.here hx rfl (hb hby at_37) rfl k) ?_
        show G (s₁.setTop (mkF m 38 #[.val (.int p1), .val (.int p2), .val (.int (p2 &&& (3 : Int32))), .unset, .unset, .unset] [(.int (p1.toUInt32.toUInt16.toUInt32.toInt32))]))
        refine go (fun _ k => XS.istoreN X0.here hx rfl (hb hby at_38) rfl (l' := #[.val (.int p1), .val (.int p2), .val (.int (p2 &&& (3 : Int32))), .val (.int (p1.toUInt32.toUInt16.toUInt32.toInt32)), .unset, .unset]) rfl k) ?_
        show G (s₁.setTop (mkF m 39 #[.val (.int p1), .val (.int p2), .val (.int (p2 &&& (3 : Int32))), .val (.int (p1.toUInt32.toUInt16.toUInt32.toInt32)), .unset, .unset] []))
        refine go (fun _ k => XS.iloadN X0.here hx rfl (hb hby at_39) rfl k) ?_
        show G (s₁.setTop (mkF m 40 #[.val (.int p1), .val (.int p2), .val (.int (p2 &&& (3 : Int32))), .val (.int (p1.toUInt32.toUInt16.toUInt32.toInt32)), .unset, .unset] [(.int (p1.toUInt32.toUInt16.toUInt32.toInt32))]))
        refine go (fun _ k => XS.bipush X0.here hx rfl (hb hby at_40) k) ?_
        show G (s₁.setTop (mkF m 42 #[.val (.int p1), .val (.int p2), .val (.int (p2 &&& (3 : Int32))), .val (.int (p1.toUInt32.toUInt16.toUInt32.toInt32)), .unset, .unset] [(.int (9 : Int32)), (.int (p1.toUInt32.toUInt16.toUInt32.toInt32))]))
        by_cases hc42_50 : (p1.toUInt32.toUInt16.toUInt32.toInt32) = (9 : Int32)
        · refine go (fun _ k => XS.icmpNo X0.here hx rfl (hb hby at_42) rfl (teq hc42_50).2 k) ?_
          show G (s₁.setTop (mkF m 45 #[.val (.int p1), .val (.int p2), .val (.int (p2 &&& (3 : Int32))), .val (.int (p1.toUInt32.toUInt16.toUInt32.toInt32)), .unset, .unset] []))
          obtain ⟨T51, X51, e51, st51⟩ := getS2 X0 hx hZ hown (host := "") (Or.inl (hw _ (List.mem_of_getElem? (i := 31) rfl))) Via.refl e0 SaT (g := (mkF m 45 #[.val (.int p1), .val (.int p2), .val (.int (p2 &&& (3 : Int32))), .val (.int (p1.toUInt32.toUInt16.toUInt32.toInt32)), .unset, .unset] [])) rfl (hb hby at_45)
          refine go st51 ?_
          show G (T51.setTop (mkF m 48 #[.val (.int p1), .val (.int p2), .val (.int (p2 &&& (3 : Int32))), .val (.int (p1.toUInt32.toUInt16.toUInt32.toInt32)), .unset, .unset] [(.ref aT)]))
          refine go (fun _ k => XS.astore X51.here hx rfl (hb hby at_48) rfl rfl (l' := #[.val (.int p1), .val (.int p2), .val (.int (p2 &&& (3 : Int32))), .val (.int (p1.toUInt32.toUInt16.toUInt32.toInt32)), .val (.ref aT), .unset]) rfl k) ?_
          show G (T51.setTop (mkF m 50 #[.val (.int p1), .val (.int p2), .val (.int (p2 &&& (3 : Int32))), .val (.int (p1.toUInt32.toUInt16.toUInt32.toInt32)), .val (.ref aT), .unset] []))
          refine go (fun _ k => XS.goto X51.here hx rfl (pc0 := 50) (pc' := 70) rfl (hb hby at_50) (by decide) (by decide) k) ?_
          show G (T51.setTop (mkF m 70 #[.val (.int p1), .val (.int p2), .val (.int (p2 &&& (3 : Int32))), .val (.int (p1.toUInt32.toUInt16.toUInt32.toInt32)), .val (.ref aT), .unset] []))
          refine go (fun _ k => XS.iloadN X51.here hx rfl (hb hby at_70) rfl k) ?_
          show G (T51.setTop (mkF m 71 #[.val (.int p1), .val (.int p2), .val (.int (p2 &&& (3 : Int32))), .val (.int (p1.toUInt32.toUInt16.toUInt32.toInt32)), .val (.ref aT), .unset] [(.int (p1.toUInt32.toUInt16.toUInt32.toInt32))]))
          obtain ⟨_, _, ⟨T52, L52, k52, n52⟩, -, X52, ⟨Lc52, hQ52, l52, y52, z52⟩, st52⟩ := Jvm.LawKit.callS X51 hx (y := (⟨"com/example/terseline/terseline/Delimiter", "declaredBy", "(C)Lcom/example/terseline/terseline/Delimiter;"⟩ : MethodName)) hown (mvT hZ (hw _ (List.mem_of_getElem? (i := 0) rfl))) (mvT hZ (hw _ (List.mem_of_getElem? (i := 1) rfl))) (mvT hZ (hw _ (List.mem_of_getElem? (i := 2) rfl))) (mvT hZ (hw _ (List.mem_of_getElem? (i := 3) rfl))) (by decide) (backOf (W := 0) (rm1T l Z a0 hw [] (p1.toUInt32.toUInt16.toUInt32.toInt32) aC aT aP aV k h0 n0 Z0 SaC EaC FaC SaT EaT FaT SaP EaP FaP SV VA EA hc42_50) hZ (hw _ (List.mem_of_getElem? (i := 3) rfl)) (hw _ (List.mem_of_getElem? (i := 2) rfl)) (by decide) (by decide)) (g := (mkF m 71 #[.val (.int p1), .val (.int p2), .val (.int (p2 &&& (3 : Int32))), .val (.int (p1.toUInt32.toUInt16.toUInt32.toInt32)), .val (.ref aT), .unset] [(.int (p1.toUInt32.toUInt16.toUInt32.toInt32))])) rfl (by rw [hml]; rfl) (argsL := [(.int (p1.toUInt32.toUInt16.toUInt32.toInt32))]) (rest := []) (lenOf pd_0_0 rfl) rfl (by show 2 * 0 + _ ≤ _; exact Nat.le_of_eq rfl) (hb hby at_71) (fun _ _ => ⟨rfl, e51, (by decide : 0 + 1 ≤ _), (by decide : 0 + 3 ≤ _)⟩)
          dsimp only [Pt.U, Pt.locs, Pt.cells, Pt.slots] at X52 l52 y52 z52 st52 hQ52
          subst l52 y52 z52
          obtain ⟨rfl, N52q, Kc52⟩ := hQ52
          have f53 := SaC.ext Kc52
          have f54 := EaC.ext Kc52
          have f55 := FaC.ext Kc52
          have f56 := SaT.ext Kc52
          have f57 := EaT.ext Kc52
          have f58 := FaT.ext Kc52
          have f59 := SaP.ext Kc52
          have f60 := EaP.ext Kc52
          have f61 := FaP.ext Kc52
          have f62 := SV.ext Kc52
          have f63 := VA.ext Kc52
          have f64 := EA.ext Kc52
          have Zs52 : n0 ≤ T52.heap.size := Nat.le_trans Z0 Kc52.1
          have N52 := Fr.app N0 N52q
          refine go st52 ?_
          show G (T52.setTop (mkF m 74 #[.val (.int p1), .val (.int p2), .val (.int (p2 &&& (3 : Int32))), .val (.int (p1.toUInt32.toUInt16.toUInt32.toInt32)), .val (.ref aT), .unset] [(.ref aT)]))
          refine go (fun _ k => XS.astore X52.here hx rfl (hb hby at_74) rfl rfl (l' := #[.val (.int p1), .val (.int p2), .val (.int (p2 &&& (3 : Int32))), .val (.int (p1.toUInt32.toUInt16.toUInt32.toInt32)), .val (.ref aT), .val (.ref aT)]) rfl k) ?_
          show G (T52.setTop (mkF m 76 #[.val (.int p1), .val (.int p2), .val (.int (p2 &&& (3 : Int32))), .val (.int (p1.toUInt32.toUInt16.toUInt32.toInt32)), .val (.ref aT), .val (.ref aT)] []))
          refine go (fun _ k => XS.aload X52.here hx rfl (hb hby at_76) rfl rfl k) ?_
          show G (T52.setTop (mkF m 78 #[.val (.int p1), .val (.int p2), .val (.int (p2 &&& (3 : Int32))), .val (.int (p1.toUInt32.toUInt16.toUInt32.toInt32)), .val (.ref aT), .val (.ref aT)] [(.ref aT)]))
          refine go (fun _ k => XS.aload X52.here hx rfl (hb hby at_78) rfl rfl k) ?_
          show G (T52.setTop (mkF m 80 #[.val (.int p1), .val (.int p2), .val (.int (p2 &&& (3 : Int32))), .val (.int (p1.toUInt32.toUInt16.toUInt32.toInt32)), .val (.ref aT), .val (.ref aT)] [(.ref aT), (.ref aT)]))
          refine go (fun _ k => Jvm.RoadKit.acmp (g := (mkF m 80 #[.val (.int p1), .val (.int p2), .val (.int (p2 &&& (3 : Int32))), .val (.int (p1.toUInt32.toUInt16.toUInt32.toInt32)), .val (.ref aT), .val (.ref aT)] [(.ref aT), (.ref aT)])) X52 hx rfl rfl rfl (pc0 := 80) (pc' := 83) (same := true) rfl (hb hby at_80) rfl (decide_eq_true rfl) (by decide) (by decide) k) ?_
          show G (T52.setTop (mkF m 83 #[.val (.int p1), .val (.int p2), .val (.int (p2 &&& (3 : Int32))), .val (.int (p1.toUInt32.toUInt16.toUInt32.toInt32)), .val (.ref aT), .val (.ref aT)] []))
          refine go (fun _ k => XS.iconst X52.here hx rfl (hb hby at_83) k) ?_
          show G (T52.setTop (mkF m 84 #[.val (.int p1), .val (.int p2), .val (.int (p2 &&& (3 : Int32))), .val (.int (p1.toUInt32.toUInt16.toUInt32.toInt32)), .val (.ref aT), .val (.ref aT)] [(.int (1 : Int32))]))
          refine go (fun _ k => XS.goto X52.here hx rfl (pc0 := 84) (pc' := 88) rfl (hb hby at_84) (by decide) (by decide) k) ?_
          show G (T52.setTop (mkF m 88 #[.val (.int p1), .val (.int p2), .val (.int (p2 &&& (3 : Int32))), .val (.int (p1.toUInt32.toUInt16.toUInt32.toInt32)), .val (.ref aT), .val (.ref aT)] [(.int (1 : Int32))]))
          rw [hG]
          refine own_fin X52 Bd.notSynchronized (v := some (.int (1 : Int32))) (fun h => by rw [Bd.returns] at h; cases h) (fun fs hr => retOut X52 hx Bd.returns rfl (by simp [FieldType.isReference, Value.isRef]) (hb hby at_88) hr) ?_ (by decide) (by decide)
          show Q0 Z p1 p2 aC aT aP aV k h0 n0 (some (.int (1 : Int32))) T52.heap _
          exact ⟨rfl, N52⟩
        · refine go (fun _ k => XS.icmpYes X0.here hx rfl (pc0 := 42) (pc' := 53) rfl (hb hby at_42) rfl (feq hc42_50).2 (by decide) (by decide) k) ?_
          show G (s₁.setTop (mkF m 53 #[.val (.int p1), .val (.int p2), .val (.int (p2 &&& (3 : Int32))), .val (.int (p1.toUInt32.toUInt16.toUInt32.toInt32)), .unset, .unset] []))
          refine go (fun _ k => XS.iloadN X0.here hx rfl (hb hby at_53) rfl k) ?_
          show G (s₁.setTop (mkF m 54 #[.val (.int p1), .val (.int p2), .val (.int (p2 &&& (3 : Int32))), .val (.int (p1.toUInt32.toUInt16.toUInt32.toInt32)), .unset, .unset] [(.int (p1.toUInt32.toUInt16.toUInt32.toInt32))]))
          refine go (fun _ k => XS.bipush X0.here hx rfl (hb hby at_54) k) ?_
          show G (s₁.setTop (mkF m 56 #[.val (.int p1), .val (.int p2), .val (.int (p2 &&& (3 : Int32))), .val (.int (p1.toUInt32.toUInt16.toUInt32.toInt32)), .unset, .unset] [(.int (124 : Int32)), (.int (p1.toUInt32.toUInt16.toUInt32.toInt32))]))
          by_cases hc56_65 : (p1.toUInt32.toUInt16.toUInt32.toInt32) = (124 : Int32)
          · refine go (fun _ k => XS.icmpNo X0.here hx rfl (hb hby at_56) rfl (teq hc56_65).2 k) ?_
            show G (s₁.setTop (mkF m 59 #[.val (.int p1), .val (.int p2), .val (.int (p2 &&& (3 : Int32))), .val (.int (p1.toUInt32.toUInt16.toUInt32.toInt32)), .unset, .unset] []))
            obtain ⟨T66, X66, e66, st66⟩ := getS2 X0 hx hZ hown (host := "") (Or.inl (hw _ (List.mem_of_getElem? (i := 30) rfl))) Via.refl e0 SaP (g := (mkF m 59 #[.val (.int p1), .val (.int p2), .val (.int (p2 &&& (3 : Int32))), .val (.int (p1.toUInt32.toUInt16.toUInt32.toInt32)), .unset, .unset] [])) rfl (hb hby at_59)
            refine go st66 ?_
            show G (T66.setTop (mkF m 62 #[.val (.int p1), .val (.int p2), .val (.int (p2 &&& (3 : Int32))), .val (.int (p1.toUInt32.toUInt16.toUInt32.toInt32)), .unset, .unset] [(.ref aP)]))
            refine go (fun _ k => XS.astore X66.here hx rfl (hb hby at_62) rfl rfl (l' := #[.val (.int p1), .val (.int p2), .val (.int (p2 &&& (3 : Int32))), .val (.int (p1.toUInt32.toUInt16.toUInt32.toInt32)), .val (.ref aP), .unset]) rfl k) ?_
            show G (T66.setTop (mkF m 64 #[.val (.int p1), .val (.int p2), .val (.int (p2 &&& (3 : Int32))), .val (.int (p1.toUInt32.toUInt16.toUInt32.toInt32)), .val (.ref aP), .unset] []))
            refine go (fun _ k => XS.goto X66.here hx rfl (pc0 := 64) (pc' := 70) rfl (hb hby at_64) (by decide) (by decide) k) ?_
            show G (T66.setTop (mkF m 70 #[.val (.int p1), .val (.int p2), .val (.int (p2 &&& (3 : Int32))), .val (.int (p1.toUInt32.toUInt16.toUInt32.toInt32)), .val (.ref aP), .unset] []))
            refine go (fun _ k => XS.iloadN X66.here hx rfl (hb hby at_70) rfl k) ?_
            show G (T66.setTop (mkF m 71 #[.val (.int p1), .val (.int p2), .val (.int (p2 &&& (3 : Int32))), .val (.int (p1.toUInt32.toUInt16.toUInt32.toInt32)), .val (.ref aP), .unset] [(.int (p1.toUInt32.toUInt16.toUInt32.toInt32))]))
            obtain ⟨_, _, ⟨T67, L67, k67, n67⟩, -, X67, ⟨Lc67, hQ67, l67, y67, z67⟩, st67⟩ := Jvm.LawKit.callS X66 hx (y := (⟨"com/example/terseline/terseline/Delimiter", "declaredBy", "(C)Lcom/example/terseline/terseline/Delimiter;"⟩ : MethodName)) hown (mvT hZ (hw _ (List.mem_of_getElem? (i := 0) rfl))) (mvT hZ (hw _ (List.mem_of_getElem? (i := 1) rfl))) (mvT hZ (hw _ (List.mem_of_getElem? (i := 2) rfl))) (mvT hZ (hw _ (List.mem_of_getElem? (i := 3) rfl))) (by decide) (backOf (W := 0) (rm1P l Z a0 hw [] (p1.toUInt32.toUInt16.toUInt32.toInt32) aC aT aP aV k h0 n0 Z0 SaC EaC FaC SaT EaT FaT SaP EaP FaP SV VA EA hc56_65) hZ (hw _ (List.mem_of_getElem? (i := 3) rfl)) (hw _ (List.mem_of_getElem? (i := 2) rfl)) (by decide) (by decide)) (g := (mkF m 71 #[.val (.int p1), .val (.int p2), .val (.int (p2 &&& (3 : Int32))), .val (.int (p1.toUInt32.toUInt16.toUInt32.toInt32)), .val (.ref aP), .unset] [(.int (p1.toUInt32.toUInt16.toUInt32.toInt32))])) rfl (by rw [hml]; rfl) (argsL := [(.int (p1.toUInt32.toUInt16.toUInt32.toInt32))]) (rest := []) (lenOf pd_0_0 rfl) rfl (by show 2 * 0 + _ ≤ _; exact Nat.le_of_eq rfl) (hb hby at_71) (fun _ _ => ⟨rfl, e66, (by decide : 0 + 1 ≤ _), (by decide : 0 + 3 ≤ _)⟩)
            dsimp only [Pt.U, Pt.locs, Pt.cells, Pt.slots] at X67 l67 y67 z67 st67 hQ67
            subst l67 y67 z67
            obtain ⟨rfl, N67q, Kc67⟩ := hQ67
            have f68 := SaC.ext Kc67
            have f69 := EaC.ext Kc67
            have f70 := FaC.ext Kc67
            have f71 := SaT.ext Kc67
            have f72 := EaT.ext Kc67
            have f73 := FaT.ext Kc67
            have f74 := SaP.ext Kc67
            have f75 := EaP.ext Kc67
            have f76 := FaP.ext Kc67
            have f77 := SV.ext Kc67
            have f78 := VA.ext Kc67
            have f79 := EA.ext Kc67
            have Zs67 : n0 ≤ T67.heap.size := Nat.le_trans Z0 Kc67.1
            have N67 := Fr.app N0 N67q
            refine go st67 ?_
            show G (T67.setTop (mkF m 74 #[.val (.int p1), .val (.int p2), .val (.int (p2 &&& (3 : Int32))), .val (.int (p1.toUInt32.toUInt16.toUInt32.toInt32)), .val (.ref aP), .unset] [(.ref aP)]))
            refine go (fun _ k => XS.astore X67.here hx rfl (hb hby at_74) rfl rfl (l' := #[.val (.int p1), .val (.int p2), .val (.int (p2 &&& (3 : Int32))), .val (.int (p1.toUInt32.toUInt16.toUInt32.toInt32)), .val (.ref aP), .val (.ref aP)]) rfl k) ?_
            show G (T67.setTop (mkF m 76 #[.val (.int p1), .val (.int p2), .val (.int (p2 &&& (3 : Int32))), .val (.int (p1.toUInt32.toUInt16.toUInt32.toInt32)), .val (.ref aP), .val (.ref aP)] []))
            refine go (fun _ k => XS.aload X67.here hx rfl (hb hby at_76) rfl rfl k) ?_
            show G (T67.setTop (mkF m 78 #[.val (.int p1), .val (.int p2), .val (.int (p2 &&& (3 : Int32))), .val (.int (p1.toUInt32.toUInt16.toUInt32.toInt32)), .val (.ref aP), .val (.ref aP)] [(.ref aP)]))
            refine go (fun _ k => XS.aload X67.here hx rfl (hb hby at_78) rfl rfl k) ?_
            show G (T67.setTop (mkF m 80 #[.val (.int p1), .val (.int p2), .val (.int (p2 &&& (3 : Int32))), .val (.int (p1.toUInt32.toUInt16.toUInt32.toInt32)), .val (.ref aP), .val (.ref aP)] [(.ref aP), (.ref aP)]))
            refine go (fun _ k => Jvm.RoadKit.acmp (g := (mkF m 80 #[.val (.int p1), .val (.int p2), .val (.int (p2 &&& (3 : Int32))), .val (.int (p1.toUInt32.toUInt16.toUInt32.toInt32)), .val (.ref aP), .val (.ref aP)] [(.ref aP), (.ref aP)])) X67 hx rfl rfl rfl (pc0 := 80) (pc' := 83) (same := true) rfl (hb hby at_80) rfl (decide_eq_true rfl) (by decide) (by decide) k) ?_
            show G (T67.setTop (mkF m 83 #[.val (.int p1), .val (.int p2), .val (.int (p2 &&& (3 : Int32))), .val (.int (p1.toUInt32.toUInt16.toUInt32.toInt32)), .val (.ref aP), .val (.ref aP)] []))
            refine go (fun _ k => XS.iconst X67.here hx rfl (hb hby at_83) k) ?_
            show G (T67.setTop (mkF m 84 #[.val (.int p1), .val (.int p2), .val (.int (p2 &&& (3 : Int32))), .val (.int (p1.toUInt32.toUInt16.toUInt32.toInt32)), .val (.ref aP), .val (.ref aP)] [(.int (1 : Int32))]))
            refine go (fun _ k => XS.goto X67.here hx rfl (pc0 := 84) (pc' := 88) rfl (hb hby at_84) (by decide) (by decide) k) ?_
            show G (T67.setTop (mkF m 88 #[.val (.int p1), .val (.int p2), .val (.int (p2 &&& (3 : Int32))), .val (.int (p1.toUInt32.toUInt16.toUInt32.toInt32)), .val (.ref aP), .val (.ref aP)] [(.int (1 : Int32))]))
            rw [hG]
            refine own_fin X67 Bd.notSynchronized (v := some (.int (1 : Int32))) (fun h => by rw [Bd.returns] at h; cases h) (fun fs hr => retOut X67 hx Bd.returns rfl (by simp [FieldType.isReference, Value.isRef]) (hb hby at_88) hr) ?_ (by decide) (by decide)
            show Q0 Z p1 p2 aC aT aP aV k h0 n0 (some (.int (1 : Int32))) T67.heap _
            exact ⟨rfl, N67⟩
          · refine go (fun _ k => XS.icmpYes X0.here hx rfl (pc0 := 56) (pc' := 67) rfl (hb hby at_56) rfl (feq hc56_65).2 (by decide) (by decide) k) ?_
            show G (s₁.setTop (mkF m 67 #[.val (.int p1), .val (.int p2), .val (.int (p2 &&& (3 : Int32))), .val (.int (p1.toUInt32.toUInt16.toUInt32.toInt32)), .unset, .unset] []))
            refine go (fun _ k => XS.aconstNull X0.here hx rfl (hb hby at_67) k) ?_
            show G (s₁.setTop (mkF m 68 #[.val (.int p1), .val (.int p2), .val (.int (p2 &&& (3 : Int32))), .val (.int (p1.toUInt32.toUInt16.toUInt32.toInt32)), .unset, .unset] [.null]))
            refine go (fun _ k => XS.astore X0.here hx rfl (hb hby at_68) rfl rfl (l' := #[.val (.int p1), .val (.int p2), .val (.int (p2 &&& (3 : Int32))), .val (.int (p1.toUInt32.toUInt16.toUInt32.toInt32)), .val .null, .unset]) rfl k) ?_
            show G (s₁.setTop (mkF m 70 #[.val (.int p1), .val (.int p2), .val (.int (p2 &&& (3 : Int32))), .val (.int (p1.toUInt32.toUInt16.toUInt32.toInt32)), .val .null, .unset] []))
            refine go (fun _ k => XS.iloadN X0.here hx rfl (hb hby at_70) rfl k) ?_
            show G (s₁.setTop (mkF m 71 #[.val (.int p1), .val (.int p2), .val (.int (p2 &&& (3 : Int32))), .val (.int (p1.toUInt32.toUInt16.toUInt32.toInt32)), .val .null, .unset] [(.int (p1.toUInt32.toUInt16.toUInt32.toInt32))]))
            obtain ⟨_, _, ⟨T80, L80, k80, n80⟩, -, X80, ⟨Lc80, hQ80, l80, y80, z80⟩, st80⟩ := Jvm.LawKit.callS X0 hx (y := (⟨"com/example/terseline/terseline/Delimiter", "declaredBy", "(C)Lcom/example/terseline/terseline/Delimiter;"⟩ : MethodName)) hown (mvT hZ (hw _ (List.mem_of_getElem? (i := 0) rfl))) (mvT hZ (hw _ (List.mem_of_getElem? (i := 1) rfl))) (mvT hZ (hw _ (List.mem_of_getElem? (i := 2) rfl))) (mvT hZ (hw _ (List.mem_of_getElem? (i := 3) rfl))) (by decide) (backOf (W := 0) (rm1N l Z a0 hw [] (p1.toUInt32.toUInt16.toUInt32.toInt32) aC aT aP aV k h0 n0 Z0 SaC EaC FaC SaT EaT FaT SaP EaP FaP SV VA EA hc42_50 hc56_65) hZ (hw _ (List.mem_of_getElem? (i := 3) rfl)) (hw _ (List.mem_of_getElem? (i := 2) rfl)) (by decide) (by decide)) (g := (mkF m 71 #[.val (.int p1), .val (.int p2), .val (.int (p2 &&& (3 : Int32))), .val (.int (p1.toUInt32.toUInt16.toUInt32.toInt32)), .val .null, .unset] [(.int (p1.toUInt32.toUInt16.toUInt32.toInt32))])) rfl (by rw [hml]; rfl) (argsL := [(.int (p1.toUInt32.toUInt16.toUInt32.toInt32))]) (rest := []) (lenOf pd_0_0 rfl) rfl (by show 2 * 0 + _ ≤ _; exact Nat.le_of_eq rfl) (hb hby at_71) (fun _ _ => ⟨rfl, e0, (by decide : 0 + 1 ≤ _), (by decide : 0 + 3 ≤ _)⟩)
            dsimp only [Pt.U, Pt.locs, Pt.cells, Pt.slots] at X80 l80 y80 z80 st80 hQ80
            subst l80 y80 z80
            obtain ⟨rfl, N80q, Kc80⟩ := hQ80
            have f81 := SaC.ext Kc80
            have f82 := EaC.ext Kc80
            have f83 := FaC.ext Kc80
            have f84 := SaT.ext Kc80
            have f85 := EaT.ext Kc80
            have f86 := FaT.ext Kc80
            have f87 := SaP.ext Kc80
            have f88 := EaP.ext Kc80
            have f89 := FaP.ext Kc80
            have f90 := SV.ext Kc80
            have f91 := VA.ext Kc80
            have f92 := EA.ext Kc80
            have Zs80 : n0 ≤ T80.heap.size := Nat.le_trans Z0 Kc80.1
            have N80 := Fr.app N0 N80q
            refine go st80 ?_
            show G (T80.setTop (mkF m 74 #[.val (.int p1), .val (.int p2), .val (.int (p2 &&& (3 : Int32))), .val (.int (p1.toUInt32.toUInt16.toUInt32.toInt32)), .val .null, .unset] [.null]))
            refine go (fun _ k => XS.astore X80.here hx rfl (hb hby at_74) rfl rfl (l' := #[.val (.int p1), .val (.int p2), .val (.int (p2 &&& (3 : Int32))), .val (.int (p1.toUInt32.toUInt16.toUInt32.toInt32)), .val .null, .val .null]) rfl k) ?_
            show G (T80.setTop (mkF m 76 #[.val (.int p1), .val (.int p2), .val (.int (p2 &&& (3 : Int32))), .val (.int (p1.toUInt32.toUInt16.toUInt32.toInt32)), .val .null, .val .null] []))
            refine go (fun _ k => XS.aload X80.here hx rfl (hb hby at_76) rfl rfl k) ?_
            show G (T80.setTop (mkF m 78 #[.val (.int p1), .val (.int p2), .val (.int (p2 &&& (3 : Int32))), .val (.int (p1.toUInt32.toUInt16.toUInt32.toInt32)), .val .null, .val .null] [.null]))
            refine go (fun _ k => XS.aload X80.here hx rfl (hb hby at_78) rfl rfl k) ?_
            show G (T80.setTop (mkF m 80 #[.val (.int p1), .val (.int p2), .val (.int (p2 &&& (3 : Int32))), .val (.int (p1.toUInt32.toUInt16.toUInt32.toInt32)), .val .null, .val .null] [.null, .null]))
            refine go (fun _ k => Jvm.RoadKit.acmp (g := (mkF m 80 #[.val (.int p1), .val (.int p2), .val (.int (p2 &&& (3 : Int32))), .val (.int (p1.toUInt32.toUInt16.toUInt32.toInt32)), .val .null, .val .null] [.null, .null])) X80 hx rfl rfl rfl (pc0 := 80) (pc' := 83) (same := true) rfl (hb hby at_80) rfl (decide_eq_true rfl) (by decide) (by decide) k) ?_
            show G (T80.setTop (mkF m 83 #[.val (.int p1), .val (.int p2), .val (.int (p2 &&& (3 : Int32))), .val (.int (p1.toUInt32.toUInt16.toUInt32.toInt32)), .val .null, .val .null] []))
            refine go (fun _ k => XS.iconst X80.here hx rfl (hb hby at_83) k) ?_
            show G (T80.setTop (mkF m 84 #[.val (.int p1), .val (.int p2), .val (.int (p2 &&& (3 : Int32))), .val (.int (p1.toUInt32.toUInt16.toUInt32.toInt32)), .val .null, .val .null] [(.int (1 : Int32))]))
            refine go (fun _ k => XS.goto X80.here hx rfl (pc0 := 84) (pc' := 88) rfl (hb hby at_84) (by decide) (by decide) k) ?_
            show G (T80.setTop (mkF m 88 #[.val (.int p1), .val (.int p2), .val (.int (p2 &&& (3 : Int32))), .val (.int (p1.toUInt32.toUInt16.toUInt32.toInt32)), .val .null, .val .null] [(.int (1 : Int32))]))
            rw [hG]
            refine own_fin X80 Bd.notSynchronized (v := some (.int (1 : Int32))) (fun h => by rw [Bd.returns] at h; cases h) (fun fs hr => retOut X80 hx Bd.returns rfl (by simp [FieldType.isReference, Value.isRef]) (hb hby at_88) hr) ?_ (by decide) (by decide)
            show Q0 Z p1 p2 aC aT aP aV k h0 n0 (some (.int (1 : Int32))) T80.heap _
            exact ⟨rfl, N80⟩

set_option maxRecDepth 65536 in
set_option maxHeartbeats 40000000 in
theorem comes_1 {Post : Tables → Env → Array Value → State → Outcome → State → Prop} (hpost : ∀ tb e args s v u, (limb_1_1.after args s (.returned v) u = true ∧ limb_1_2.after args s (.returned v) u = true ∧ True) → FrameEnd s (.returned v) u (Jvm.fieldLocs frame_1_writes args s ++ Jvm.arrayLocs frame_1_arrays args s ++ Jvm.staticLocs frame_1_statics s) 16 128 → Post tb e args s (.returned v) u) :
    ArmFor flags0 classFile x code maxLocals ret World_1 tables_1 room_1 Calls_1 rest_1 Pre_1 Post := by
  intro l hfl _ _ p e ha hc hk s m args below hf hA hF happ hP
  obtain ⟨hcalls, hrest, hpre⟩ := hP
  obtain ⟨-, -, -, hnamed, -, -, -, hat⟩ := (Spec.applies_iff hf).mp happ
  obtain ⟨hg, hn⟩ := and_e (Cond.before_iff.mp (show (Jvm.Cond.and given_1 narrow_1).before args s = true from hpre))
  obtain ⟨g2, g3⟩ := and_e hg
  obtain ⟨g4, g5⟩ := and_e g3
  obtain ⟨w0, w1, rfl⟩ : ∃ w0 w1 : Value, args = #[w0, w1] := by
    have hs : args.size = 2 := by simpa [Cond.value, given_1] using g2
    obtain ⟨L⟩ := args
    match L, hs with
    | [w0, w1], _ => exact ⟨w0, w1, rfl⟩
  have hw := fun d (hd : d ∈ tables_1) => atoms_spec (ws := Jvm.Cond.code x code maxLocals ret :: tables_1) hat d (List.mem_cons_of_mem _ hd)
  have hfit : Fit s := fun {y c} hc i hi => by
    obtain ⟨ha, rfl⟩ := Array.getElem?_eq_some_iff.mp hc
    have q := List.all_eq_true.mp ((Array.all_eq_true_iff_forall_mem.mp hF) _ (Array.getElem_mem ha)) i (List.mem_range.mpr hi)
    simpa [Array.getElem?_eq_getElem hi] using q
  obtain ⟨i0, ei0⟩ := is_v g4
  obtain rfl : w0 = (.int i0) := Option.some.inj ei0
  obtain ⟨i1, ei1⟩ := is_v g5
  obtain rfl : w1 = (.int i1) := Option.some.inj ei1
  obtain ⟨y2, y3⟩ := and_e hn
  obtain ⟨y4, y5⟩ := and_e y3
  obtain ⟨y6, y7⟩ := and_e y5
  obtain ⟨y8, y9⟩ := and_e y7
  obtain ⟨y10, y11⟩ := and_e y9
  obtain ⟨y12, y13⟩ := and_e y11
  obtain ⟨y14, y15⟩ := and_e y13
  obtain ⟨y16, y17⟩ := and_e y15
  obtain ⟨y18, y19⟩ := and_e y17
  obtain ⟨y20, y21⟩ := and_e y19
  obtain ⟨y22, y23⟩ := and_e y21
  obtain ⟨y24, y25⟩ := and_e y23
  obtain ⟨y26, y27⟩ := and_e y25
  obtain ⟨y28, y29⟩ := and_e y27
  obtain ⟨aC, evaC⟩ := exa_v y8
  have EaC := Exa.start evaC y8
  have FaC := own_fld evaC y29
  have SaC := Sta.start evaC (Or.inr ⟨(hw _ (List.mem_of_getElem? (i := 2) rfl)), (hw _ (List.mem_of_getElem? (i := 16) rfl))⟩)
  obtain ⟨aT, evaT⟩ := exa_v y12
  have EaT := Exa.start evaT y12
  have FaT := own_fld evaT y24
  have SaT := Sta.start evaT (Or.inr ⟨(hw _ (List.mem_of_getElem? (i := 2) rfl)), (hw _ (List.mem_of_getElem? (i := 17) rfl))⟩)
  obtain ⟨aP, evaP⟩ := exa_v y16
  have EaP := Exa.start evaP y16
  have FaP := own_fld evaP y28
  have SaP := Sta.start evaP (Or.inr ⟨(hw _ (List.mem_of_getElem? (i := 2) rfl)), (hw _ (List.mem_of_getElem? (i := 18) rfl))⟩)
  obtain ⟨aV, evV⟩ := exa_v y4
  have EA := Exa.start evV y4
  have SV := Sta.start evV (Or.inl (hw _ (List.mem_of_getElem? (i := 19) rfl)))
  obtain ⟨cV, AV⟩ := Arr.start evV y2
  have lenV := own_eqint y6
  have el0 := own_eqref y10 evaC
  have el1 := own_eqref y14 evaT
  have el2 := own_eqref y18 evaP
  have VA := own_arv3 hfit AV evV lenV el0 el1 el2
  obtain ⟨n, o, h1, h2, h3, _, L, rfl, ⟨rfl, N⟩, hq⟩ := rm0 l s _ hw tables_1 i0 i1 aC aT aP aV _ s.heap s.heap.size (Nat.le_refl _) SaC EaC FaC SaT EaT FaT SaP EaP FaP SV VA EA p e ha hc hk s m _ below hf ((Spec.applies_iff_loose hf).mp happ).1 ⟨rfl, State.Warmed39.refl s, rfl⟩ trivial
  refine ⟨n, _, h1, h2, h3, hpost _ _ _ _ _ _ ⟨Cond.after_iff.mpr rfl, Cond.after_iff.mpr (eq_i res_at (Term.int_eval (1)) rfl), trivial⟩ ⟨hq.1, hq.2.1, (hq.2.2.sift fun y hy => Or.inr (N y hy)).mono (by decide) (by decide)⟩⟩
theorem main_1_1 : Claimed_1_1 := comes_1 fun _ _ _ _ _ _ h hF => ⟨h.1, hF⟩
theorem main_1_2 : Claimed_1_2 := comes_1 fun _ _ _ _ _ _ h hF => ⟨h.2.1, hF⟩
end Jvm.Pilot.@@N@@
namespace Jvm.Pilot.@@N@@
open Jvm Jvm.ClassFile Sem Op Lib Jvm.Free Jvm.Stand Jvm.Pilot.@@N@@.Jvm.D
/-! MADE BY PROGRAM (witnessworld.py) out of the Statement's table words and the real class files: 13 classes; the members and pool entries that the words name. The judged class is class 1, her method 1. -/
namespace start1
open Jvm.ClassFile
def u (s : String) : CpInfo := .utf8 (stringToUtf16 s)
/-- a pool by its gaps: so many unusable entries, then the entry; so many at the end -/
def gap : Nat → List CpInfo → List CpInfo
  | 0, r => r
  | n + 1, r => .unusable :: gap n r
def poolList (es : List (Nat × CpInfo)) (last : Nat) : List CpInfo := es.foldr (fun e r => gap e.1 (e.2 :: r)) (gap last [])
def pool (es : List (Nat × CpInfo)) (last : Nat) : Array CpInfo := ⟨poolList es last⟩
def fileOf (pool : Array CpInfo) (this : Nat) (attrs : Array Attribute := #[]) (ms : Array MethodInfo := #[]) (fl : Nat := 33) (sup : Nat := 0) (ifs : Array Nat := #[]) (fds : Array FieldInfo := #[]) : ClassFile where
  minorVersion := 0
  majorVersion := 65
  constantPool := pool
  accessFlags := fl
  thisClass := this
  superClass := sup
  interfaces := ifs
  fields := fds
  methods := ms
  attributes := attrs
def plain (name : String) (sup : Option ClassId) : Class where
  name := name
  kind := .ordinary
  loader := none
  accessFlags := 33
  super := sup
  interfaces := #[]
  cf := none
  fields := #[]
  methods := #[]
  instanceTypes := #[]
  staticTypes := #[]
  resolved := #[]
  callSites := []
  init := .initialized
  statics := none
  mirror := none

def pool0 : Array CpInfo := pool [(5, u "<init>"), (0, u "()V"), (1, .class_ 10), (1, u "java/lang/Object"), (85, u "clone"), (0, u "()Ljava/lang/Object;")] 26

def k0m0 : Method := { name := "<init>", desc := "()V", sig := { parameters := [], returnType := none }, accessFlags := 1, code := none }
def k0m1 : Method := { name := "clone", desc := "()Ljava/lang/Object;", sig := { parameters := [], returnType := some (.object "java/lang/Object") }, accessFlags := 260, code := none }
/-- java/lang/Object -/
def k0 : Class := { plain "java/lang/Object" none with
  accessFlags := 33
  interfaces := #[]
  cf := some (fileOf pool0 8 #[] #[{ accessFlags := 1, nameIndex := 5, descriptorIndex := 6, attributes := #[] }, { accessFlags := 260, nameIndex := 96, descriptorIndex := 97, attributes := #[] }] 33 0 #[] #[])
  fields := #[]
  methods := #[k0m0, k0m1]
  instanceTypes := #[]
  staticTypes := #[]
  resolved := Array.replicate 124 none
  statics := none }

def pool1 : Array CpInfo := pool [(2, .class_ 4), (1, u "java/lang/Object"), (0, u "<init>"), (0, u "()V"), (0, .fieldref 8 9), (0, .class_ 10), (0, .nameAndType 11 12), (0, u "com/example/terseline/terseline/Delimiter"), (0, u "TAB"), (0, u "Lcom/example/terseline/terseline/Delimiter;"), (0, .fieldref 8 14), (0, .nameAndType 15 12), (0, u "PIPE"), (0, .methodref 8 17), (0, .nameAndType 18 19), (0, u "declaredBy"), (0, u "(C)Lcom/example/terseline/terseline/Delimiter;"), (0, .class_ 21), (0, u "com/example/terseline/terseline/DelimiterDeclaredByPinLaw"), (2, u "law"), (0, u "(II)Z")] 3

def k1m0 : Method := { name := "<init>", desc := "()V", sig := { parameters := [], returnType := none }, accessFlags := 1, code := none }
def k1c1 : Code := { maxStack := 2, maxLocals := 6, code := code, exceptionTable := #[], attributes := #[] }
def k1m1 : Method := { name := "law", desc := "(II)Z", sig := { parameters := [.int, .int], returnType := some .boolean }, accessFlags := 9, code := some k1c1 }
/-- com/example/terseline/terseline/DelimiterDeclaredByPinLaw -/
def k1 : Class := { plain "com/example/terseline/terseline/DelimiterDeclaredByPinLaw" (some 0) with
  accessFlags := 49
  interfaces := #[]
  cf := some (fileOf pool1 20 #[] #[{ accessFlags := 1, nameIndex := 5, descriptorIndex := 6, attributes := #[] }, { accessFlags := 9, nameIndex := 24, descriptorIndex := 25, attributes := #[] }] 49 2 #[] #[])
  fields := #[]
  methods := #[k1m0, k1m1]
  instanceTypes := #[]
  staticTypes := #[]
  resolved := Array.replicate 29 none
  statics := none }

def pool2 : Array CpInfo := pool [(1, .class_ 2), (0, u "java/lang/constant/Constable"), (0, .class_ 4), (0, u "java/lang/Object")] 6

/-- java/lang/constant/Constable -/
def k2 : Class := { plain "java/lang/constant/Constable" (some 0) with
  accessFlags := 1537
  interfaces := #[]
  cf := some (fileOf pool2 1 #[] #[] 1537 3 #[] #[])
  fields := #[]
  methods := #[]
  instanceTypes := #[]
  staticTypes := #[]
  resolved := Array.replicate 11 none
  statics := none }

def pool3 : Array CpInfo := pool [(1, .class_ 2), (0, u "java/lang/Comparable"), (0, .class_ 4), (0, u "java/lang/Object")] 7

/-- java/lang/Comparable -/
def k3 : Class := { plain "java/lang/Comparable" (some 0) with
  accessFlags := 1537
  interfaces := #[]
  cf := some (fileOf pool3 1 #[] #[] 1537 3 #[] #[])
  fields := #[]
  methods := #[]
  instanceTypes := #[]
  staticTypes := #[]
  resolved := Array.replicate 12 none
  statics := none }

def pool4 : Array CpInfo := pool [(1, .class_ 2), (0, u "java/io/Serializable"), (0, .class_ 4), (0, u "java/lang/Object")] 2

/-- java/io/Serializable -/
def k4 : Class := { plain "java/io/Serializable" (some 0) with
  accessFlags := 1537
  interfaces := #[]
  cf := some (fileOf pool4 1 #[] #[] 1537 3 #[] #[])
  fields := #[]
  methods := #[]
  instanceTypes := #[]
  staticTypes := #[]
  resolved := Array.replicate 7 none
  statics := none }

def pool5 : Array CpInfo := pool [(2, .class_ 4), (1, u "java/lang/Enum"), (0, u "name"), (0, u "Ljava/lang/String;"), (2, u "ordinal"), (0, u "I"), (1, .class_ 14), (1, u "java/lang/Object"), (4, u "hash"), (86, .class_ 108), (1, u "java/lang/Enum$EnumDesc"), (2, .class_ 112), (0, u "java/lang/constant/Constable"), (0, .class_ 114), (0, u "java/lang/Comparable"), (0, .class_ 116), (0, u "java/io/Serializable")] 87

/-- java/lang/Enum -/
def k5 : Class := { plain "java/lang/Enum" (some 0) with
  accessFlags := 1057
  interfaces := #[2, 3, 4]
  cf := some (fileOf pool5 2 #[.nestMembers #[106]] #[] 1057 12 #[111, 113, 115] #[{ accessFlags := 18, nameIndex := 5, descriptorIndex := 6, attributes := #[] }, { accessFlags := 18, nameIndex := 9, descriptorIndex := 10, attributes := #[] }, { accessFlags := 2, nameIndex := 19, descriptorIndex := 10, attributes := #[] }])
  fields := #[{ name := "name", type := (.object "java/lang/String"), accessFlags := 18, slot := 0, constantValue := 0 }, { name := "ordinal", type := .int, accessFlags := 18, slot := 1, constantValue := 0 }, { name := "hash", type := .int, accessFlags := 2, slot := 2, constantValue := 0 }]
  methods := #[]
  instanceTypes := #[(.object "java/lang/String"), .int, .int]
  staticTypes := #[]
  resolved := Array.replicate 204 none
  statics := none }

def pool6 : Array CpInfo := pool [(1, .class_ 2), (0, u "com/example/terseline/terseline/Delimiter"), (0, .fieldref 1 4), (0, .nameAndType 5 6), (0, u "COMMA"), (0, u "Lcom/example/terseline/terseline/Delimiter;"), (2, u "TAB"), (2, u "PIPE"), (0, .fieldref 1 14), (0, .nameAndType 15 16), (0, u "$VALUES"), (0, u "[Lcom/example/terseline/terseline/Delimiter;"), (0, .methodref 18 19), (0, .class_ 16), (0, .nameAndType 20 21), (0, u "clone"), (0, u "()Ljava/lang/Object;"), (1, .class_ 25), (1, u "java/lang/Enum"), (6, .fieldref 1 33), (0, .nameAndType 34 35), (0, u "character"), (0, u "C"), (0, .methodref 1 37), (0, .nameAndType 38 39), (0, u "values"), (0, u "()[Lcom/example/terseline/terseline/Delimiter;"), (0, .methodref 1 41), (0, .nameAndType 42 43), (0, u "isMarked"), (0, u "()Z"), (17, u "declaredBy"), (0, u "(C)Lcom/example/terseline/terseline/Delimiter;")] 5

def k6c0 : Code := { maxStack := 1, maxLocals := 0, code := prog_11_method_1_code, exceptionTable := #[], attributes := #[] }
def k6m0 : Method := { name := "values", desc := "()[Lcom/example/terseline/terseline/Delimiter;", sig := { parameters := [], returnType := some (.array (.object "com/example/terseline/terseline/Delimiter")) }, accessFlags := 9, code := some k6c0 }
def k6c1 : Code := { maxStack := 2, maxLocals := 1, code := prog_11_method_5_code, exceptionTable := #[], attributes := #[] }
def k6m1 : Method := { name := "isMarked", desc := "()Z", sig := { parameters := [], returnType := some .boolean }, accessFlags := 0, code := some k6c1 }
def k6c2 : Code := { maxStack := 2, maxLocals := 6, code := prog_11_method_6_code, exceptionTable := #[], attributes := #[] }
def k6m2 : Method := { name := "declaredBy", desc := "(C)Lcom/example/terseline/terseline/Delimiter;", sig := { parameters := [.char], returnType := some (.object "com/example/terseline/terseline/Delimiter") }, accessFlags := 8, code := some k6c2 }
/-- com/example/terseline/terseline/Delimiter -/
def k6 : Class := { plain "com/example/terseline/terseline/Delimiter" (some 5) with
  accessFlags := 16433
  interfaces := #[]
  cf := some (fileOf pool6 1 #[] #[{ accessFlags := 9, nameIndex := 38, descriptorIndex := 39, attributes := #[] }, { accessFlags := 0, nameIndex := 42, descriptorIndex := 43, attributes := #[] }, { accessFlags := 8, nameIndex := 61, descriptorIndex := 62, attributes := #[] }] 16433 23 #[] #[{ accessFlags := 16409, nameIndex := 5, descriptorIndex := 6, attributes := #[] }, { accessFlags := 16409, nameIndex := 9, descriptorIndex := 6, attributes := #[] }, { accessFlags := 16409, nameIndex := 12, descriptorIndex := 6, attributes := #[] }, { accessFlags := 18, nameIndex := 34, descriptorIndex := 35, attributes := #[] }, { accessFlags := 4122, nameIndex := 15, descriptorIndex := 16, attributes := #[] }])
  fields := #[{ name := "COMMA", type := (.object "com/example/terseline/terseline/Delimiter"), accessFlags := 16409, slot := 0, constantValue := 0 }, { name := "TAB", type := (.object "com/example/terseline/terseline/Delimiter"), accessFlags := 16409, slot := 1, constantValue := 0 }, { name := "PIPE", type := (.object "com/example/terseline/terseline/Delimiter"), accessFlags := 16409, slot := 2, constantValue := 0 }, { name := "character", type := .char, accessFlags := 18, slot := 3, constantValue := 0 }, { name := "$VALUES", type := (.array (.object "com/example/terseline/terseline/Delimiter")), accessFlags := 4122, slot := 3, constantValue := 0 }]
  methods := #[k6m0, k6m1, k6m2]
  instanceTypes := #[(.object "java/lang/String"), .int, .int, .char]
  staticTypes := #[(.object "com/example/terseline/terseline/Delimiter"), (.object "com/example/terseline/terseline/Delimiter"), (.object "com/example/terseline/terseline/Delimiter"), (.array (.object "com/example/terseline/terseline/Delimiter"))]
  resolved := Array.replicate 68 none
  statics := some 0 }

def pool7 : Array CpInfo := pool [(1, .class_ 2), (0, u "java/lang/Cloneable"), (0, .class_ 4), (0, u "java/lang/Object")] 2

/-- java/lang/Cloneable -/
def k7 : Class := { plain "java/lang/Cloneable" (some 0) with
  accessFlags := 1537
  interfaces := #[]
  cf := some (fileOf pool7 1 #[] #[] 1537 3 #[] #[])
  fields := #[]
  methods := #[]
  instanceTypes := #[]
  staticTypes := #[]
  resolved := Array.replicate 7 none
  statics := none }

/-- the primitive byte -/
def k8 : Class := { plain "byte" none with kind := .primitive 'B', accessFlags := 0x411 }
/-- [B -/
def k9 : Class := { plain "[B" (some 0) with kind := .array 8 .byte, interfaces := #[7, 4], accessFlags := 1041 }

/-- the primitive int -/
def k10 : Class := { plain "int" none with kind := .primitive 'I', accessFlags := 0x411 }
/-- [I -/
def k11 : Class := { plain "[I" (some 0) with kind := .array 10 .int, interfaces := #[7, 4], accessFlags := 1041 }

/-- [Lcom/example/terseline/terseline/Delimiter; -/
def k12 : Class := { plain "[Lcom/example/terseline/terseline/Delimiter;" (some 0) with kind := .array 6 (.object "com/example/terseline/terseline/Delimiter"), interfaces := #[7, 4], accessFlags := 1041 }

def heap : Heap := #[{ cls := 6, slots := #[.ref 2, .ref 3, .ref 4, .ref 1], vm := .statics 6 },
  { cls := 12, slots := #[.ref 2, .ref 3, .ref 4], vm := .none },
  { cls := 6, slots := #[.null, .int 0, .int 0, .int 44], vm := .none },
  { cls := 6, slots := #[.null, .int 1, .int 0, .int 9], vm := .none },
  { cls := 6, slots := #[.null, .int 2, .int 0, .int 124], vm := .none }]
def classes : Array Class := #[k0, k1, k2, k3, k4, k5, k6, k7, k8, k9, k10, k11, k12]
def interned : List (Array UInt16 × Addr) := []
def slotsUsed : Nat := 19
def theMethod : MethodId := ⟨1, 1⟩
def args0 : Array Value := #[.int 5, .int 3]
def aboutOver (below : List Frame) : State where
  vm := { classes := classes, interned := interned.toArray }
  heap := heap
  slotsUsed := slotsUsed
  threads := #[{ frames := .invoking theMethod args0 :: below }]
def below0 : List Frame := [.native { method := ⟨0, 0⟩, args := #[] }]
def about1 : State := aboutOver below0
def p0 : Program := .bare "" "" ""
def e0 : Env := launch0.env 0 0 0
theorem w_frames : about1.frames = Frame.invoking theMethod args0 :: below0 := rfl
set_option maxRecDepth 65536 in
theorem w_args : argsFit about1.vm theMethod args0 = true := by decide +kernel
set_option maxRecDepth 65536 in
theorem w_heap : heapFits about1 = true := by decide +kernel
set_option maxRecDepth 65536 in
theorem w_runnable : about1.curStatus? = some .runnable := by decide +kernel
set_option maxRecDepth 65536 in
theorem w_alone : about1.alone = true := by decide +kernel
set_option maxRecDepth 65536 in
theorem w_named : about1.methodNamed? x = some theMethod := by decide +kernel
set_option maxRecDepth 65536 in
theorem w_hears : about1.hears theMethod below0 = true := by decide +kernel
set_option maxRecDepth 65536 in
theorem w_ripe : about1.ripe theMethod args0 below0 = true := by decide +kernel
theorem w_running : about1.status = .running := rfl
set_option maxRecDepth 65536 in
theorem w_room : about1.hasRoom e0.platform room_1 = true :=
  launch0.hasRoom_least _ room_1 (by decide +kernel) (by decide +kernel) (by decide +kernel) (by decide +kernel) (by decide +kernel) (by decide +kernel)
theorem allAtoms_all (ts : List Jvm.Cond) (a : Array Jvm.Value) (st : Jvm.State) : (allAtoms ts).before a st = ts.all (fun c => c.before a st) := by
  induction ts with
  | nil => rfl
  | cons c t ih =>
    show (Jvm.Cond.and c (allAtoms t)).before a st = _
    rw [Jvm.Cond.before_and, ih, List.all_cons]
def words1 : List Jvm.Cond := Jvm.Cond.code x code maxLocals ret :: tables_1
/-- a 'code' word, met by the world's own term for the bytes: nothing is compared byte by byte -/
theorem code_word {y : MethodName} {bytes : ByteArray} {mx : Nat} {rt : Option FieldType} {a : Array Value} {s : State} {m : MethodId} {meth : Method} {c : Code} (h1 : s.methodNamed? y = some m) (h2 : s.vm.method? m = some meth) (h3 : meth.code = some c) (h4 : c.code = bytes)
    (h5 : (c.maxLocals == mx && c.exceptionTable.isEmpty && decide (c.maxStack ≤ mostOperands) && decide (meth.sig.returnType = rt) && !meth.locks && decide (parseMethodDescriptor y.desc = some meth.sig)) = true) : (Jvm.Cond.code y bytes mx rt).before a s = true := by
  simp only [Bool.and_eq_true, beq_iff_eq, Bool.not_eq_true', decide_eq_true_eq] at h5
  obtain ⟨⟨⟨⟨⟨g1, g2⟩, g3⟩, g4⟩, g5⟩, g6⟩ := h5
  simp [Cond.before, Cond.holds, Cond.value, h1, h2, h3, h4, g1, g2, g3, g4, g5, g6]
def isCode : Jvm.Cond → Bool
  | .code _ _ _ _ => true
  | _ => false
theorem all_split {L : List Jvm.Cond} {P : Jvm.Cond → Bool} (h1 : L.all (fun c => isCode c || P c) = true) (h2 : ∀ c ∈ L.filter isCode, P c = true) : L.all P = true := by
  refine List.all_eq_true.mpr fun c hc => ?_
  have h := List.all_eq_true.mp h1 c hc
  rcases Bool.eq_false_or_eq_true (isCode c) with hi | hi
  · exact h2 c (List.mem_filter.mpr ⟨hc, hi⟩)
  · simpa [hi] using h
set_option maxRecDepth 65536 in
theorem w_c0 : (Jvm.Cond.code x code maxLocals ret).before args0 about1 = true := code_word (m := ⟨1, 1⟩) (meth := k1m1) (c := k1c1) (by decide +kernel) rfl rfl rfl (by decide +kernel)
set_option maxRecDepth 65536 in
theorem w_c1 : (Jvm.Cond.code ({ cls := "com/example/terseline/terseline/Delimiter", name := "declaredBy", desc := "(C)Lcom/example/terseline/terseline/Delimiter;" } : Jvm.MethodName) prog_11_method_6_code (6 : Nat) (Option.some (Jvm.ClassFile.FieldType.object "com/example/terseline/terseline/Delimiter"))).before args0 about1 = true := code_word (m := ⟨6, 2⟩) (meth := k6m2) (c := k6c2) (by decide +kernel) rfl rfl rfl (by decide +kernel)
set_option maxRecDepth 65536 in
theorem w_c2 : (Jvm.Cond.code ({ cls := "com/example/terseline/terseline/Delimiter", name := "values", desc := "()[Lcom/example/terseline/terseline/Delimiter;" } : Jvm.MethodName) prog_11_method_1_code (0 : Nat) (Option.some (Jvm.ClassFile.FieldType.array (Jvm.ClassFile.FieldType.object "com/example/terseline/terseline/Delimiter")))).before args0 about1 = true := code_word (m := ⟨6, 0⟩) (meth := k6m0) (c := k6c0) (by decide +kernel) rfl rfl rfl (by decide +kernel)
set_option maxRecDepth 65536 in
theorem w_c3 : (Jvm.Cond.code ({ cls := "com/example/terseline/terseline/Delimiter", name := "isMarked", desc := "()Z" } : Jvm.MethodName) prog_11_method_5_code (1 : Nat) (Option.some Jvm.ClassFile.FieldType.boolean)).before args0 about1 = true := code_word (m := ⟨6, 1⟩) (meth := k6m1) (c := k6c1) (by decide +kernel) rfl rfl rfl (by decide +kernel)
def codes1 : List Jvm.Cond := [Jvm.Cond.code x code maxLocals ret, Jvm.Cond.code ({ cls := "com/example/terseline/terseline/Delimiter", name := "declaredBy", desc := "(C)Lcom/example/terseline/terseline/Delimiter;" } : Jvm.MethodName) prog_11_method_6_code (6 : Nat) (Option.some (Jvm.ClassFile.FieldType.object "com/example/terseline/terseline/Delimiter")), Jvm.Cond.code ({ cls := "com/example/terseline/terseline/Delimiter", name := "values", desc := "()[Lcom/example/terseline/terseline/Delimiter;" } : Jvm.MethodName) prog_11_method_1_code (0 : Nat) (Option.some (Jvm.ClassFile.FieldType.array (Jvm.ClassFile.FieldType.object "com/example/terseline/terseline/Delimiter"))), Jvm.Cond.code ({ cls := "com/example/terseline/terseline/Delimiter", name := "isMarked", desc := "()Z" } : Jvm.MethodName) prog_11_method_5_code (1 : Nat) (Option.some Jvm.ClassFile.FieldType.boolean)]
set_option maxRecDepth 65536 in
theorem codes_eq : words1.filter isCode = codes1 := rfl
theorem w_codes : ∀ c ∈ words1.filter isCode, c.before args0 about1 = true := by
  rw [codes_eq]
  intro c hc
  simp only [codes1, List.mem_cons, List.not_mem_nil, or_false] at hc
  rcases hc with rfl | rfl | rfl | rfl
  · exact w_c0
  · exact w_c1
  · exact w_c2
  · exact w_c3
set_option maxRecDepth 65536 in
theorem w_t1 : (words1.take 24).all (fun c => isCode c || c.before args0 about1) = true := by decide +kernel
set_option maxRecDepth 65536 in
theorem w_t2 : (words1.drop 24).all (fun c => isCode c || c.before args0 about1) = true := by decide +kernel
theorem w_tables : (allAtoms (Jvm.Cond.code x code maxLocals ret :: tables_1)).before args0 about1 = true := by
  rw [allAtoms_all]
  show words1.all (fun c => c.before args0 about1) = true
  refine all_split ?_ w_codes
  rw [← List.take_append_drop 24 words1, List.all_append, w_t1, w_t2]
  rfl
set_option maxRecDepth 65536 in
theorem w_case : (Jvm.Cond.and given_1 narrow_1).before args0 about1 = true := by decide +kernel
theorem w_applies : (headSpec (Jvm.Cond.code x code maxLocals ret :: tables_1) room_1).applies x e0.platform about1 = true :=
  (Spec.applies_iff w_frames).mpr ⟨w_running, w_runnable, w_alone, w_named, w_hears, w_ripe, w_room, w_tables⟩
theorem atStart : AtStart classFile x code maxLocals ret World_1 tables_1 room_1 Calls_1 rest_1 Pre_1 launch0 p0 e0 about1 theMethod args0 below0 :=
  ⟨lists_1, trivial, launch0.admits_env _ _ _, launch0.least_env, fairChoices_fair.cas, fairChoices_fair.clock, w_frames, w_args, w_heap, w_applies, trivial, trivial, w_case⟩
end start1
theorem witness_1 : WitnessClaimed_1 := ⟨start1.p0, start1.e0, start1.about1, start1.theMethod, start1.args0, start1.below0, start1.atStart⟩
end Jvm.Pilot.@@N@@
