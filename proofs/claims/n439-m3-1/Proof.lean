import JvmDerived
import JvmDerived.Pilot.@@N@@Statement
import JvmDerived.Pilot.@@N@@Code
set_option linter.unusedVariables false
set_option linter.unusedSimpArgs false
namespace Jvm.Pilot.@@N@@
open Jvm Jvm.ClassFile Sem Op Lib Jvm.Free Jvm.Stand Jvm.LawKit Jvm.RoadKit Bundle Jvm.Pilot.@@N@@.Jvm.D
/-- what a walk must still come to -/
def OwnG (p : Program) (e : Env) (below : List Frame) (s : State) (C S : Nat) (Q : Option Value → Heap → List Loc → Prop) (A : State) : Prop :=
  ∃ s₂ o, Steps p.tables e below A s₂ ∧ s₂.status = .running ∧ Ended s₂ below o ∧ ∃ v L, o = .returned v ∧ Q v s₂.heap L ∧ FrameEnd s o s₂ L C S
theorem OwnG.go {p : Program} {e : Env} {below : List Frame} {s : State} {C S : Nat} {Q : Option Value → Heap → List Loc → Prop} {A B : State} (h : ∀ t, Steps p.tables e below A t → Steps p.tables e below B t) (k : OwnG p e below s C S Q A) : OwnG p e below s C S Q B := by
  obtain ⟨s₂, o, k1, k2⟩ := k
  exact ⟨s₂, o, h _ k1, k2⟩
theorem own_fin {p : Program} {l : Launch} {e : Env} {R : Room} {s : State} {m : MethodId} {args : Array Value} {below : List Frame} {meth : Method} {c : Code} {T : State} {locs : List Loc} {cells slots : Nat}
    (X : Stand p l e R s m args below meth c T locs cells slots) {C S : Nat} {Q : Option Value → Heap → List Loc → Prop} (hlocks : meth.locks = false) {v : Option Value} (hv : meth.sig.returnType = none → v = none) {A : State}
    (hst : ∀ fs, (∀ (f : JFrame) (acts : List Action), f.method = m → f.locked = none → f.entered = [] → (doReturn e (T.setTop f) acts v).1 = T.setFrames fs) → Steps p.tables e below A (T.setFrames fs))
    (hQ : Q v T.heap locs) (hc : cells ≤ C) (hs : slots ≤ S) : OwnG p e below s C S Q A := by
  obtain ⟨fs, hr, hrun, hended, hW, hsame⟩ := X.leave (v := v) hv hlocks
  exact ⟨_, _, hst fs hr, hrun, hended, v, locs, rfl, hQ, ⟨_, rfl⟩, hW, hsame.mono hc hs⟩
def OwnGW (p : Program) (e : Env) (below : List Frame) (s : State) (C S : Nat) (Q : Option Value → Heap → List Loc → Prop) (A : State) : Prop :=
  ∃ s₂ o, Steps p.tables e below A s₂ ∧ s₂.status = .running ∧ Ended s₂ below o ∧ ∃ v L, o = .returned v ∧ Q v s₂.heap L ∧ ReturnedEndW s o s₂ L C S
theorem OwnGW.go {p : Program} {e : Env} {below : List Frame} {s : State} {C S : Nat} {Q : Option Value → Heap → List Loc → Prop} {A B : State} (h : ∀ t, Steps p.tables e below A t → Steps p.tables e below B t) (k : OwnGW p e below s C S Q A) : OwnGW p e below s C S Q B := by
  obtain ⟨s₂, o, k1, k2⟩ := k
  exact ⟨s₂, o, h _ k1, k2⟩
theorem own_finW {p : Program} {l : Launch} {e : Env} {R : Room} {s : State} {vm₁ : Vm} {m : MethodId} {args : Array Value} {below : List Frame} {meth : Method} {c : Code} {T : State} {locs : List Loc} {cells slots n : Nat}
    (X : Stand p l e R (s.setVm vm₁) m args below meth c T locs cells slots) (hS : s.Since vm₁ n) (hn : n ≤ T.heap.size) {C S : Nat} {Q : Option Value → Heap → List Loc → Prop} (hlocks : meth.locks = false) {v : Option Value} (hv : meth.sig.returnType = none → v = none) {A : State}
    (hst : ∀ fs, (∀ (f : JFrame) (acts : List Action), f.method = m → f.locked = none → f.entered = [] → (doReturn e (T.setTop f) acts v).1 = T.setFrames fs) → Steps p.tables e below A (T.setFrames fs))
    (hQ : Q v T.heap locs) (hc : cells ≤ C) (hs : slots ≤ S) : OwnGW p e below s C S Q A := by
  obtain ⟨fs, hr, hrun, hended, hW⟩ := X.leaveW hS hn (v := v) hv hlocks
  exact ⟨_, _, hst fs hr, hrun, hended, v, locs, rfl, hQ, hW.1, hW.2.1, hW.2.2.1, hW.2.2.2.mono hc hs⟩
theorem own_lrem {p : Program} {l : Launch} {e : Env} {R : Room} {s : State} {m : MethodId} {args : Array Value} {below : List Frame} {meth : Method} {c : Code} {T : State} {locs : List Loc} {cells slots : Nat} {g : JFrame} {target : State}
    (X : Stand p l e R s m args below meth c T locs cells slots) (hx : p.tables.exec = Jvm.exec) (hg : g.method = m) {x y : Int64} {rest : List Value} (hd : decode c.code g.pc = .ok (.lrem, 1)) (hs : g.stack = .long y :: .long x :: rest) (hy : y ≠ 0)
    (hr : Steps p.tables e below (T.setTop { g with pc := g.pc + 1, stack := .long (x % y) :: rest }) target) : Steps p.tables e below (T.setTop g) target := by
  have q : x - x / y * y = x % y := lrem_mod x y
  exact XS.lrem X.here hx hg hd hs hy (by rw [q]; exact hr)
theorem own_selpriv {Z s : State} {args a0 : Array Value} {y z : MethodName} (hZ : Z.Warmed39 s.vm) (wsel : (Jvm.Cond.selects z.cls z z).before a0 Z = true) (hz : z.cls = y.cls) (wpriv : (Jvm.Cond.privateMethod y).before a0 Z = true) (winst : (Jvm.Cond.instanceMethod y).before a0 Z = true)
    (hy : y.cls ≠ "java/lang/invoke/MethodHandle" ∧ y.cls ≠ "java/lang/invoke/VarHandle") : (Jvm.Cond.selects y.cls y y).before args s = true := by
  have ws : (Jvm.Cond.selects z.cls z z).before args s = true := mvT hZ wsel
  obtain ⟨c2, r2, m2, q1, q2, q3, q4, kP, hkP, hkPi⟩ := Cond.selects_spec ws
  exact selects_self_of_private (c := m2.cls) (k := kP) (hz ▸ findClass_of_methodNamed q3) hkP hkPi (Cond.privateMethod_at (mvP hZ wpriv (args := #[]))) (mvT hZ winst) hy
theorem own_exa_cell {Z : State} {h : Heap} {a : Addr} {C : String} (E : Exa Z h a C) : ∃ c : Cell, h[a]? = some c ∧ c.vm.isStatics = false := by
  obtain ⟨cell, k, h1, h2, h3, h4, -⟩ := E
  exact ⟨cell, h1, h4⟩
theorem own_sta_keep {Z : State} {h h' : Heap} {C n d : String} {v : Value} {ws : List Addr} (S : Sta Z h C n d v) (K : Keep h h' ws) (hq : ∀ x ∈ ws, ∃ c : Cell, h[x]? = some c ∧ c.vm.isStatics = false) : Sta Z h' C n d v := by
  obtain ⟨cf, i, k, f, st, cell, h1, h2, h3, h4, h5, h6, h7⟩ := S
  refine ⟨cf, i, k, f, st, cell, h1, h2, h3, h4, K.2.1 st cell h5 (fun q => ?_), h6, h7⟩
  obtain ⟨c, c1, c2⟩ := hq st q
  cases h5.symm.trans c1
  rw [h6] at c2; cases c2
theorem own_lclt {a b : Int64} : lcmpW a b < 0 ↔ a < b := by
  unfold lcmpW
  by_cases h1 : a > b
  · simp only [h1, if_true]
    refine ⟨fun h => absurd h (by decide), fun h => ?_⟩
    rw [Int64.lt_iff_toInt_lt] at h; rw [gt_iff_lt, Int64.lt_iff_toInt_lt] at h1; omega
  · by_cases h2 : a = b
    · subst h2; simp [h1]
    · simp only [h1, h2, if_false]
      refine ⟨fun _ => ?_, fun _ => by decide⟩
      rw [gt_iff_lt, Int64.lt_iff_toInt_lt] at h1; rw [Int64.lt_iff_toInt_lt]
      have : a.toInt ≠ b.toInt := fun q => h2 (Int64.toInt_inj.mp q)
      omega
theorem own_lceq {a b : Int64} : lcmpW a b = 0 ↔ a = b := by
  unfold lcmpW
  by_cases h1 : a > b
  · simp only [h1, if_true]
    refine ⟨fun h => absurd h (by decide), fun h => ?_⟩
    subst h; rw [gt_iff_lt, Int64.lt_iff_toInt_lt] at h1; omega
  · by_cases h2 : a = b
    · subst h2; simp [h1]
    · simp only [h1, h2, if_false]
      exact ⟨fun h => absurd h (by decide), fun h => h.elim⟩
theorem own_lcgt {a b : Int64} : 0 < lcmpW a b ↔ b < a := by
  unfold lcmpW
  by_cases h1 : a > b
  · rw [if_pos h1]
    exact ⟨fun _ => h1, fun _ => by decide⟩
  · rw [if_neg h1]
    refine ⟨fun h => ?_, fun h => absurd h h1⟩
    by_cases h2 : a = b
    · rw [if_pos h2] at h; exact absurd h (by decide)
    · rw [if_neg h2] at h; exact absurd h (by decide)

theorem own_mask32 (x m : Int32) (h : 0 ≤ m.toInt) : 0 ≤ (x &&& m).toInt ∧ (x &&& m).toInt ≤ m.toInt := by
  have e : (x &&& m).toInt = (x.toBitVec &&& m.toBitVec).toInt := rfl
  have em : m.toInt = m.toBitVec.toInt := rfl
  have h1 : (x.toBitVec &&& m.toBitVec).toNat ≤ m.toBitVec.toNat := by rw [BitVec.toNat_and]; exact Nat.and_le_right
  have h2 := m.toBitVec.isLt
  rw [BitVec.toInt_eq_toNat_cond] at e em
  rw [em] at h
  rw [e, em]
  generalize (x.toBitVec &&& m.toBitVec).toNat = u at *
  generalize m.toBitVec.toNat = w at *
  split at h <;> split <;> omega
theorem own_mask64 (x m : Int64) (h : 0 ≤ m.toInt) : 0 ≤ (x &&& m).toInt ∧ (x &&& m).toInt ≤ m.toInt := by
  have e : (x &&& m).toInt = (x.toBitVec &&& m.toBitVec).toInt := rfl
  have em : m.toInt = m.toBitVec.toInt := rfl
  have h1 : (x.toBitVec &&& m.toBitVec).toNat ≤ m.toBitVec.toNat := by rw [BitVec.toNat_and]; exact Nat.and_le_right
  have h2 := m.toBitVec.isLt
  rw [BitVec.toInt_eq_toNat_cond] at e em
  rw [em] at h
  rw [e, em]
  generalize (x.toBitVec &&& m.toBitVec).toNat = u at *
  generalize m.toBitVec.toNat = w at *
  split at h <;> split <;> omega
theorem own_add32 {a b : Int32} (h1 : -2147483648 ≤ a.toInt + b.toInt) (h2 : a.toInt + b.toInt < 2147483648) : (a + b).toInt = a.toInt + b.toInt := by
  rw [Int32.toInt_add, Int.bmod_def]; omega
theorem own_sub32 {a b : Int32} (h1 : -2147483648 ≤ a.toInt - b.toInt) (h2 : a.toInt - b.toInt < 2147483648) : (a - b).toInt = a.toInt - b.toInt := by
  rw [Int32.toInt_sub, Int.bmod_def]; omega
theorem own_add64 {a b : Int64} (h1 : -9223372036854775808 ≤ a.toInt + b.toInt) (h2 : a.toInt + b.toInt < 9223372036854775808) : (a + b).toInt = a.toInt + b.toInt := by
  rw [Int64.toInt_add, Int.bmod_def]; omega
theorem own_sub64 {a b : Int64} (h1 : -9223372036854775808 ≤ a.toInt - b.toInt) (h2 : a.toInt - b.toInt < 9223372036854775808) : (a - b).toInt = a.toInt - b.toInt := by
  rw [Int64.toInt_sub, Int.bmod_def]; omega
theorem own_mul64 {a b : Int64} (h1 : -9223372036854775808 ≤ a.toInt * b.toInt) (h2 : a.toInt * b.toInt < 9223372036854775808) : (a * b).toInt = a.toInt * b.toInt := by
  rw [Int64.toInt_mul, Int.bmod_def]
  generalize a.toInt * b.toInt = z at *
  omega
theorem own_rem32 {a b : Int32} (h1 : 0 ≤ a.toInt) (h2 : 0 < b.toInt) : (a % b).toInt = a.toInt % b.toInt := by
  rw [Int32.toInt_mod, Int.tmod_eq_emod_of_nonneg h1]
theorem own_rem64 {a b : Int64} (h1 : 0 ≤ a.toInt) (h2 : 0 < b.toInt) : (a % b).toInt = a.toInt % b.toInt := by
  rw [Int64.toInt_mod, Int.tmod_eq_emod_of_nonneg h1]


def jmax (a b : Int32) : Int32 := if a < b then b else a
def jmin (a b : Int32) : Int32 := if b < a then b else a
theorem own_ont (x : Nat) (h : x < 300) : (Int32.ofNat x).toInt = x := Int32.toInt_ofNat_of_lt (by omega)
theorem own_onadd (x y : Nat) : Int32.ofNat x + Int32.ofNat y = Int32.ofNat (x + y) := (Int32.ofNat_add x y).symm
theorem own_onmul (x y : Nat) : Int32.ofNat x * Int32.ofNat y = Int32.ofNat (x * y) := (Int32.ofNat_mul x y).symm
theorem own_onsub (x y : Nat) (h : y ≤ x) : Int32.ofNat x - Int32.ofNat y = Int32.ofNat (x - y) := by
  have e : Int32.ofNat x = Int32.ofNat (x - y) + Int32.ofNat y := by rw [own_onadd, Nat.sub_add_cancel h]
  rw [e, Int32.add_sub_cancel]
theorem own_onlt {x y : Nat} (hx : x < 300) (hy : y < 300) : Int32.ofNat x < Int32.ofNat y ↔ x < y := by
  rw [Int32.lt_iff_toInt_lt, own_ont x hx, own_ont y hy]; omega
theorem own_oninj {x y : Nat} (hx : x < 300) (hy : y < 300) (h : Int32.ofNat x = Int32.ofNat y) : x = y := by
  rw [← Int32.toInt_inj, own_ont x hx, own_ont y hy] at h; omega
theorem own_onnn (x : Nat) (hx : x < 300) : ¬ (Int32.ofNat x < 0) := by
  have e0 : (0 : Int32).toInt = 0 := rfl
  rw [Int32.lt_iff_toInt_lt, own_ont x hx]; omega
theorem own_onnat (x : Nat) (hx : x < 300) : (Int32.ofNat x).toNatClampNeg = x := by
  unfold Int32.toNatClampNeg
  rw [own_ont x hx]; rfl
theorem own_jmaxL (x y : Nat) (hx : x < 300) (h : y ≤ x) : jmax (Int32.ofNat x) (Int32.ofNat y) = Int32.ofNat x := by
  rw [jmax, if_neg]; rw [own_onlt hx (by omega)]; omega
theorem own_jmaxR (x y : Nat) (hx : y < 300) (h : x ≤ y) : jmax (Int32.ofNat x) (Int32.ofNat y) = Int32.ofNat y := by
  by_cases e : x = y
  · subst e; exact own_jmaxL x x hx (Nat.le_refl _)
  · rw [jmax, if_pos]; rw [own_onlt (by omega) hx]; omega
theorem own_jminR (x y : Nat) (hx : x < 300) (h : y ≤ x) : jmin (Int32.ofNat x) (Int32.ofNat y) = Int32.ofNat y := by
  by_cases e : x = y
  · subst e; rw [jmin, if_neg]; rw [own_onlt hx hx]; omega
  · rw [jmin, if_pos]; rw [own_onlt (by omega) hx]; omega
theorem own_jminL (x y : Nat) (hx : y < 300) (h : x ≤ y) : jmin (Int32.ofNat x) (Int32.ofNat y) = Int32.ofNat x := by
  rw [jmin, if_neg]; rw [own_onlt hx (by omega)]; omega
theorem own_cap (n : Nat) (h : n ≤ 3) : ∃ c : Nat, n ≤ c ∧ 2 ≤ c ∧ c ≤ 3 ∧ jmax (2 : Int32) (Int32.ofNat n) = Int32.ofNat c := by
  by_cases q : n ≤ 2
  · exact ⟨2, q, by omega, by omega, own_jmaxL 2 n (by omega) q⟩
  · exact ⟨n, by omega, by omega, by omega, own_jmaxR 2 n (by omega) (by omega)⟩
theorem own_used (n : Nat) (h : n ≤ 3) : jmax (1 : Int32) (Int32.ofNat (n + 128 - 1) / (128 : Int32)) = 1 := by
  have : n = 0 ∨ n = 1 ∨ n = 2 ∨ n = 3 := by omega
  rcases this with rfl | rfl | rfl | rfl <;> decide
theorem own_grow (n : Nat) (h : n ≤ 3) : jmax (2 : Int32) (Int32.ofNat n / (2 : Int32)) = 2 := by
  have : n = 0 ∨ n = 1 ∨ n = 2 ∨ n = 3 := by omega
  rcases this with rfl | rfl | rfl | rfl <;> decide
theorem own_lt8 {i : Nat} (h : i < 8) {P : Nat → Prop} (hp : ∀ j : Fin 8, P j.val) : P i := hp ⟨i, h⟩
theorem own_chunkOf (i : Nat) (h : i < 8) : ((((Int64.ofNat i).toUInt64 >>> ((32 : Int32) &&& 0x3f).toInt64.toUInt64).toInt64).toInt32) = 0 :=
  own_lt8 h (P := fun i => ((((Int64.ofNat i).toUInt64 >>> ((32 : Int32) &&& 0x3f).toInt64.toUInt64).toInt64).toInt32) = 0) (by decide)
theorem own_indexOf (i : Nat) (h : i < 8) : (((Int64.ofNat i) &&& (4294967295 : Int64)).toInt32) = Int32.ofNat i :=
  own_lt8 h (P := fun i => (((Int64.ofNat i) &&& (4294967295 : Int64)).toInt32) = Int32.ofNat i) (by decide)
theorem own_i2l (i : Nat) (h : i < 8) : (Int32.ofNat i).toInt64 = Int64.ofNat i := own_lt8 h (P := fun i => (Int32.ofNat i).toInt64 = Int64.ofNat i) (by decide)
theorem own_width (x : Int32) : (1 : Int32) + (x &&& (1 : Int32)) = 1 ∨ (1 : Int32) + (x &&& (1 : Int32)) = 2 := by
  have h := own_mask32 x 1 (by decide)
  have e1 : (1 : Int32).toInt = 1 := rfl
  have e2 : (2 : Int32).toInt = 2 := rfl
  have h2 : ((1 : Int32) + (x &&& (1 : Int32))).toInt = 1 + (x &&& (1 : Int32)).toInt := own_add32 (by omega) (by omega)
  rw [← Int32.toInt_inj, ← Int32.toInt_inj, h2, e1, e2]; omega
theorem own_rem (x : Int32) (n : Nat) (h0 : 0 < n) (h : n < 300) : ∃ i : Nat, i < n ∧ (x &&& (2147483647 : Int32)) % (Int32.ofNat n) = Int32.ofNat i := by
  have hm := own_mask32 x 2147483647 (by decide)
  have hn := own_ont n h
  have hr := own_rem32 (b := Int32.ofNat n) hm.1 (by omega)
  rw [hn] at hr
  have r1 := Int.emod_nonneg (x &&& (2147483647 : Int32)).toInt (show (n : Int) ≠ 0 by omega)
  have r2 := Int.emod_lt_of_pos (x &&& (2147483647 : Int32)).toInt (show (0 : Int) < n by omega)
  refine ⟨((x &&& (2147483647 : Int32)).toInt % n).toNat, by omega, ?_⟩
  rw [← Int32.toInt_inj, hr, own_ont _ (by omega)]
  omega
theorem own_onne (n : Nat) (h0 : 0 < n) (h : n < 300) : Int32.ofNat n ≠ 0 := fun q => by
  have e := own_ont n h
  rw [q] at e
  have e0 : (0 : Int32).toInt = 0 := rfl
  omega
def emp (x : Int32) : Int32 := if x = 0 then 1 else 0
theorem own_cplen {α : Type} (vd us : List α) (dp nn len : Nat) (h : vd.length = len) (hu : us.length = nn) (hle : dp + nn ≤ len) : (vd.take dp ++ us ++ vd.drop (dp + nn)).length = len := by
  rw [List.length_append, List.length_append, List.length_take, List.length_drop, hu, h]; omega
theorem own_ondec (x : Nat) (h : 1 ≤ x) : Int32.ofNat x + (-1) = Int32.ofNat (x - 1) := by
  have e : Int32.ofNat x = Int32.ofNat (x - 1) + Int32.ofNat 1 := by rw [own_onadd, Nat.sub_add_cancel h]
  have e1 : Int32.ofNat 1 + (-1) = 0 := by decide
  rw [e, Int32.add_assoc, e1, Int32.add_zero]
/-- a long array of len places at b, whatever they hold -/
def LA (Z : State) (h : Heap) (b : Addr) (k : ClassId) (len : Nat) : Prop := ∃ vs : List Value, vs.length = len ∧ Arv Z h b k .long (Int32.ofNat len) vs (.long (0 : Int64))
theorem LA.ext {Z : State} {h h' : Heap} {b : Addr} {k : ClassId} {len : Nat} (F : LA Z h b k len) (E : Ext h h') : LA Z h' b k len := by obtain ⟨vs, q, A⟩ := F; exact ⟨vs, q, A.ext E⟩
theorem LA.other {Z : State} {h h' : Heap} {a b : Addr} {k : ClassId} {len sl : Nat} {v : Value} (F : LA Z h b k len) (W : Wr h h' a sl v) (q : b ≠ a) : LA Z h' b k len := by obtain ⟨vs, r, A⟩ := F; exact ⟨vs, r, A.other W q⟩
theorem LA.keep {Z : State} {h h' : Heap} {b : Addr} {k : ClassId} {len : Nat} {ws : List Addr} (F : LA Z h b k len) (K : Keep h h' ws) (q : b ∉ ws) : LA Z h' b k len := by obtain ⟨vs, r, A⟩ := F; exact ⟨vs, r, A.keep K q⟩
theorem LA.lt {Z : State} {h : Heap} {b : Addr} {k : ClassId} {len : Nat} (F : LA Z h b k len) : b < h.size := by obtain ⟨vs, r, A⟩ := F; exact A.lt


section Warm
variable {p : Program} {l : Launch} {e : Env} {R : Room} {s : State} {m : MethodId} {args : Array Value} {below : List Frame} {meth : Method} {c : Code} {T : State} {locs : List Loc} {cells slots : Nat} {Z : State} {a0 : Array Value} {h : Heap}
/-- getfield of an entry that the sheet says resolved -/
theorem own_getR (X : Stand p l e R s m args below meth c T locs cells slots) (hx : p.tables.exec = Jvm.exec) (hZ : Z.Warmed39 s.vm) {own R0 n d : String} {index : Nat} (hown : s.vm.findClass own = some m.cls) (w : (Jvm.Cond.fieldRef own index R0 n d).before a0 Z = true)
    (eT : T.heap = h) {a : Addr} {v : Value} (F : Fld Z h a R0 n d v) {g : JFrame} (hg : g.method = m) {rest : List Value} (hs : g.stack = .ref a :: rest) (hd : decode c.code g.pc = .ok (.getfield index, 3)) : ∀ target, Steps p.tables e below (T.setTop { g with pc := g.pc + 3, stack := v :: rest }) target → Steps p.tables e below (T.setTop g) target := by
  obtain ⟨cell, cf, k, i, f, h1, h2, h3, h4, -, -, h7⟩ := F
  have hW : Z.Warmed39 T.vm := wtrans hZ X.warmed
  have w' := Cond.fieldRef_warmed39 hW w
  have hcur : (Z.setVm T.vm).vm.findClass own = some m.cls := by
    show T.vm.findClass own = some m.cls
    rw [X.warmed.alike.findClass]; exact hown
  obtain ⟨c', k', i', f', q1, q2⟩ := Cond.fieldRef_spec hcur w'
  obtain ⟨k2, hi, -⟩ := State.fieldFound?_setVm (s := Z) hW.alike h2
  cases hi.symm.trans q1
  intro target hr
  subst hg
  have q3 : T.vm.fieldReady g.method.cls index cf f := q2
  jvm_step X.here [hx, hd, getfield.wp_ready (e := e) (s := T) (f := g) X.here.top q3 h3 hs (by rw [eT]; exact h1) h4 h7]
  exact hr
theorem own_methodRef_at (X : Stand p l e R s m args below meth c T locs cells slots) (hZ : Z.Warmed39 s.vm) {own : String} {index : Nat} {y : MethodName} (hown : s.vm.findClass own = some m.cls) (w : (Jvm.Cond.methodRef own index y).before a0 Z = true) (winst : (Jvm.Cond.instanceMethod y).before a0 Z = true)
    (hy : y.cls ≠ "java/lang/invoke/MethodHandle" ∧ y.cls ≠ "java/lang/invoke/VarHandle") : ∃ mk methM, s.methodNamed? y = some mk ∧ s.vm.method? mk = some methM ∧ methM.isStatic = false ∧ methM.isAbstract = false ∧ T.vm.methodReady m.cls index mk ∧ namesResolved T.vm m.cls index mk.cls := by
  have hW : Z.Warmed39 T.vm := wtrans hZ X.warmed
  obtain ⟨mz, methz, hnz, -, -, -⟩ := Cond.instanceMethod_spec winst
  have w' := Cond.methodRef_warmed39 hW hnz hy w
  have hcur : (Z.setVm T.vm).vm.findClass own = some m.cls := by
    show T.vm.findClass own = some m.cls
    rw [X.warmed.alike.findClass]; exact hown
  obtain ⟨m', c', q1, q2, q3, q4⟩ := Cond.methodRef_named e hcur w'
  obtain ⟨mk, methM, hn, hm, hst, hab⟩ := Cond.instanceMethod_spec (mvT hZ winst : (Jvm.Cond.instanceMethod y).before args s = true)
  have hnT : (Z.setVm T.vm).methodNamed? y = some mk := X.named hn
  have hf := State.methodFound?_of_named hnT hy
  obtain rfl : mk = m' := Option.some.inj (hf.symm.trans q1)
  obtain rfl : mk.cls = c' := Option.some.inj ((findClass_of_methodNamed hnT).symm.trans q3)
  exact ⟨mk, methM, hn, hm, hst, hab, q2, q4⟩
/-- a constructor by its contract, the entry resolved -/
theorem own_specR (X : Stand p l e R s m args below meth c T locs cells slots) (hexec : p.tables.exec = Jvm.exec) (hZ : Z.Warmed39 s.vm) {own : String} {index : Nat} {y : MethodName} (hy1 : y.name = "<init>")
    (hown : s.vm.findClass own = some m.cls) (w : (Jvm.Cond.methodRef own index y).before a0 Z = true) (winst : (Jvm.Cond.instanceMethod y).before a0 Z = true)
    {bytes : ByteArray} {maxL : Nat} (wcode : (Jvm.Cond.code y bytes maxL none).before a0 Z = true)
    (hy : y.cls ≠ "java/lang/invoke/MethodHandle" ∧ y.cls ≠ "java/lang/invoke/VarHandle")
    {W : Nat} {Pre : Pt → Array Value → Prop} {Post : Pt → Array Value → Option Value → Pt → Prop} (hK : Back l R p e below s args y 3 W Pre Post)
    {g : JFrame} (hg : g.method = m) (hsize : g.locals.size = c.maxLocals) {a : Addr} {argsL rest : List Value}
    (hlen : ∀ sig, parseMethodDescriptor y.desc = some sig → argsL.length = sig.parameters.length) (hstack : g.stack = argsL.reverse ++ .ref a :: rest) (hW : 2 * g.monitorRoom + (rest.map fun v => v.category).sum ≤ W)
    (hdg : decode c.code g.pc = .ok (.invokespecial index, 3)) (hpre : Pre ⟨T, locs, cells, slots⟩ (.ref a :: argsL).toArray) :
    ∃ (v : Option Value) (B : Pt), Stand p l e R s m args below meth c B.U B.locs B.cells B.slots ∧ Post ⟨T, locs, cells, slots⟩ (.ref a :: argsL).toArray v B ∧
      Steps p.tables e below (T.setTop g) (B.U.setTop { g with pc := g.pc + 3, stack := v.toList ++ rest }) := by
  obtain ⟨mk, methM, hn, hm, hst, hab, hready, hnamed⟩ := own_methodRef_at X hZ hown w winst hy
  obtain ⟨methM', cM, hm', -, -, -, -, -, -, hsig⟩ := Cond.code_spec hn (mvT hZ wcode : (Jvm.Cond.code y bytes maxL none).before args s = true)
  cases hm.symm.trans hm'
  obtain ⟨hnameM, hdescM⟩ := name_of_methodNamed hn hm
  obtain ⟨kO, hkO, -⟩ := className_of_methodNamed hn
  have al := X.warmed.alike
  obtain ⟨kT, hkT, -⟩ := al.2.2 _ _ hkO
  have hmT : T.vm.method? mk = some methM := by rw [al.method?]; exact hm
  have hfound : lookupSpecial T.vm mk.cls "<init>" methM.desc = .method mk := by
    rw [al.lookupSpecial, hdescM, ← hy1]; exact lookupSpecial_of_named hn hm hst
  obtain ⟨v, B, X', hpost, hsteps⟩ := hK m meth c ⟨T, locs, cells, slots⟩ { g with stack := rest } (.invokespecial index) mk (.ref a :: argsL).toArray X hg hsize hdg hW (X.named hn) hpre
  refine ⟨v, B, X', hpost, Steps.trans ?_ hsteps⟩
  subst hg
  jvm_step X.here [hexec, hdg, invokespecial.wp_init (e := e) (s := T) (k := kT) (meth := methM) (m := mk) (a := a) (args := argsL) (rest := rest) (f := g) X.here.top hnamed hready hkT hmT (by rw [hnameM]; exact hy1) hst hab hfound (hlen _ hsig) hstack]
  first | (intro acts; rw [doInvoke_state]; exact Steps.refl _) | (rw [doInvoke_state]; exact Steps.refl _) | exact Steps.refl _
/-- a nest mate's private method by its contract, the entry resolved -/
theorem own_privR (X : Stand p l e R s m args below meth c T locs cells slots) (hexec : p.tables.exec = Jvm.exec) (hZ : Z.Warmed39 s.vm) {own : String} {index : Nat} {y : MethodName}
    (hown : s.vm.findClass own = some m.cls) (w : (Jvm.Cond.methodRef own index y).before a0 Z = true) (winst : (Jvm.Cond.instanceMethod y).before a0 Z = true) (wpriv : (Jvm.Cond.privateMethod y).before a0 Z = true)
    {kk : Nat} (winit : (Jvm.Cond.instantiable y.cls kk).before a0 Z = true)
    {bytes : ByteArray} {maxL : Nat} {ret : Option FieldType} (wcode : (Jvm.Cond.code y bytes maxL ret).before a0 Z = true)
    (hy : y.cls ≠ "java/lang/invoke/MethodHandle" ∧ y.cls ≠ "java/lang/invoke/VarHandle")
    {W : Nat} {Pre : Pt → Array Value → Prop} {Post : Pt → Array Value → Option Value → Pt → Prop} (hK : Back l R p e below s args y 3 W Pre Post)
    {g : JFrame} (hg : g.method = m) (hsize : g.locals.size = c.maxLocals) {a : Addr} {cell : Cell} (hcell : T.heap[a]? = some cell) (hobj : ∀ q, cell.vm ≠ .statics q) {argsL rest : List Value}
    (hlen : ∀ sig, parseMethodDescriptor y.desc = some sig → argsL.length = sig.parameters.length) (hstack : g.stack = argsL.reverse ++ .ref a :: rest) (hW : 2 * g.monitorRoom + (rest.map fun v => v.category).sum ≤ W)
    (hdg : decode c.code g.pc = .ok (.invokevirtual index, 3)) (hpre : Pre ⟨T, locs, cells, slots⟩ (.ref a :: argsL).toArray) :
    ∃ (v : Option Value) (B : Pt), Stand p l e R s m args below meth c B.U B.locs B.cells B.slots ∧ Post ⟨T, locs, cells, slots⟩ (.ref a :: argsL).toArray v B ∧
      Steps p.tables e below (T.setTop g) (B.U.setTop { g with pc := g.pc + 3, stack := v.toList ++ rest }) := by
  obtain ⟨mk, methM, hn, hm, hst, hab, hready, hnamed⟩ := own_methodRef_at X hZ hown w winst hy
  obtain ⟨methM', cM, hm', -, -, -, -, -, -, hsig⟩ := Cond.code_spec hn (mvT hZ wcode : (Jvm.Cond.code y bytes maxL ret).before args s = true)
  cases hm.symm.trans hm'
  have hpriv := Cond.privateMethod_at (mvP hZ wpriv (args := #[]))
  have hselP : selectMethod e.platform s.vm cell.cls mk = .method mk := selectMethod_private hm (hpriv mk methM hn hm)
  obtain ⟨c2, k2, i1, i2, i3, i4, -⟩ := Cond.instantiable_spec (mvT hZ winit : (Jvm.Cond.instantiable y.cls kk).before args s = true)
  have hni : k2.isInterface = false := (Bool.or_eq_false_iff.mp i4).1
  obtain rfl : mk.cls = c2 := Option.some.inj ((findClass_of_methodNamed hn).symm.trans i1)
  obtain ⟨kx, hkx, hnx⟩ := className_of_methodNamed hn
  cases i2.symm.trans hkx
  have al := X.warmed.alike
  obtain ⟨kT, hkT, heT⟩ := al.2.2 _ _ i2
  have hmT : T.vm.method? mk = some methM := by rw [al.method?]; exact hm
  have hpoly : signaturePolymorphic kT methM = false := by rw [heT]; simp [signaturePolymorphic, hnx, hy.1, hy.2]
  obtain ⟨v, B, X', hpost, hsteps⟩ := hK m meth c ⟨T, locs, cells, slots⟩ { g with stack := rest } (.invokevirtual index) mk (.ref a :: argsL).toArray X hg hsize hdg hW (X.named hn) hpre
  refine ⟨v, B, X', hpost, Steps.trans ?_ hsteps⟩
  subst hg
  jvm_step X.here [hexec, hdg, invokevirtual.wp_named (e := e) (s := T) (f := g) (r := mk) (m := mk) (c' := mk.cls) (k := kT) (k' := kT) (mk := kT) (rmeth := methM) (meth := methM) (a := a) (args := argsL) (rest := rest) (cell := cell) X.here.top hnamed hkT (by rw [heT]; exact hni) hready hkT hmT hpoly hst (hlen _ hsig) hstack hcell hobj
      (by rw [al.selectMethod]; exact hselP) hmT hab hkT (by rw [heT]; exact hni)]
  first | (intro acts; rw [doInvoke_state]; exact Steps.refl _) | (rw [doInvoke_state]; exact Steps.refl _) | exact Steps.refl _
end Warm

theorem d3_0 : decode jdk_29_method_65_code 0 = .ok (.iload_n 0, 1) := by decide +kernel
theorem d3_1 : decode jdk_29_method_65_code 1 = .ok (.iload_n 1, 1) := by decide +kernel
theorem d3_2 : decode jdk_29_method_65_code 2 = .ok (.if_icmp .lt 7, 3) := by decide +kernel
theorem d3_5 : decode jdk_29_method_65_code 5 = .ok (.iload_n 0, 1) := by decide +kernel
theorem d3_6 : decode jdk_29_method_65_code 6 = .ok (.goto 4, 3) := by decide +kernel
theorem d3_9 : decode jdk_29_method_65_code 9 = .ok (.iload_n 1, 1) := by decide +kernel
theorem d3_10 : decode jdk_29_method_65_code 10 = .ok (.ireturn, 1) := by decide +kernel
theorem ef_rm3 (m : MethodId) (p1 : Int32) (p2 : Int32) : entryFrame m #[(.int p1), (.int p2)] 2 = mkF m 0 #[.val (.int p1), .val (.int p2)] [] := by first | (simp [entryFrame, mkF, argsToLocals, Value.category]; done) | rfl
def Q3 (Z : State) (p1 : Int32) (p2 : Int32) (h0 : Heap) (n0 : Nat) (v : Option Value) (h : Heap) (L : List Loc) : Prop := v = some (.int (jmax p1 p2)) ∧ Fr n0 L ∧ h = h0
set_option maxRecDepth 65536 in
set_option maxHeartbeats 40000000 in
theorem rm3 (l : Launch) (Z : State) (a0 : Array Value) (hw : ∀ d ∈ tables_1, d.before a0 Z = true) (ws : List Jvm.Cond) (p1 : Int32) (p2 : Int32) (h0 : Heap) (n0 : Nat) (Z0 : n0 ≤ h0.size) :
    MetFree l (⟨"java/lang/Math", "max", "(II)I"⟩ : MethodName) (head1 (Jvm.Cond.code (⟨"java/lang/Math", "max", "(II)I"⟩ : MethodName) jdk_29_method_65_code 2 (some .int) :: ws) ({ frames := 0, cells := 0, slots := 0, locals := 0 } : Room)) (fun a U => a = #[(.int p1), (.int p2)] ∧ Z.Warmed39 U.vm ∧ U.heap = h0) (fun _ _ _ _ _ => True) (fun _ U o U' => ∃ v L, o = .returned v ∧ Q3 Z p1 p2 h0 n0 v U'.heap L ∧ FrameEnd U o U' L ({ frames := 0, cells := 0, slots := 0, locals := 0 } : Room).cells ({ frames := 0, cells := 0, slots := 0, locals := 0 } : Room).slots) := by
  refine MetFree.of_bodySF (Jvm.Free.JP.mathPlain rfl (by decide +kernel)) hisR ?_
  intro p e s m args below meth c s₁ Bd hml0 hP hK
  obtain ⟨rfl, hZ, hh⟩ := hP
  have hx := Bd.exec
  have hby := Bd.bytes
  have hml : c.maxLocals = 2 := hml0
  have hown : s.vm.findClass "java/lang/Math" = some m.cls := findClass_of_methodNamed Bd.named
  have hnm := (name_of_methodNamed Bd.named Bd.method).1
  have X0 : Stand p l e ({ frames := 0, cells := 0, slots := 0, locals := 0 } : Room) s m #[(.int p1), (.int p2)] below meth c s₁ [] 0 0 := Stand.of_body Bd
  have e0 : s₁.heap = h0 := by rw [← hh, Bd.state]; rfl
  have N0 := Fr.nil n0
  obtain ⟨G, hG⟩ : ∃ G : State → Prop, G = OwnG p e below s ({ frames := 0, cells := 0, slots := 0, locals := 0 } : Room).cells ({ frames := 0, cells := 0, slots := 0, locals := 0 } : Room).slots (Q3 Z p1 p2 h0 n0) := ⟨_, rfl⟩
  have go : ∀ {A B : State}, (∀ t, Steps p.tables e below A t → Steps p.tables e below B t) → G A → G B := fun h k => by rw [hG] at k ⊢; exact OwnG.go h k
  suffices k0 : G (s₁.setTop (mkF m 0 #[.val (.int p1), .val (.int p2)] [])) by
    rw [hG] at k0; exact OwnG.go (fun t k => castTop (ef_rm3 m p1 p2) k) k0
  refine go (fun _ k => XS.iloadN X0.here hx rfl (hb hby d3_0) rfl k) ?_
  show G (s₁.setTop (mkF m 1 #[.val (.int p1), .val (.int p2)] [(.int p1)]))
  refine go (fun _ k => XS.iloadN X0.here hx rfl (hb hby d3_1) rfl k) ?_
  show G (s₁.setTop (mkF m 2 #[.val (.int p1), .val (.int p2)] [(.int p2), (.int p1)]))
  by_cases hc2_1 : p1 < p2
  · refine go (fun _ k => XS.icmpYes X0.here hx rfl (pc0 := 2) (pc' := 9) rfl (hb hby d3_2) rfl (tlt hc2_1).1 (by decide) (by decide) k) ?_
    show G (s₁.setTop (mkF m 9 #[.val (.int p1), .val (.int p2)] []))
    refine go (fun _ k => XS.iloadN X0.here hx rfl (hb hby d3_9) rfl k) ?_
    show G (s₁.setTop (mkF m 10 #[.val (.int p1), .val (.int p2)] [(.int p2)]))
    rw [hG]
    refine own_fin X0 Bd.notSynchronized (v := some (.int p2)) (fun h => by rw [Bd.returns] at h; cases h) (fun fs hr => retOut X0 hx Bd.returns rfl (by simp [FieldType.isReference, Value.isRef]) (hb hby d3_10) hr) ?_ (by decide) (by decide)
    show Q3 Z p1 p2 h0 n0 (some (.int p2)) s₁.heap _
    rw [e0]
    exact ⟨by rw [jmax, if_pos hc2_1], N0, rfl⟩
  · refine go (fun _ k => XS.icmpNo X0.here hx rfl (hb hby d3_2) rfl (flt hc2_1).1 k) ?_
    show G (s₁.setTop (mkF m 5 #[.val (.int p1), .val (.int p2)] []))
    refine go (fun _ k => XS.iloadN X0.here hx rfl (hb hby d3_5) rfl k) ?_
    show G (s₁.setTop (mkF m 6 #[.val (.int p1), .val (.int p2)] [(.int p1)]))
    refine go (fun _ k => XS.goto X0.here hx rfl (pc0 := 6) (pc' := 10) rfl (hb hby d3_6) (by decide) (by decide) k) ?_
    show G (s₁.setTop (mkF m 10 #[.val (.int p1), .val (.int p2)] [(.int p1)]))
    rw [hG]
    refine own_fin X0 Bd.notSynchronized (v := some (.int p1)) (fun h => by rw [Bd.returns] at h; cases h) (fun fs hr => retOut X0 hx Bd.returns rfl (by simp [FieldType.isReference, Value.isRef]) (hb hby d3_10) hr) ?_ (by decide) (by decide)
    show Q3 Z p1 p2 h0 n0 (some (.int p1)) s₁.heap _
    rw [e0]
    exact ⟨by rw [jmax, if_neg hc2_1], N0, rfl⟩

theorem d4_0 : decode jdk_29_method_69_code 0 = .ok (.iload_n 0, 1) := by decide +kernel
theorem d4_1 : decode jdk_29_method_69_code 1 = .ok (.iload_n 1, 1) := by decide +kernel
theorem d4_2 : decode jdk_29_method_69_code 2 = .ok (.if_icmp .gt 7, 3) := by decide +kernel
theorem d4_5 : decode jdk_29_method_69_code 5 = .ok (.iload_n 0, 1) := by decide +kernel
theorem d4_6 : decode jdk_29_method_69_code 6 = .ok (.goto 4, 3) := by decide +kernel
theorem d4_9 : decode jdk_29_method_69_code 9 = .ok (.iload_n 1, 1) := by decide +kernel
theorem d4_10 : decode jdk_29_method_69_code 10 = .ok (.ireturn, 1) := by decide +kernel
theorem ef_rm4 (m : MethodId) (p1 : Int32) (p2 : Int32) : entryFrame m #[(.int p1), (.int p2)] 2 = mkF m 0 #[.val (.int p1), .val (.int p2)] [] := by first | (simp [entryFrame, mkF, argsToLocals, Value.category]; done) | rfl
def Q4 (Z : State) (p1 : Int32) (p2 : Int32) (h0 : Heap) (n0 : Nat) (v : Option Value) (h : Heap) (L : List Loc) : Prop := v = some (.int (jmin p1 p2)) ∧ Fr n0 L ∧ h = h0
set_option maxRecDepth 65536 in
set_option maxHeartbeats 40000000 in
theorem rm4 (l : Launch) (Z : State) (a0 : Array Value) (hw : ∀ d ∈ tables_1, d.before a0 Z = true) (ws : List Jvm.Cond) (p1 : Int32) (p2 : Int32) (h0 : Heap) (n0 : Nat) (Z0 : n0 ≤ h0.size) :
    MetFree l (⟨"java/lang/Math", "min", "(II)I"⟩ : MethodName) (head1 (Jvm.Cond.code (⟨"java/lang/Math", "min", "(II)I"⟩ : MethodName) jdk_29_method_69_code 2 (some .int) :: ws) ({ frames := 0, cells := 0, slots := 0, locals := 0 } : Room)) (fun a U => a = #[(.int p1), (.int p2)] ∧ Z.Warmed39 U.vm ∧ U.heap = h0) (fun _ _ _ _ _ => True) (fun _ U o U' => ∃ v L, o = .returned v ∧ Q4 Z p1 p2 h0 n0 v U'.heap L ∧ FrameEnd U o U' L ({ frames := 0, cells := 0, slots := 0, locals := 0 } : Room).cells ({ frames := 0, cells := 0, slots := 0, locals := 0 } : Room).slots) := by
  refine MetFree.of_bodySF (Jvm.Free.JP.mathPlain rfl (by decide +kernel)) hisR ?_
  intro p e s m args below meth c s₁ Bd hml0 hP hK
  obtain ⟨rfl, hZ, hh⟩ := hP
  have hx := Bd.exec
  have hby := Bd.bytes
  have hml : c.maxLocals = 2 := hml0
  have hown : s.vm.findClass "java/lang/Math" = some m.cls := findClass_of_methodNamed Bd.named
  have hnm := (name_of_methodNamed Bd.named Bd.method).1
  have X0 : Stand p l e ({ frames := 0, cells := 0, slots := 0, locals := 0 } : Room) s m #[(.int p1), (.int p2)] below meth c s₁ [] 0 0 := Stand.of_body Bd
  have e0 : s₁.heap = h0 := by rw [← hh, Bd.state]; rfl
  have N0 := Fr.nil n0
  obtain ⟨G, hG⟩ : ∃ G : State → Prop, G = OwnG p e below s ({ frames := 0, cells := 0, slots := 0, locals := 0 } : Room).cells ({ frames := 0, cells := 0, slots := 0, locals := 0 } : Room).slots (Q4 Z p1 p2 h0 n0) := ⟨_, rfl⟩
  have go : ∀ {A B : State}, (∀ t, Steps p.tables e below A t → Steps p.tables e below B t) → G A → G B := fun h k => by rw [hG] at k ⊢; exact OwnG.go h k
  suffices k0 : G (s₁.setTop (mkF m 0 #[.val (.int p1), .val (.int p2)] [])) by
    rw [hG] at k0; exact OwnG.go (fun t k => castTop (ef_rm4 m p1 p2) k) k0
  refine go (fun _ k => XS.iloadN X0.here hx rfl (hb hby d4_0) rfl k) ?_
  show G (s₁.setTop (mkF m 1 #[.val (.int p1), .val (.int p2)] [(.int p1)]))
  refine go (fun _ k => XS.iloadN X0.here hx rfl (hb hby d4_1) rfl k) ?_
  show G (s₁.setTop (mkF m 2 #[.val (.int p1), .val (.int p2)] [(.int p2), (.int p1)]))
  by_cases hc2_1 : p2 < p1
  · refine go (fun _ k => XS.icmpYes X0.here hx rfl (pc0 := 2) (pc' := 9) rfl (hb hby d4_2) rfl (tlt hc2_1).2.2.1 (by decide) (by decide) k) ?_
    show G (s₁.setTop (mkF m 9 #[.val (.int p1), .val (.int p2)] []))
    refine go (fun _ k => XS.iloadN X0.here hx rfl (hb hby d4_9) rfl k) ?_
    show G (s₁.setTop (mkF m 10 #[.val (.int p1), .val (.int p2)] [(.int p2)]))
    rw [hG]
    refine own_fin X0 Bd.notSynchronized (v := some (.int p2)) (fun h => by rw [Bd.returns] at h; cases h) (fun fs hr => retOut X0 hx Bd.returns rfl (by simp [FieldType.isReference, Value.isRef]) (hb hby d4_10) hr) ?_ (by decide) (by decide)
    show Q4 Z p1 p2 h0 n0 (some (.int p2)) s₁.heap _
    rw [e0]
    exact ⟨by rw [jmin, if_pos hc2_1], N0, rfl⟩
  · refine go (fun _ k => XS.icmpNo X0.here hx rfl (hb hby d4_2) rfl (flt hc2_1).2.2.1 k) ?_
    show G (s₁.setTop (mkF m 5 #[.val (.int p1), .val (.int p2)] []))
    refine go (fun _ k => XS.iloadN X0.here hx rfl (hb hby d4_5) rfl k) ?_
    show G (s₁.setTop (mkF m 6 #[.val (.int p1), .val (.int p2)] [(.int p1)]))
    refine go (fun _ k => XS.goto X0.here hx rfl (pc0 := 6) (pc' := 10) rfl (hb hby d4_6) (by decide) (by decide) k) ?_
    show G (s₁.setTop (mkF m 10 #[.val (.int p1), .val (.int p2)] [(.int p1)]))
    rw [hG]
    refine own_fin X0 Bd.notSynchronized (v := some (.int p1)) (fun h => by rw [Bd.returns] at h; cases h) (fun fs hr => retOut X0 hx Bd.returns rfl (by simp [FieldType.isReference, Value.isRef]) (hb hby d4_10) hr) ?_ (by decide) (by decide)
    show Q4 Z p1 p2 h0 n0 (some (.int p1)) s₁.heap _
    rw [e0]
    exact ⟨by rw [jmin, if_neg hc2_1], N0, rfl⟩

theorem d7_0 : decode jdk_65_method_131_code 0 = .ok (.iload_n 1, 1) := by decide +kernel
theorem d7_1 : decode jdk_65_method_131_code 1 = .ok (.iload_n 0, 1) := by decide +kernel
theorem d7_2 : decode jdk_65_method_131_code 2 = .ok (.if_icmp .ge 35, 3) := by decide +kernel
theorem d7_37 : decode jdk_65_method_131_code 37 = .ok (.return_, 1) := by decide +kernel
theorem pn_7 : plainName "java/util/Arrays" = true := by first | (simp [plainName, overriddenIn]; done) | decide +kernel
theorem ef_rm7 (m : MethodId) (p1 : Int32) (p2 : Int32) : entryFrame m #[(.int p1), (.int p2)] 2 = mkF m 0 #[.val (.int p1), .val (.int p2)] [] := by first | (simp [entryFrame, mkF, argsToLocals, Value.category]; done) | rfl
def Q7 (Z : State) (p1 : Int32) (p2 : Int32) (h0 : Heap) (n0 : Nat) (v : Option Value) (h : Heap) (L : List Loc) : Prop := v = none ∧ Fr n0 L ∧ h = h0
set_option maxRecDepth 65536 in
set_option maxHeartbeats 40000000 in
theorem rm7 (l : Launch) (Z : State) (a0 : Array Value) (hw : ∀ d ∈ tables_1, d.before a0 Z = true) (ws : List Jvm.Cond) (p1 : Int32) (p2 : Int32) (h0 : Heap) (n0 : Nat) (Z0 : n0 ≤ h0.size) (hq : ¬ (p2 < p1)) :
    MetFree l (⟨"java/util/Arrays", "checkLength", "(II)V"⟩ : MethodName) (head1 (Jvm.Cond.code (⟨"java/util/Arrays", "checkLength", "(II)V"⟩ : MethodName) jdk_65_method_131_code 2 none :: ws) ({ frames := 0, cells := 0, slots := 0, locals := 0 } : Room)) (fun a U => a = #[(.int p1), (.int p2)] ∧ Z.Warmed39 U.vm ∧ U.heap = h0) (fun _ _ _ _ _ => True) (fun _ U o U' => ∃ v L, o = .returned v ∧ Q7 Z p1 p2 h0 n0 v U'.heap L ∧ FrameEnd U o U' L ({ frames := 0, cells := 0, slots := 0, locals := 0 } : Room).cells ({ frames := 0, cells := 0, slots := 0, locals := 0 } : Room).slots) := by
  refine MetFree.of_bodySF (plainFor_of_name pn_7) hisR ?_
  intro p e s m args below meth c s₁ Bd hml0 hP hK
  obtain ⟨rfl, hZ, hh⟩ := hP
  have hx := Bd.exec
  have hby := Bd.bytes
  have hml : c.maxLocals = 2 := hml0
  have hown : s.vm.findClass "java/util/Arrays" = some m.cls := findClass_of_methodNamed Bd.named
  have hnm := (name_of_methodNamed Bd.named Bd.method).1
  have X0 : Stand p l e ({ frames := 0, cells := 0, slots := 0, locals := 0 } : Room) s m #[(.int p1), (.int p2)] below meth c s₁ [] 0 0 := Stand.of_body Bd
  have e0 : s₁.heap = h0 := by rw [← hh, Bd.state]; rfl
  have N0 := Fr.nil n0
  obtain ⟨G, hG⟩ : ∃ G : State → Prop, G = OwnG p e below s ({ frames := 0, cells := 0, slots := 0, locals := 0 } : Room).cells ({ frames := 0, cells := 0, slots := 0, locals := 0 } : Room).slots (Q7 Z p1 p2 h0 n0) := ⟨_, rfl⟩
  have go : ∀ {A B : State}, (∀ t, Steps p.tables e below A t → Steps p.tables e below B t) → G A → G B := fun h k => by rw [hG] at k ⊢; exact OwnG.go h k
  suffices k0 : G (s₁.setTop (mkF m 0 #[.val (.int p1), .val (.int p2)] [])) by
    rw [hG] at k0; exact OwnG.go (fun t k => castTop (ef_rm7 m p1 p2) k) k0
  refine go (fun _ k => XS.iloadN X0.here hx rfl (hb hby d7_0) rfl k) ?_
  show G (s₁.setTop (mkF m 1 #[.val (.int p1), .val (.int p2)] [(.int p2)]))
  refine go (fun _ k => XS.iloadN X0.here hx rfl (hb hby d7_1) rfl k) ?_
  show G (s₁.setTop (mkF m 2 #[.val (.int p1), .val (.int p2)] [(.int p1), (.int p2)]))
  have hc1 : ¬ (p2 < p1) := hq
  refine go (fun _ k => XS.icmpYes X0.here hx rfl (pc0 := 2) (pc' := 37) rfl (hb hby d7_2) rfl (flt hc1).2.1 (by decide) (by decide) k) ?_
  show G (s₁.setTop (mkF m 37 #[.val (.int p1), .val (.int p2)] []))
  rw [hG]
  refine own_fin X0 Bd.notSynchronized (v := none) (fun _ => rfl) (fun fs hr => X0.returnOut hx Bd.returns (hb hby d7_37) hr) ?_ (by decide) (by decide)
  show Q7 Z p1 p2 h0 n0 (none) s₁.heap _
  rw [e0]
  exact ⟨rfl, N0, rfl⟩

theorem d6_0 : decode jdk_65_method_139_code 0 = .ok (.iload_n 1, 1) := by decide +kernel
theorem d6_1 : decode jdk_65_method_139_code 1 = .ok (.iload_n 2, 1) := by decide +kernel
theorem d6_2 : decode jdk_65_method_139_code 2 = .ok (.invokestatic 343, 3) := by decide +kernel
theorem d6_5 : decode jdk_65_method_139_code 5 = .ok (.iload_n 2, 1) := by decide +kernel
theorem d6_6 : decode jdk_65_method_139_code 6 = .ok (.iload_n 1, 1) := by decide +kernel
theorem d6_7 : decode jdk_65_method_139_code 7 = .ok (.isub, 1) := by decide +kernel
theorem d6_8 : decode jdk_65_method_139_code 8 = .ok (.istore_n 3, 1) := by decide +kernel
theorem d6_9 : decode jdk_65_method_139_code 9 = .ok (.iload_n 3, 1) := by decide +kernel
theorem d6_10 : decode jdk_65_method_139_code 10 = .ok (.newarray .long, 2) := by decide +kernel
theorem d6_12 : decode jdk_65_method_139_code 12 = .ok (.astore 4, 2) := by decide +kernel
theorem d6_14 : decode jdk_65_method_139_code 14 = .ok (.aload_n 0, 1) := by decide +kernel
theorem d6_15 : decode jdk_65_method_139_code 15 = .ok (.iload_n 1, 1) := by decide +kernel
theorem d6_16 : decode jdk_65_method_139_code 16 = .ok (.aload 4, 2) := by decide +kernel
theorem d6_18 : decode jdk_65_method_139_code 18 = .ok (.iconst 0, 1) := by decide +kernel
theorem d6_19 : decode jdk_65_method_139_code 19 = .ok (.aload_n 0, 1) := by decide +kernel
theorem d6_20 : decode jdk_65_method_139_code 20 = .ok (.arraylength, 1) := by decide +kernel
theorem d6_21 : decode jdk_65_method_139_code 21 = .ok (.iload_n 1, 1) := by decide +kernel
theorem d6_22 : decode jdk_65_method_139_code 22 = .ok (.isub, 1) := by decide +kernel
theorem d6_23 : decode jdk_65_method_139_code 23 = .ok (.iload_n 3, 1) := by decide +kernel
theorem d6_24 : decode jdk_65_method_139_code 24 = .ok (.invokestatic 304, 3) := by decide +kernel
theorem d6_27 : decode jdk_65_method_139_code 27 = .ok (.invokestatic 150, 3) := by decide +kernel
theorem d6_30 : decode jdk_65_method_139_code 30 = .ok (.aload 4, 2) := by decide +kernel
theorem d6_32 : decode jdk_65_method_139_code 32 = .ok (.areturn, 1) := by decide +kernel
theorem pn_6 : plainName "java/util/Arrays" = true := by first | (simp [plainName, overriddenIn]; done) | decide +kernel
theorem pd_6_0 : parseMethodDescriptor "(II)V" = some ⟨[.int, .int], none⟩ := by decide +kernel
theorem pd_6_1 : parseMethodDescriptor "(II)I" = some ⟨[.int, .int], some .int⟩ := by decide +kernel
theorem ef_rm6 (m : MethodId) (a1 : Addr) (to : Nat) : entryFrame m #[(.ref a1), (.int (0 : Int32)), (.int (Int32.ofNat to))] 5 = mkF m 0 #[.val (.ref a1), .val (.int (0 : Int32)), .val (.int (Int32.ofNat to)), .unset, .unset] [] := by first | (simp [entryFrame, mkF, argsToLocals, Value.category]; done) | rfl
def Q6 (Z : State) (a1 : Addr) (to ln : Nat) (k0 : ClassId) (h0 : Heap) (n0 : Nat) (v : Option Value) (h : Heap) (L : List Loc) : Prop := ∃ (b : Addr) (k : ClassId), v = some (.ref b) ∧ Fr n0 L ∧ Keep h0 h [] ∧ h0.size ≤ b ∧ LA Z h b k to ∧ Exa Z h b "[J"
set_option maxRecDepth 65536 in
set_option maxHeartbeats 40000000 in
theorem rm6 (l : Launch) (Z : State) (a0 : Array Value) (hw : ∀ d ∈ tables_1, d.before a0 Z = true) (ws : List Jvm.Cond) (a1 : Addr) (to ln : Nat) (k0 : ClassId) (h0 : Heap) (n0 : Nat) (Z0 : n0 ≤ h0.size) (VA : LA Z h0 a1 k0 ln) (EA : Exa Z h0 a1 "[J") (hto : to ≤ 12) (hln : ln ≤ 12) (hle : to ≤ ln) :
    MetFree l (⟨"java/util/Arrays", "copyOfRangeLong", "([JII)[J"⟩ : MethodName) (head1 (Jvm.Cond.code (⟨"java/util/Arrays", "copyOfRangeLong", "([JII)[J"⟩ : MethodName) jdk_65_method_139_code 5 (some (.array .long)) :: ws) ({ frames := 1, cells := 1, slots := 12, locals := 30 } : Room)) (fun a U => a = #[(.ref a1), (.int (0 : Int32)), (.int (Int32.ofNat to))] ∧ Z.Warmed39 U.vm ∧ U.heap = h0) (fun _ _ _ _ _ => True) (fun _ U o U' => ∃ v L, o = .returned v ∧ Q6 Z a1 to ln k0 h0 n0 v U'.heap L ∧ FrameEnd U o U' L ({ frames := 1, cells := 1, slots := 12, locals := 30 } : Room).cells ({ frames := 1, cells := 1, slots := 12, locals := 30 } : Room).slots) := by
  refine MetFree.of_bodySF (plainFor_of_name pn_6) hisR ?_
  intro p e s m args below meth c s₁ Bd hml0 hP hK
  obtain ⟨rfl, hZ, hh⟩ := hP
  have hx := Bd.exec
  have hby := Bd.bytes
  have hml : c.maxLocals = 5 := hml0
  have hown : s.vm.findClass "java/util/Arrays" = some m.cls := findClass_of_methodNamed Bd.named
  have hnm := (name_of_methodNamed Bd.named Bd.method).1
  have X0 : Stand p l e ({ frames := 1, cells := 1, slots := 12, locals := 30 } : Room) s m #[(.ref a1), (.int (0 : Int32)), (.int (Int32.ofNat to))] below meth c s₁ [] 0 0 := Stand.of_body Bd
  have e0 : s₁.heap = h0 := by rw [← hh, Bd.state]; rfl
  have N0 := Fr.nil n0
  obtain ⟨G, hG⟩ : ∃ G : State → Prop, G = OwnG p e below s ({ frames := 1, cells := 1, slots := 12, locals := 30 } : Room).cells ({ frames := 1, cells := 1, slots := 12, locals := 30 } : Room).slots (Q6 Z a1 to ln k0 h0 n0) := ⟨_, rfl⟩
  have go : ∀ {A B : State}, (∀ t, Steps p.tables e below A t → Steps p.tables e below B t) → G A → G B := fun h k => by rw [hG] at k ⊢; exact OwnG.go h k
  suffices k0 : G (s₁.setTop (mkF m 0 #[.val (.ref a1), .val (.int (0 : Int32)), .val (.int (Int32.ofNat to)), .unset, .unset] [])) by
    rw [hG] at k0; exact OwnG.go (fun t k => castTop (ef_rm6 m a1 to) k) k0
  have K0 : Keep h0 h0 [] := Keep.refl _ _
  refine go (fun _ k => XS.iloadN X0.here hx rfl (hb hby d6_0) rfl k) ?_
  show G (s₁.setTop (mkF m 1 #[.val (.ref a1), .val (.int (0 : Int32)), .val (.int (Int32.ofNat to)), .unset, .unset] [(.int (0 : Int32))]))
  refine go (fun _ k => XS.iloadN X0.here hx rfl (hb hby d6_1) rfl k) ?_
  show G (s₁.setTop (mkF m 2 #[.val (.ref a1), .val (.int (0 : Int32)), .val (.int (Int32.ofNat to)), .unset, .unset] [(.int (Int32.ofNat to)), (.int (0 : Int32))]))
  obtain ⟨_, _, ⟨T1, L1, k1, n1⟩, -, X1, ⟨Lc1, hQ1, l1, y1, z1⟩, st1⟩ := Jvm.LawKit.callS X0 hx (y := (⟨"java/util/Arrays", "checkLength", "(II)V"⟩ : MethodName)) hown (mvT hZ (hw _ (List.mem_of_getElem? (i := 37) rfl))) (mvT hZ (hw _ (List.mem_of_getElem? (i := 38) rfl))) (mvT hZ (hw _ (List.mem_of_getElem? (i := 32) rfl))) (mvT hZ (hw _ (List.mem_of_getElem? (i := 39) rfl))) (by decide) (backOf (W := 0) (rm7 l Z a0 hw [] (0 : Int32) (Int32.ofNat to) h0 n0 Z0 (own_onnn _ (by omega))) hZ (hw _ (List.mem_of_getElem? (i := 39) rfl)) (hw _ (List.mem_of_getElem? (i := 32) rfl)) (by decide) (by decide)) (g := (mkF m 2 #[.val (.ref a1), .val (.int (0 : Int32)), .val (.int (Int32.ofNat to)), .unset, .unset] [(.int (Int32.ofNat to)), (.int (0 : Int32))])) rfl (by rw [hml]; rfl) (argsL := [(.int (0 : Int32)), (.int (Int32.ofNat to))]) (rest := []) (lenOf pd_6_0 rfl) rfl (by show 2 * 0 + _ ≤ _; exact Nat.le_of_eq rfl) (hb hby d6_2) (fun _ _ => ⟨rfl, e0, (by decide : 0 + 0 ≤ _), (by decide : 0 + 0 ≤ _)⟩)
  dsimp only [Pt.U, Pt.locs, Pt.cells, Pt.slots] at X1 l1 y1 z1 st1 hQ1
  subst l1 y1 z1
  obtain ⟨rfl, N1q, e1⟩ := hQ1
  have N1 := Fr.app N0 N1q
  refine go st1 ?_
  show G (T1.setTop (mkF m 5 #[.val (.ref a1), .val (.int (0 : Int32)), .val (.int (Int32.ofNat to)), .unset, .unset] []))
  refine go (fun _ k => XS.iloadN X1.here hx rfl (hb hby d6_5) rfl k) ?_
  show G (T1.setTop (mkF m 6 #[.val (.ref a1), .val (.int (0 : Int32)), .val (.int (Int32.ofNat to)), .unset, .unset] [(.int (Int32.ofNat to))]))
  refine go (fun _ k => XS.iloadN X1.here hx rfl (hb hby d6_6) rfl k) ?_
  show G (T1.setTop (mkF m 7 #[.val (.ref a1), .val (.int (0 : Int32)), .val (.int (Int32.ofNat to)), .unset, .unset] [(.int (0 : Int32)), (.int (Int32.ofNat to))]))
  refine go (fun _ k => XS.isub X1.here hx rfl (hb hby d6_7) rfl k) ?_
  show G (T1.setTop (mkF m 8 #[.val (.ref a1), .val (.int (0 : Int32)), .val (.int (Int32.ofNat to)), .unset, .unset] [(.int ((Int32.ofNat to) - (0 : Int32)))]))
  rw [show ((Int32.ofNat to) - (0 : Int32)) = (Int32.ofNat (to - 0)) from own_onsub to 0 (by omega)]
  show G (T1.setTop (mkF m 8 #[.val (.ref a1), .val (.int (0 : Int32)), .val (.int (Int32.ofNat to)), .unset, .unset] [(.int (Int32.ofNat (to - 0)))]))
  refine go (fun _ k => XS.istoreN X1.here hx rfl (hb hby d6_8) rfl (l' := #[.val (.ref a1), .val (.int (0 : Int32)), .val (.int (Int32.ofNat to)), .val (.int (Int32.ofNat (to - 0))), .unset]) rfl k) ?_
  show G (T1.setTop (mkF m 9 #[.val (.ref a1), .val (.int (0 : Int32)), .val (.int (Int32.ofNat to)), .val (.int (Int32.ofNat (to - 0))), .unset] []))
  refine go (fun _ k => XS.iloadN X1.here hx rfl (hb hby d6_9) rfl k) ?_
  show G (T1.setTop (mkF m 10 #[.val (.ref a1), .val (.int (0 : Int32)), .val (.int (Int32.ofNat to)), .val (.int (Int32.ofNat (to - 0))), .unset] [(.int (Int32.ofNat (to - 0)))]))
  obtain ⟨T2, h2, k2, X2, e2, E2, A2, B2, st2⟩ := newPE X1 hx hZ (hw _ (List.mem_of_getElem? (i := 1) rfl)) e1 (g := (mkF m 10 #[.val (.ref a1), .val (.int (0 : Int32)), .val (.int (Int32.ofNat to)), .val (.int (Int32.ofNat (to - 0))), .unset] [(.int (Int32.ofNat (to - 0)))])) rfl (hb hby d6_10) rfl (own_onnn _ (by omega)) (cap := 12) (by rw [own_onnat _ (by omega)]; omega) (by decide) (by decide) (by decide) (ad := "[J") (by decide)
  obtain ⟨b2, ga2⟩ : ∃ z, z = h0.size := ⟨_, rfl⟩
  have ne_a1_b2 : a1 ≠ b2 := Nat.ne_of_lt (Nat.lt_of_lt_of_le VA.lt (Nat.le_of_eq ga2.symm))
  have g_b2 : n0 ≤ b2 := Nat.le_trans Z0 (Nat.le_of_eq ga2.symm)
  have sz_b2 : h0.size ≤ b2 := Nat.le_trans K0.1 (Nat.le_of_eq ga2.symm)
  rw [← ga2] at A2 B2 st2
  have f3 := VA.ext E2
  have f4 := EA.ext E2
  have K2 : Keep h0 h2 [] := K0.ext E2
  have Zs2 : n0 ≤ h2.size := Nat.le_trans Z0 E2.1
  have V2 : LA Z h2 b2 k2 (to - 0) := ⟨_, by rw [List.length_append, List.length_replicate]; exact Nat.zero_add _, (Arv.new A2 (own_onnn _ (by omega))).pad (pad_rep [] (.long (0 : Int64)) (to - 0))⟩
  refine go st2 ?_
  show G (T2.setTop (mkF m 12 #[.val (.ref a1), .val (.int (0 : Int32)), .val (.int (Int32.ofNat to)), .val (.int (Int32.ofNat (to - 0))), .unset] [(.ref b2)]))
  refine go (fun _ k => XS.astore X2.here hx rfl (hb hby d6_12) rfl rfl (l' := #[.val (.ref a1), .val (.int (0 : Int32)), .val (.int (Int32.ofNat to)), .val (.int (Int32.ofNat (to - 0))), .val (.ref b2)]) rfl k) ?_
  show G (T2.setTop (mkF m 14 #[.val (.ref a1), .val (.int (0 : Int32)), .val (.int (Int32.ofNat to)), .val (.int (Int32.ofNat (to - 0))), .val (.ref b2)] []))
  refine go (fun _ k => XS.aloadN X2.here hx rfl (hb hby d6_14) rfl rfl k) ?_
  show G (T2.setTop (mkF m 15 #[.val (.ref a1), .val (.int (0 : Int32)), .val (.int (Int32.ofNat to)), .val (.int (Int32.ofNat (to - 0))), .val (.ref b2)] [(.ref a1)]))
  refine go (fun _ k => XS.iloadN X2.here hx rfl (hb hby d6_15) rfl k) ?_
  show G (T2.setTop (mkF m 16 #[.val (.ref a1), .val (.int (0 : Int32)), .val (.int (Int32.ofNat to)), .val (.int (Int32.ofNat (to - 0))), .val (.ref b2)] [(.int (0 : Int32)), (.ref a1)]))
  refine go (fun _ k => XS.aload X2.here hx rfl (hb hby d6_16) rfl rfl k) ?_
  show G (T2.setTop (mkF m 18 #[.val (.ref a1), .val (.int (0 : Int32)), .val (.int (Int32.ofNat to)), .val (.int (Int32.ofNat (to - 0))), .val (.ref b2)] [(.ref b2), (.int (0 : Int32)), (.ref a1)]))
  refine go (fun _ k => XS.iconst X2.here hx rfl (hb hby d6_18) k) ?_
  show G (T2.setTop (mkF m 19 #[.val (.ref a1), .val (.int (0 : Int32)), .val (.int (Int32.ofNat to)), .val (.int (Int32.ofNat (to - 0))), .val (.ref b2)] [(.int (0 : Int32)), (.ref b2), (.int (0 : Int32)), (.ref a1)]))
  refine go (fun _ k => XS.aloadN X2.here hx rfl (hb hby d6_19) rfl rfl k) ?_
  show G (T2.setTop (mkF m 20 #[.val (.ref a1), .val (.int (0 : Int32)), .val (.int (Int32.ofNat to)), .val (.int (Int32.ofNat (to - 0))), .val (.ref b2)] [(.ref a1), (.int (0 : Int32)), (.ref b2), (.int (0 : Int32)), (.ref a1)]))
  obtain ⟨vb5, lb5, VB5⟩ := id f3
  obtain ⟨cl6, Ar6, qk6, qs6, qn6, qh6, qg6⟩ := id VB5
  refine go (X2.arraylength hx (by rw [e2]; exact Ar6.1) (State.isArrayOf_alike hZ.alike Ar6.2.1) (g := (mkF m 20 #[.val (.ref a1), .val (.int (0 : Int32)), .val (.int (Int32.ofNat to)), .val (.int (Int32.ofNat (to - 0))), .val (.ref b2)] [(.ref a1), (.int (0 : Int32)), (.ref b2), (.int (0 : Int32)), (.ref a1)])) rfl rfl (hb hby d6_20)) ?_
  rw [len_of qs6 qn6]
  show G (T2.setTop (mkF m 21 #[.val (.ref a1), .val (.int (0 : Int32)), .val (.int (Int32.ofNat to)), .val (.int (Int32.ofNat (to - 0))), .val (.ref b2)] [(.int (Int32.ofNat ln)), (.int (0 : Int32)), (.ref b2), (.int (0 : Int32)), (.ref a1)]))
  refine go (fun _ k => XS.iloadN X2.here hx rfl (hb hby d6_21) rfl k) ?_
  show G (T2.setTop (mkF m 22 #[.val (.ref a1), .val (.int (0 : Int32)), .val (.int (Int32.ofNat to)), .val (.int (Int32.ofNat (to - 0))), .val (.ref b2)] [(.int (0 : Int32)), (.int (Int32.ofNat ln)), (.int (0 : Int32)), (.ref b2), (.int (0 : Int32)), (.ref a1)]))
  refine go (fun _ k => XS.isub X2.here hx rfl (hb hby d6_22) rfl k) ?_
  show G (T2.setTop (mkF m 23 #[.val (.ref a1), .val (.int (0 : Int32)), .val (.int (Int32.ofNat to)), .val (.int (Int32.ofNat (to - 0))), .val (.ref b2)] [(.int ((Int32.ofNat ln) - (0 : Int32))), (.int (0 : Int32)), (.ref b2), (.int (0 : Int32)), (.ref a1)]))
  rw [show ((Int32.ofNat ln) - (0 : Int32)) = (Int32.ofNat (ln - 0)) from own_onsub ln 0 (by omega)]
  show G (T2.setTop (mkF m 23 #[.val (.ref a1), .val (.int (0 : Int32)), .val (.int (Int32.ofNat to)), .val (.int (Int32.ofNat (to - 0))), .val (.ref b2)] [(.int (Int32.ofNat (ln - 0))), (.int (0 : Int32)), (.ref b2), (.int (0 : Int32)), (.ref a1)]))
  refine go (fun _ k => XS.iloadN X2.here hx rfl (hb hby d6_23) rfl k) ?_
  show G (T2.setTop (mkF m 24 #[.val (.ref a1), .val (.int (0 : Int32)), .val (.int (Int32.ofNat to)), .val (.int (Int32.ofNat (to - 0))), .val (.ref b2)] [(.int (Int32.ofNat (to - 0))), (.int (Int32.ofNat (ln - 0))), (.int (0 : Int32)), (.ref b2), (.int (0 : Int32)), (.ref a1)]))
  obtain ⟨_, _, ⟨T7, L7, k7, n7⟩, -, X7, ⟨Lc7, hQ7, l7, y7, z7⟩, st7⟩ := Jvm.LawKit.callS X2 hx (y := (⟨"java/lang/Math", "min", "(II)I"⟩ : MethodName)) hown (mvT hZ (hw _ (List.mem_of_getElem? (i := 40) rfl))) (mvT hZ (hw _ (List.mem_of_getElem? (i := 26) rfl))) (mvT hZ (hw _ (List.mem_of_getElem? (i := 17) rfl))) (mvT hZ (hw _ (List.mem_of_getElem? (i := 27) rfl))) (by decide) (backOf (W := 4) (rm4 l Z a0 hw [] (Int32.ofNat (ln - 0)) (Int32.ofNat (to - 0)) h2 n0 Zs2) hZ (hw _ (List.mem_of_getElem? (i := 27) rfl)) (hw _ (List.mem_of_getElem? (i := 17) rfl)) (by decide) (by decide)) (g := (mkF m 24 #[.val (.ref a1), .val (.int (0 : Int32)), .val (.int (Int32.ofNat to)), .val (.int (Int32.ofNat (to - 0))), .val (.ref b2)] [(.int (Int32.ofNat (to - 0))), (.int (Int32.ofNat (ln - 0))), (.int (0 : Int32)), (.ref b2), (.int (0 : Int32)), (.ref a1)])) rfl (by rw [hml]; rfl) (argsL := [(.int (Int32.ofNat (ln - 0))), (.int (Int32.ofNat (to - 0)))]) (rest := [(.int (0 : Int32)), (.ref b2), (.int (0 : Int32)), (.ref a1)]) (lenOf pd_6_1 rfl) rfl (by show 2 * 0 + _ ≤ _; exact Nat.le_of_eq rfl) (hb hby d6_24) (fun _ _ => ⟨rfl, e2, (by decide : 1 + 0 ≤ _), (by decide : 12 + 0 ≤ _)⟩)
  dsimp only [Pt.U, Pt.locs, Pt.cells, Pt.slots] at X7 l7 y7 z7 st7 hQ7
  subst l7 y7 z7
  obtain ⟨rfl, N7q, e7⟩ := hQ7
  have N7 := Fr.app N1 N7q
  refine go st7 ?_
  show G (T7.setTop (mkF m 27 #[.val (.ref a1), .val (.int (0 : Int32)), .val (.int (Int32.ofNat to)), .val (.int (Int32.ofNat (to - 0))), .val (.ref b2)] [(.int (jmin (Int32.ofNat (ln - 0)) (Int32.ofNat (to - 0)))), (.int (0 : Int32)), (.ref b2), (.int (0 : Int32)), (.ref a1)]))
  rw [show (jmin (Int32.ofNat (ln - 0)) (Int32.ofNat (to - 0))) = (Int32.ofNat (to - 0)) from own_jminR (ln - 0) (to - 0) (by omega) (by omega)]
  show G (T7.setTop (mkF m 27 #[.val (.ref a1), .val (.int (0 : Int32)), .val (.int (Int32.ofNat to)), .val (.int (Int32.ofNat (to - 0))), .val (.ref b2)] [(.int (Int32.ofNat (to - 0))), (.int (0 : Int32)), (.ref b2), (.int (0 : Int32)), (.ref a1)]))
  obtain ⟨va8, la8, VA8⟩ := id f3
  obtain ⟨vb8, lb8, VB8⟩ := id V2
  have qN8 : (Int32.ofNat (to - 0)).toNatClampNeg = (to - 0) := own_onnat _ (by omega)
  have qD8 : (Int32.ofNat 0).toNatClampNeg = 0 := own_onnat _ (by omega)
  have qS8 : (Int32.ofNat 0).toNatClampNeg = 0 := own_onnat _ (by omega)
  have qA8 : (Int32.ofNat ln).toNatClampNeg = ln := own_onnat _ (by omega)
  have qB8 : (Int32.ofNat (to - 0)).toNatClampNeg = (to - 0) := own_onnat _ (by omega)
  have i48 : (Int32.ofNat 0).toNatClampNeg + (Int32.ofNat (to - 0)).toNatClampNeg ≤ (Int32.ofNat ln).toNatClampNeg := by omega
  have i58 : (Int32.ofNat 0).toNatClampNeg + (Int32.ofNat (to - 0)).toNatClampNeg ≤ (Int32.ofNat (to - 0)).toNatClampNeg := by omega
  have i68 : (Int32.ofNat 0).toNatClampNeg + (Int32.ofNat (to - 0)).toNatClampNeg ≤ vb8.length := by omega
  obtain ⟨T8, h8, Lx8, X8, e8, N8, Kp8, Vc8, st8⟩ := cpA X7 hx hZ hown (hw _ (List.mem_of_getElem? (i := 41) rfl)) (hw _ (List.mem_of_getElem? (i := 44) rfl)) (hw _ (List.mem_of_getElem? (i := 42) rfl)) (hw _ (List.mem_of_getElem? (i := 43) rfl)) e7 VA8 VB8 (sp := Int32.ofNat 0) (dp := Int32.ofNat 0) (nn := Int32.ofNat (to - 0)) (Or.inl ⟨rfl, rfl⟩) (own_onnn _ (by omega)) (own_onnn _ (by omega)) (own_onnn _ (by omega)) i48 i58 rfl i68 N7 g_b2 (g := (mkF m 27 #[.val (.ref a1), .val (.int (0 : Int32)), .val (.int (Int32.ofNat to)), .val (.int (Int32.ofNat (to - 0))), .val (.ref b2)] [(.int (Int32.ofNat (to - 0))), (.int (0 : Int32)), (.ref b2), (.int (0 : Int32)), (.ref a1)])) rfl (by rw [hml]; rfl) rfl (hb hby d6_27) (by decide) (W := 0) (by show 2 * 0 + _ ≤ _; exact Nat.le_of_eq rfl) (by decide)
  have f9 := f3.keep Kp8 (ninS ne_a1_b2 nin0)
  have f10 := f4.keep Kp8
  have f11 := B2.keep Kp8
  have K8 : Keep h0 h8 [] := K2.trans Kp8 (allS (P := fun x => x ∈ [] ∨ h0.size ≤ x) (Or.inr sz_b2) all0)
  have Zs8 : n0 ≤ h8.size := Nat.le_trans Zs2 Kp8.1
  have V8 : LA Z h8 b2 k2 (to - 0) := ⟨_, own_cplen _ _ _ _ _ lb8 (by rw [List.length_map, List.length_range]) (by omega), Vc8⟩
  refine go st8 ?_
  show G (T8.setTop (mkF m 30 #[.val (.ref a1), .val (.int (0 : Int32)), .val (.int (Int32.ofNat to)), .val (.int (Int32.ofNat (to - 0))), .val (.ref b2)] []))
  refine go (fun _ k => XS.aload X8.here hx rfl (hb hby d6_30) rfl rfl k) ?_
  show G (T8.setTop (mkF m 32 #[.val (.ref a1), .val (.int (0 : Int32)), .val (.int (Int32.ofNat to)), .val (.int (Int32.ofNat (to - 0))), .val (.ref b2)] [(.ref b2)]))
  rw [hG]
  refine own_fin X8 Bd.notSynchronized (v := some (.ref b2)) (fun h => by rw [Bd.returns] at h; cases h) (fun fs hr => retOut X8 hx Bd.returns rfl (by simp [FieldType.isReference, Value.isRef]) (hb hby d6_32) hr) ?_ (by decide) (by decide)
  show Q6 Z a1 to ln k0 h0 n0 (some (.ref b2)) T8.heap _
  rw [e8]
  exact ⟨b2, k2, rfl, N8, K8, sz_b2, V8, f11⟩

theorem d5_0 : decode jdk_65_method_138_code 0 = .ok (.iload_n 1, 1) := by decide +kernel
theorem d5_1 : decode jdk_65_method_138_code 1 = .ok (.ifCond .ne 9, 3) := by decide +kernel
theorem d5_4 : decode jdk_65_method_138_code 4 = .ok (.iload_n 2, 1) := by decide +kernel
theorem d5_5 : decode jdk_65_method_138_code 5 = .ok (.aload_n 0, 1) := by decide +kernel
theorem d5_6 : decode jdk_65_method_138_code 6 = .ok (.arraylength, 1) := by decide +kernel
theorem d5_7 : decode jdk_65_method_138_code 7 = .ok (.if_icmp .eq 10, 3) := by decide +kernel
theorem d5_10 : decode jdk_65_method_138_code 10 = .ok (.aload_n 0, 1) := by decide +kernel
theorem d5_11 : decode jdk_65_method_138_code 11 = .ok (.iload_n 1, 1) := by decide +kernel
theorem d5_12 : decode jdk_65_method_138_code 12 = .ok (.iload_n 2, 1) := by decide +kernel
theorem d5_13 : decode jdk_65_method_138_code 13 = .ok (.invokestatic 355, 3) := by decide +kernel
theorem d5_16 : decode jdk_65_method_138_code 16 = .ok (.areturn, 1) := by decide +kernel
theorem d5_17 : decode jdk_65_method_138_code 17 = .ok (.aload_n 0, 1) := by decide +kernel
theorem d5_18 : decode jdk_65_method_138_code 18 = .ok (.invokevirtual 319, 3) := by decide +kernel
theorem d5_21 : decode jdk_65_method_138_code 21 = .ok (.checkcast 320, 3) := by decide +kernel
theorem d5_24 : decode jdk_65_method_138_code 24 = .ok (.areturn, 1) := by decide +kernel
theorem pn_5 : plainName "java/util/Arrays" = true := by first | (simp [plainName, overriddenIn]; done) | decide +kernel
theorem pd_5_0 : parseMethodDescriptor "([JII)[J" = some ⟨[(.array .long), .int, .int], some (.array .long)⟩ := by decide +kernel
theorem ef_rm5 (m : MethodId) (a1 : Addr) (to : Nat) : entryFrame m #[(.ref a1), (.int (0 : Int32)), (.int (Int32.ofNat to))] 3 = mkF m 0 #[.val (.ref a1), .val (.int (0 : Int32)), .val (.int (Int32.ofNat to))] [] := by first | (simp [entryFrame, mkF, argsToLocals, Value.category]; done) | rfl
def Q5 (Z : State) (a1 : Addr) (to ln : Nat) (k0 : ClassId) (h0 : Heap) (n0 : Nat) (v : Option Value) (h : Heap) (L : List Loc) : Prop := ∃ (b : Addr) (k : ClassId), v = some (.ref b) ∧ Fr n0 L ∧ Keep h0 h [] ∧ h0.size ≤ b ∧ LA Z h b k to ∧ Exa Z h b "[J"
set_option maxRecDepth 65536 in
set_option maxHeartbeats 40000000 in
theorem rm5 (l : Launch) (Z : State) (a0 : Array Value) (hw : ∀ d ∈ tables_1, d.before a0 Z = true) (ws : List Jvm.Cond) (a1 : Addr) (to ln : Nat) (k0 : ClassId) (h0 : Heap) (n0 : Nat) (Z0 : n0 ≤ h0.size) (VA : LA Z h0 a1 k0 ln) (EA : Exa Z h0 a1 "[J") (hto : to ≤ 12) (hln : ln ≤ 12) (hle : to ≤ ln) :
    MetFree l (⟨"java/util/Arrays", "copyOfRange", "([JII)[J"⟩ : MethodName) (head1 (Jvm.Cond.code (⟨"java/util/Arrays", "copyOfRange", "([JII)[J"⟩ : MethodName) jdk_65_method_138_code 3 (some (.array .long)) :: ws) ({ frames := 2, cells := 1, slots := 12, locals := 50 } : Room)) (fun a U => a = #[(.ref a1), (.int (0 : Int32)), (.int (Int32.ofNat to))] ∧ Z.Warmed39 U.vm ∧ U.heap = h0) (fun _ _ _ _ _ => True) (fun _ U o U' => ∃ v L, o = .returned v ∧ Q5 Z a1 to ln k0 h0 n0 v U'.heap L ∧ FrameEnd U o U' L ({ frames := 2, cells := 1, slots := 12, locals := 50 } : Room).cells ({ frames := 2, cells := 1, slots := 12, locals := 50 } : Room).slots) := by
  refine MetFree.of_bodySF (plainFor_of_name pn_5) hisR ?_
  intro p e s m args below meth c s₁ Bd hml0 hP hK
  obtain ⟨rfl, hZ, hh⟩ := hP
  have hx := Bd.exec
  have hby := Bd.bytes
  have hml : c.maxLocals = 3 := hml0
  have hown : s.vm.findClass "java/util/Arrays" = some m.cls := findClass_of_methodNamed Bd.named
  have hnm := (name_of_methodNamed Bd.named Bd.method).1
  have X0 : Stand p l e ({ frames := 2, cells := 1, slots := 12, locals := 50 } : Room) s m #[(.ref a1), (.int (0 : Int32)), (.int (Int32.ofNat to))] below meth c s₁ [] 0 0 := Stand.of_body Bd
  have e0 : s₁.heap = h0 := by rw [← hh, Bd.state]; rfl
  have N0 := Fr.nil n0
  obtain ⟨G, hG⟩ : ∃ G : State → Prop, G = OwnG p e below s ({ frames := 2, cells := 1, slots := 12, locals := 50 } : Room).cells ({ frames := 2, cells := 1, slots := 12, locals := 50 } : Room).slots (Q5 Z a1 to ln k0 h0 n0) := ⟨_, rfl⟩
  have go : ∀ {A B : State}, (∀ t, Steps p.tables e below A t → Steps p.tables e below B t) → G A → G B := fun h k => by rw [hG] at k ⊢; exact OwnG.go h k
  suffices k0 : G (s₁.setTop (mkF m 0 #[.val (.ref a1), .val (.int (0 : Int32)), .val (.int (Int32.ofNat to))] [])) by
    rw [hG] at k0; exact OwnG.go (fun t k => castTop (ef_rm5 m a1 to) k) k0
  have K0 : Keep h0 h0 [] := Keep.refl _ _
  refine go (fun _ k => XS.iloadN X0.here hx rfl (hb hby d5_0) rfl k) ?_
  show G (s₁.setTop (mkF m 1 #[.val (.ref a1), .val (.int (0 : Int32)), .val (.int (Int32.ofNat to))] [(.int (0 : Int32))]))
  have hc1 : (0 : Int32) = (0 : Int32) := rfl
  refine go (fun _ k => XS.ifNo X0.here hx rfl (hb hby d5_1) rfl ((if0 _ _).trans (teq hc1).2) k) ?_
  show G (s₁.setTop (mkF m 4 #[.val (.ref a1), .val (.int (0 : Int32)), .val (.int (Int32.ofNat to))] []))
  by_cases hN : to = ln
  · show G (s₁.setTop (mkF m 4 #[.val (.ref a1), .val (.int (0 : Int32)), .val (.int (Int32.ofNat to))] []))
    refine go (fun _ k => XS.iloadN X0.here hx rfl (hb hby d5_4) rfl k) ?_
    show G (s₁.setTop (mkF m 5 #[.val (.ref a1), .val (.int (0 : Int32)), .val (.int (Int32.ofNat to))] [(.int (Int32.ofNat to))]))
    refine go (fun _ k => XS.aloadN X0.here hx rfl (hb hby d5_5) rfl rfl k) ?_
    show G (s₁.setTop (mkF m 6 #[.val (.ref a1), .val (.int (0 : Int32)), .val (.int (Int32.ofNat to))] [(.ref a1), (.int (Int32.ofNat to))]))
    obtain ⟨vb2, lb2, VB2⟩ := id VA
    obtain ⟨cl3, Ar3, qk3, qs3, qn3, qh3, qg3⟩ := id VB2
    refine go (X0.arraylength hx (by rw [e0]; exact Ar3.1) (State.isArrayOf_alike hZ.alike Ar3.2.1) (g := (mkF m 6 #[.val (.ref a1), .val (.int (0 : Int32)), .val (.int (Int32.ofNat to))] [(.ref a1), (.int (Int32.ofNat to))])) rfl rfl (hb hby d5_6)) ?_
    rw [len_of qs3 qn3]
    show G (s₁.setTop (mkF m 7 #[.val (.ref a1), .val (.int (0 : Int32)), .val (.int (Int32.ofNat to))] [(.int (Int32.ofNat ln)), (.int (Int32.ofNat to))]))
    have hc4 : (Int32.ofNat to) = (Int32.ofNat ln) := congrArg Int32.ofNat hN
    refine go (fun _ k => XS.icmpYes X0.here hx rfl (pc0 := 7) (pc' := 17) rfl (hb hby d5_7) rfl (teq hc4).1 (by decide) (by decide) k) ?_
    show G (s₁.setTop (mkF m 17 #[.val (.ref a1), .val (.int (0 : Int32)), .val (.int (Int32.ofNat to))] []))
    refine go (fun _ k => XS.aloadN X0.here hx rfl (hb hby d5_17) rfl rfl k) ?_
    show G (s₁.setTop (mkF m 18 #[.val (.ref a1), .val (.int (0 : Int32)), .val (.int (Int32.ofNat to))] [(.ref a1)]))
    obtain ⟨vb5, lb5, VB5⟩ := id VA
    obtain ⟨T5, h5, X5, e5, E5, Vh5, A5, st5⟩ := cloneH X0 hx hZ hown (hw _ (List.mem_of_getElem? (i := 92) rfl)) (hw _ (List.mem_of_getElem? (i := 93) rfl)) (hw _ (List.mem_of_getElem? (i := 97) rfl)) (hw _ (List.mem_of_getElem? (i := 95) rfl)) (hw _ (List.mem_of_getElem? (i := 96) rfl)) (hw _ (List.mem_of_getElem? (i := 98) rfl)) e0 VB5.arh EA (g := (mkF m 18 #[.val (.ref a1), .val (.int (0 : Int32)), .val (.int (Int32.ofNat to))] [(.ref a1)])) rfl (by rw [hml]; rfl) rfl (hb hby d5_18) (by decide) (W := 0) (cap := 12) (by show 2 * 0 + _ ≤ _; exact Nat.le_of_eq rfl) (by decide) (by rw [own_onnat _ (by omega)]; omega) (by decide) (by decide)
    obtain ⟨b5, ga5⟩ : ∃ z, z = h0.size := ⟨_, rfl⟩
    have ne_a1_b5 : a1 ≠ b5 := Nat.ne_of_lt (Nat.lt_of_lt_of_le VA.lt (Nat.le_of_eq ga5.symm))
    have g_b5 : n0 ≤ b5 := Nat.le_trans Z0 (Nat.le_of_eq ga5.symm)
    have sz_b5 : h0.size ≤ b5 := Nat.le_trans K0.1 (Nat.le_of_eq ga5.symm)
    rw [← ga5] at Vh5 A5 st5
    have f6 := VA.ext E5
    have f7 := EA.ext E5
    have K5 : Keep h0 h5 [] := K0.ext E5
    have Zs5 : n0 ≤ h5.size := Nat.le_trans Z0 E5.1
    have V5 : LA Z h5 b5 k0 ln := ⟨_, lb5, Vh5⟩
    refine go st5 ?_
    show G (T5.setTop (mkF m 21 #[.val (.ref a1), .val (.int (0 : Int32)), .val (.int (Int32.ofNat to))] [(.ref b5)]))
    obtain ⟨T8, X8, e8, st8⟩ := castY X5 hx hZ hown (hw _ (List.mem_of_getElem? (i := 99) rfl)) e5 (Ins.self A5) (g := (mkF m 21 #[.val (.ref a1), .val (.int (0 : Int32)), .val (.int (Int32.ofNat to))] [(.ref b5)])) rfl rfl (hb hby d5_21)
    refine go st8 ?_
    show G (T8.setTop (mkF m 24 #[.val (.ref a1), .val (.int (0 : Int32)), .val (.int (Int32.ofNat to))] [(.ref b5)]))
    rw [hG]
    refine own_fin X8 Bd.notSynchronized (v := some (.ref b5)) (fun h => by rw [Bd.returns] at h; cases h) (fun fs hr => retOut X8 hx Bd.returns rfl (by simp [FieldType.isReference, Value.isRef]) (hb hby d5_24) hr) ?_ (by decide) (by decide)
    show Q5 Z a1 to ln k0 h0 n0 (some (.ref b5)) T8.heap _
    rw [e8]
    exact ⟨b5, k0, rfl, N0, K5, sz_b5, (hN.symm ▸ V5), A5⟩
  · show G (s₁.setTop (mkF m 4 #[.val (.ref a1), .val (.int (0 : Int32)), .val (.int (Int32.ofNat to))] []))
    refine go (fun _ k => XS.iloadN X0.here hx rfl (hb hby d5_4) rfl k) ?_
    show G (s₁.setTop (mkF m 5 #[.val (.ref a1), .val (.int (0 : Int32)), .val (.int (Int32.ofNat to))] [(.int (Int32.ofNat to))]))
    refine go (fun _ k => XS.aloadN X0.here hx rfl (hb hby d5_5) rfl rfl k) ?_
    show G (s₁.setTop (mkF m 6 #[.val (.ref a1), .val (.int (0 : Int32)), .val (.int (Int32.ofNat to))] [(.ref a1), (.int (Int32.ofNat to))]))
    obtain ⟨vb9, lb9, VB9⟩ := id VA
    obtain ⟨cl10, Ar10, qk10, qs10, qn10, qh10, qg10⟩ := id VB9
    refine go (X0.arraylength hx (by rw [e0]; exact Ar10.1) (State.isArrayOf_alike hZ.alike Ar10.2.1) (g := (mkF m 6 #[.val (.ref a1), .val (.int (0 : Int32)), .val (.int (Int32.ofNat to))] [(.ref a1), (.int (Int32.ofNat to))])) rfl rfl (hb hby d5_6)) ?_
    rw [len_of qs10 qn10]
    show G (s₁.setTop (mkF m 7 #[.val (.ref a1), .val (.int (0 : Int32)), .val (.int (Int32.ofNat to))] [(.int (Int32.ofNat ln)), (.int (Int32.ofNat to))]))
    have hc11 : ¬ ((Int32.ofNat to) = (Int32.ofNat ln)) := fun q => hN (own_oninj (by omega) (by omega) q)
    refine go (fun _ k => XS.icmpNo X0.here hx rfl (hb hby d5_7) rfl (feq hc11).1 k) ?_
    show G (s₁.setTop (mkF m 10 #[.val (.ref a1), .val (.int (0 : Int32)), .val (.int (Int32.ofNat to))] []))
    refine go (fun _ k => XS.aloadN X0.here hx rfl (hb hby d5_10) rfl rfl k) ?_
    show G (s₁.setTop (mkF m 11 #[.val (.ref a1), .val (.int (0 : Int32)), .val (.int (Int32.ofNat to))] [(.ref a1)]))
    refine go (fun _ k => XS.iloadN X0.here hx rfl (hb hby d5_11) rfl k) ?_
    show G (s₁.setTop (mkF m 12 #[.val (.ref a1), .val (.int (0 : Int32)), .val (.int (Int32.ofNat to))] [(.int (0 : Int32)), (.ref a1)]))
    refine go (fun _ k => XS.iloadN X0.here hx rfl (hb hby d5_12) rfl k) ?_
    show G (s₁.setTop (mkF m 13 #[.val (.ref a1), .val (.int (0 : Int32)), .val (.int (Int32.ofNat to))] [(.int (Int32.ofNat to)), (.int (0 : Int32)), (.ref a1)]))
    obtain ⟨_, _, ⟨T12, L12, k12, n12⟩, -, X12, ⟨Lc12, hQ12, l12, y12, z12⟩, st12⟩ := Jvm.LawKit.callS X0 hx (y := (⟨"java/util/Arrays", "copyOfRangeLong", "([JII)[J"⟩ : MethodName)) hown (mvT hZ (hw _ (List.mem_of_getElem? (i := 34) rfl))) (mvT hZ (hw _ (List.mem_of_getElem? (i := 35) rfl))) (mvT hZ (hw _ (List.mem_of_getElem? (i := 32) rfl))) (mvT hZ (hw _ (List.mem_of_getElem? (i := 36) rfl))) (by decide) (backOf (W := 0) (rm6 l Z a0 hw [] a1 to ln k0 h0 n0 Z0 VA EA hto hln hle) hZ (hw _ (List.mem_of_getElem? (i := 36) rfl)) (hw _ (List.mem_of_getElem? (i := 32) rfl)) (by decide) (by decide)) (g := (mkF m 13 #[.val (.ref a1), .val (.int (0 : Int32)), .val (.int (Int32.ofNat to))] [(.int (Int32.ofNat to)), (.int (0 : Int32)), (.ref a1)])) rfl (by rw [hml]; rfl) (argsL := [(.ref a1), (.int (0 : Int32)), (.int (Int32.ofNat to))]) (rest := []) (lenOf pd_5_0 rfl) rfl (by show 2 * 0 + _ ≤ _; exact Nat.le_of_eq rfl) (hb hby d5_13) (fun _ _ => ⟨rfl, e0, (by decide : 0 + 1 ≤ _), (by decide : 0 + 12 ≤ _)⟩)
    dsimp only [Pt.U, Pt.locs, Pt.cells, Pt.slots] at X12 l12 y12 z12 st12 hQ12
    subst l12 y12 z12
    obtain ⟨bc12, kc12, rfl, N12q, Kc12, c12_0, c12_1, c12_2⟩ := hQ12
    have ne_a1_bc12 : a1 ≠ bc12 := Nat.ne_of_lt (Nat.lt_of_lt_of_le VA.lt c12_0)
    have g_bc12 : n0 ≤ bc12 := Nat.le_trans Z0 c12_0
    have sz_bc12 : h0.size ≤ bc12 := Nat.le_trans K0.1 c12_0
    have f13 := VA.keep Kc12 nin0
    have f14 := EA.keep Kc12
    have K12 : Keep h0 T12.heap [] := K0.trans Kc12 all0
    have Zs12 : n0 ≤ T12.heap.size := Nat.le_trans Z0 Kc12.1
    have N12 := Fr.app N0 N12q
    refine go st12 ?_
    show G (T12.setTop (mkF m 16 #[.val (.ref a1), .val (.int (0 : Int32)), .val (.int (Int32.ofNat to))] [(.ref bc12)]))
    rw [hG]
    refine own_fin X12 Bd.notSynchronized (v := some (.ref bc12)) (fun h => by rw [Bd.returns] at h; cases h) (fun fs hr => retOut X12 hx Bd.returns rfl (by simp [FieldType.isReference, Value.isRef]) (hb hby d5_16) hr) ?_ (by decide) (by decide)
    show Q5 Z a1 to ln k0 h0 n0 (some (.ref bc12)) T12.heap _
    exact ⟨bc12, kc12, rfl, N12, K12, sz_bc12, c12_1, c12_2⟩

theorem d15_0 : decode jdk_65_method_124_code 0 = .ok (.iload_n 1, 1) := by decide +kernel
theorem d15_1 : decode jdk_65_method_124_code 1 = .ok (.aload_n 0, 1) := by decide +kernel
theorem d15_2 : decode jdk_65_method_124_code 2 = .ok (.arraylength, 1) := by decide +kernel
theorem d15_3 : decode jdk_65_method_124_code 3 = .ok (.if_icmp .ne 11, 3) := by decide +kernel
theorem d15_14 : decode jdk_65_method_124_code 14 = .ok (.iload_n 1, 1) := by decide +kernel
theorem d15_15 : decode jdk_65_method_124_code 15 = .ok (.newarray .long, 2) := by decide +kernel
theorem d15_17 : decode jdk_65_method_124_code 17 = .ok (.astore_n 2, 1) := by decide +kernel
theorem d15_18 : decode jdk_65_method_124_code 18 = .ok (.aload_n 0, 1) := by decide +kernel
theorem d15_19 : decode jdk_65_method_124_code 19 = .ok (.iconst 0, 1) := by decide +kernel
theorem d15_20 : decode jdk_65_method_124_code 20 = .ok (.aload_n 2, 1) := by decide +kernel
theorem d15_21 : decode jdk_65_method_124_code 21 = .ok (.iconst 0, 1) := by decide +kernel
theorem d15_22 : decode jdk_65_method_124_code 22 = .ok (.aload_n 0, 1) := by decide +kernel
theorem d15_23 : decode jdk_65_method_124_code 23 = .ok (.arraylength, 1) := by decide +kernel
theorem d15_24 : decode jdk_65_method_124_code 24 = .ok (.iload_n 1, 1) := by decide +kernel
theorem d15_25 : decode jdk_65_method_124_code 25 = .ok (.invokestatic 304, 3) := by decide +kernel
theorem d15_28 : decode jdk_65_method_124_code 28 = .ok (.invokestatic 150, 3) := by decide +kernel
theorem d15_31 : decode jdk_65_method_124_code 31 = .ok (.aload_n 2, 1) := by decide +kernel
theorem d15_32 : decode jdk_65_method_124_code 32 = .ok (.areturn, 1) := by decide +kernel
theorem pn_15 : plainName "java/util/Arrays" = true := by first | (simp [plainName, overriddenIn]; done) | decide +kernel
theorem pd_15_0 : parseMethodDescriptor "(II)I" = some ⟨[.int, .int], some .int⟩ := by decide +kernel
theorem ef_rm15 (m : MethodId) (a1 : Addr) (to : Nat) : entryFrame m #[(.ref a1), (.int (Int32.ofNat to))] 3 = mkF m 0 #[.val (.ref a1), .val (.int (Int32.ofNat to)), .unset] [] := by first | (simp [entryFrame, mkF, argsToLocals, Value.category]; done) | rfl
def Q15 (Z : State) (a1 : Addr) (to ln : Nat) (k0 : ClassId) (h0 : Heap) (n0 : Nat) (v : Option Value) (h : Heap) (L : List Loc) : Prop := ∃ (b : Addr) (k : ClassId), v = some (.ref b) ∧ Fr n0 L ∧ Keep h0 h [] ∧ h0.size ≤ b ∧ LA Z h b k to ∧ Exa Z h b "[J"
set_option maxRecDepth 65536 in
set_option maxHeartbeats 40000000 in
theorem rm15 (l : Launch) (Z : State) (a0 : Array Value) (hw : ∀ d ∈ tables_1, d.before a0 Z = true) (ws : List Jvm.Cond) (a1 : Addr) (to ln : Nat) (k0 : ClassId) (h0 : Heap) (n0 : Nat) (Z0 : n0 ≤ h0.size) (VA : LA Z h0 a1 k0 ln) (EA : Exa Z h0 a1 "[J") (hto : to ≤ 12) (hln : ln ≤ 12) (hlt : ln < to) :
    MetFree l (⟨"java/util/Arrays", "copyOf", "([JI)[J"⟩ : MethodName) (head1 (Jvm.Cond.code (⟨"java/util/Arrays", "copyOf", "([JI)[J"⟩ : MethodName) jdk_65_method_124_code 3 (some (.array .long)) :: ws) ({ frames := 1, cells := 1, slots := 12, locals := 30 } : Room)) (fun a U => a = #[(.ref a1), (.int (Int32.ofNat to))] ∧ Z.Warmed39 U.vm ∧ U.heap = h0) (fun _ _ _ _ _ => True) (fun _ U o U' => ∃ v L, o = .returned v ∧ Q15 Z a1 to ln k0 h0 n0 v U'.heap L ∧ FrameEnd U o U' L ({ frames := 1, cells := 1, slots := 12, locals := 30 } : Room).cells ({ frames := 1, cells := 1, slots := 12, locals := 30 } : Room).slots) := by
  refine MetFree.of_bodySF (plainFor_of_name pn_15) hisR ?_
  intro p e s m args below meth c s₁ Bd hml0 hP hK
  obtain ⟨rfl, hZ, hh⟩ := hP
  have hx := Bd.exec
  have hby := Bd.bytes
  have hml : c.maxLocals = 3 := hml0
  have hown : s.vm.findClass "java/util/Arrays" = some m.cls := findClass_of_methodNamed Bd.named
  have hnm := (name_of_methodNamed Bd.named Bd.method).1
  have X0 : Stand p l e ({ frames := 1, cells := 1, slots := 12, locals := 30 } : Room) s m #[(.ref a1), (.int (Int32.ofNat to))] below meth c s₁ [] 0 0 := Stand.of_body Bd
  have e0 : s₁.heap = h0 := by rw [← hh, Bd.state]; rfl
  have N0 := Fr.nil n0
  obtain ⟨G, hG⟩ : ∃ G : State → Prop, G = OwnG p e below s ({ frames := 1, cells := 1, slots := 12, locals := 30 } : Room).cells ({ frames := 1, cells := 1, slots := 12, locals := 30 } : Room).slots (Q15 Z a1 to ln k0 h0 n0) := ⟨_, rfl⟩
  have go : ∀ {A B : State}, (∀ t, Steps p.tables e below A t → Steps p.tables e below B t) → G A → G B := fun h k => by rw [hG] at k ⊢; exact OwnG.go h k
  suffices k0 : G (s₁.setTop (mkF m 0 #[.val (.ref a1), .val (.int (Int32.ofNat to)), .unset] [])) by
    rw [hG] at k0; exact OwnG.go (fun t k => castTop (ef_rm15 m a1 to) k) k0
  have K0 : Keep h0 h0 [] := Keep.refl _ _
  refine go (fun _ k => XS.iloadN X0.here hx rfl (hb hby d15_0) rfl k) ?_
  show G (s₁.setTop (mkF m 1 #[.val (.ref a1), .val (.int (Int32.ofNat to)), .unset] [(.int (Int32.ofNat to))]))
  refine go (fun _ k => XS.aloadN X0.here hx rfl (hb hby d15_1) rfl rfl k) ?_
  show G (s₁.setTop (mkF m 2 #[.val (.ref a1), .val (.int (Int32.ofNat to)), .unset] [(.ref a1), (.int (Int32.ofNat to))]))
  obtain ⟨vb1, lb1, VB1⟩ := id VA
  obtain ⟨cl2, Ar2, qk2, qs2, qn2, qh2, qg2⟩ := id VB1
  refine go (X0.arraylength hx (by rw [e0]; exact Ar2.1) (State.isArrayOf_alike hZ.alike Ar2.2.1) (g := (mkF m 2 #[.val (.ref a1), .val (.int (Int32.ofNat to)), .unset] [(.ref a1), (.int (Int32.ofNat to))])) rfl rfl (hb hby d15_2)) ?_
  rw [len_of qs2 qn2]
  show G (s₁.setTop (mkF m 3 #[.val (.ref a1), .val (.int (Int32.ofNat to)), .unset] [(.int (Int32.ofNat ln)), (.int (Int32.ofNat to))]))
  have hc3 : ¬ ((Int32.ofNat to) = (Int32.ofNat ln)) := fun q => absurd (own_oninj (by omega) (by omega) q) (by omega)
  refine go (fun _ k => XS.icmpYes X0.here hx rfl (pc0 := 3) (pc' := 14) rfl (hb hby d15_3) rfl (feq hc3).2 (by decide) (by decide) k) ?_
  show G (s₁.setTop (mkF m 14 #[.val (.ref a1), .val (.int (Int32.ofNat to)), .unset] []))
  refine go (fun _ k => XS.iloadN X0.here hx rfl (hb hby d15_14) rfl k) ?_
  show G (s₁.setTop (mkF m 15 #[.val (.ref a1), .val (.int (Int32.ofNat to)), .unset] [(.int (Int32.ofNat to))]))
  obtain ⟨T4, h4, k4, X4, e4, E4, A4, B4, st4⟩ := newPE X0 hx hZ (hw _ (List.mem_of_getElem? (i := 1) rfl)) e0 (g := (mkF m 15 #[.val (.ref a1), .val (.int (Int32.ofNat to)), .unset] [(.int (Int32.ofNat to))])) rfl (hb hby d15_15) rfl (own_onnn _ (by omega)) (cap := 12) (by rw [own_onnat _ (by omega)]; omega) (by decide) (by decide) (by decide) (ad := "[J") (by decide)
  obtain ⟨b4, ga4⟩ : ∃ z, z = h0.size := ⟨_, rfl⟩
  have ne_a1_b4 : a1 ≠ b4 := Nat.ne_of_lt (Nat.lt_of_lt_of_le VA.lt (Nat.le_of_eq ga4.symm))
  have g_b4 : n0 ≤ b4 := Nat.le_trans Z0 (Nat.le_of_eq ga4.symm)
  have sz_b4 : h0.size ≤ b4 := Nat.le_trans K0.1 (Nat.le_of_eq ga4.symm)
  rw [← ga4] at A4 B4 st4
  have f5 := VA.ext E4
  have f6 := EA.ext E4
  have K4 : Keep h0 h4 [] := K0.ext E4
  have Zs4 : n0 ≤ h4.size := Nat.le_trans Z0 E4.1
  have V4 : LA Z h4 b4 k4 to := ⟨_, by rw [List.length_append, List.length_replicate]; exact Nat.zero_add _, (Arv.new A4 (own_onnn _ (by omega))).pad (pad_rep [] (.long (0 : Int64)) to)⟩
  refine go st4 ?_
  show G (T4.setTop (mkF m 17 #[.val (.ref a1), .val (.int (Int32.ofNat to)), .unset] [(.ref b4)]))
  refine go (fun _ k => XS.astoreN X4.here hx rfl (hb hby d15_17) rfl rfl (l' := #[.val (.ref a1), .val (.int (Int32.ofNat to)), .val (.ref b4)]) rfl k) ?_
  show G (T4.setTop (mkF m 18 #[.val (.ref a1), .val (.int (Int32.ofNat to)), .val (.ref b4)] []))
  refine go (fun _ k => XS.aloadN X4.here hx rfl (hb hby d15_18) rfl rfl k) ?_
  show G (T4.setTop (mkF m 19 #[.val (.ref a1), .val (.int (Int32.ofNat to)), .val (.ref b4)] [(.ref a1)]))
  refine go (fun _ k => XS.iconst X4.here hx rfl (hb hby d15_19) k) ?_
  show G (T4.setTop (mkF m 20 #[.val (.ref a1), .val (.int (Int32.ofNat to)), .val (.ref b4)] [(.int (0 : Int32)), (.ref a1)]))
  refine go (fun _ k => XS.aloadN X4.here hx rfl (hb hby d15_20) rfl rfl k) ?_
  show G (T4.setTop (mkF m 21 #[.val (.ref a1), .val (.int (Int32.ofNat to)), .val (.ref b4)] [(.ref b4), (.int (0 : Int32)), (.ref a1)]))
  refine go (fun _ k => XS.iconst X4.here hx rfl (hb hby d15_21) k) ?_
  show G (T4.setTop (mkF m 22 #[.val (.ref a1), .val (.int (Int32.ofNat to)), .val (.ref b4)] [(.int (0 : Int32)), (.ref b4), (.int (0 : Int32)), (.ref a1)]))
  refine go (fun _ k => XS.aloadN X4.here hx rfl (hb hby d15_22) rfl rfl k) ?_
  show G (T4.setTop (mkF m 23 #[.val (.ref a1), .val (.int (Int32.ofNat to)), .val (.ref b4)] [(.ref a1), (.int (0 : Int32)), (.ref b4), (.int (0 : Int32)), (.ref a1)]))
  obtain ⟨vb7, lb7, VB7⟩ := id f5
  obtain ⟨cl8, Ar8, qk8, qs8, qn8, qh8, qg8⟩ := id VB7
  refine go (X4.arraylength hx (by rw [e4]; exact Ar8.1) (State.isArrayOf_alike hZ.alike Ar8.2.1) (g := (mkF m 23 #[.val (.ref a1), .val (.int (Int32.ofNat to)), .val (.ref b4)] [(.ref a1), (.int (0 : Int32)), (.ref b4), (.int (0 : Int32)), (.ref a1)])) rfl rfl (hb hby d15_23)) ?_
  rw [len_of qs8 qn8]
  show G (T4.setTop (mkF m 24 #[.val (.ref a1), .val (.int (Int32.ofNat to)), .val (.ref b4)] [(.int (Int32.ofNat ln)), (.int (0 : Int32)), (.ref b4), (.int (0 : Int32)), (.ref a1)]))
  refine go (fun _ k => XS.iloadN X4.here hx rfl (hb hby d15_24) rfl k) ?_
  show G (T4.setTop (mkF m 25 #[.val (.ref a1), .val (.int (Int32.ofNat to)), .val (.ref b4)] [(.int (Int32.ofNat to)), (.int (Int32.ofNat ln)), (.int (0 : Int32)), (.ref b4), (.int (0 : Int32)), (.ref a1)]))
  obtain ⟨_, _, ⟨T9, L9, k9, n9⟩, -, X9, ⟨Lc9, hQ9, l9, y9, z9⟩, st9⟩ := Jvm.LawKit.callS X4 hx (y := (⟨"java/lang/Math", "min", "(II)I"⟩ : MethodName)) hown (mvT hZ (hw _ (List.mem_of_getElem? (i := 40) rfl))) (mvT hZ (hw _ (List.mem_of_getElem? (i := 26) rfl))) (mvT hZ (hw _ (List.mem_of_getElem? (i := 17) rfl))) (mvT hZ (hw _ (List.mem_of_getElem? (i := 27) rfl))) (by decide) (backOf (W := 4) (rm4 l Z a0 hw [] (Int32.ofNat ln) (Int32.ofNat to) h4 n0 Zs4) hZ (hw _ (List.mem_of_getElem? (i := 27) rfl)) (hw _ (List.mem_of_getElem? (i := 17) rfl)) (by decide) (by decide)) (g := (mkF m 25 #[.val (.ref a1), .val (.int (Int32.ofNat to)), .val (.ref b4)] [(.int (Int32.ofNat to)), (.int (Int32.ofNat ln)), (.int (0 : Int32)), (.ref b4), (.int (0 : Int32)), (.ref a1)])) rfl (by rw [hml]; rfl) (argsL := [(.int (Int32.ofNat ln)), (.int (Int32.ofNat to))]) (rest := [(.int (0 : Int32)), (.ref b4), (.int (0 : Int32)), (.ref a1)]) (lenOf pd_15_0 rfl) rfl (by show 2 * 0 + _ ≤ _; exact Nat.le_of_eq rfl) (hb hby d15_25) (fun _ _ => ⟨rfl, e4, (by decide : 1 + 0 ≤ _), (by decide : 12 + 0 ≤ _)⟩)
  dsimp only [Pt.U, Pt.locs, Pt.cells, Pt.slots] at X9 l9 y9 z9 st9 hQ9
  subst l9 y9 z9
  obtain ⟨rfl, N9q, e9⟩ := hQ9
  have N9 := Fr.app N0 N9q
  refine go st9 ?_
  show G (T9.setTop (mkF m 28 #[.val (.ref a1), .val (.int (Int32.ofNat to)), .val (.ref b4)] [(.int (jmin (Int32.ofNat ln) (Int32.ofNat to))), (.int (0 : Int32)), (.ref b4), (.int (0 : Int32)), (.ref a1)]))
  rw [show (jmin (Int32.ofNat ln) (Int32.ofNat to)) = (Int32.ofNat ln) from own_jminL ln to (by omega) (by omega)]
  show G (T9.setTop (mkF m 28 #[.val (.ref a1), .val (.int (Int32.ofNat to)), .val (.ref b4)] [(.int (Int32.ofNat ln)), (.int (0 : Int32)), (.ref b4), (.int (0 : Int32)), (.ref a1)]))
  obtain ⟨va10, la10, VA10⟩ := id f5
  obtain ⟨vb10, lb10, VB10⟩ := id V4
  have qN10 : (Int32.ofNat ln).toNatClampNeg = ln := own_onnat _ (by omega)
  have qD10 : (Int32.ofNat 0).toNatClampNeg = 0 := own_onnat _ (by omega)
  have qS10 : (Int32.ofNat 0).toNatClampNeg = 0 := own_onnat _ (by omega)
  have qA10 : (Int32.ofNat ln).toNatClampNeg = ln := own_onnat _ (by omega)
  have qB10 : (Int32.ofNat to).toNatClampNeg = to := own_onnat _ (by omega)
  have i410 : (Int32.ofNat 0).toNatClampNeg + (Int32.ofNat ln).toNatClampNeg ≤ (Int32.ofNat ln).toNatClampNeg := by omega
  have i510 : (Int32.ofNat 0).toNatClampNeg + (Int32.ofNat ln).toNatClampNeg ≤ (Int32.ofNat to).toNatClampNeg := by omega
  have i610 : (Int32.ofNat 0).toNatClampNeg + (Int32.ofNat ln).toNatClampNeg ≤ vb10.length := by omega
  obtain ⟨T10, h10, Lx10, X10, e10, N10, Kp10, Vc10, st10⟩ := cpA X9 hx hZ hown (hw _ (List.mem_of_getElem? (i := 41) rfl)) (hw _ (List.mem_of_getElem? (i := 44) rfl)) (hw _ (List.mem_of_getElem? (i := 42) rfl)) (hw _ (List.mem_of_getElem? (i := 43) rfl)) e9 VA10 VB10 (sp := Int32.ofNat 0) (dp := Int32.ofNat 0) (nn := Int32.ofNat ln) (Or.inl ⟨rfl, rfl⟩) (own_onnn _ (by omega)) (own_onnn _ (by omega)) (own_onnn _ (by omega)) i410 i510 rfl i610 N9 g_b4 (g := (mkF m 28 #[.val (.ref a1), .val (.int (Int32.ofNat to)), .val (.ref b4)] [(.int (Int32.ofNat ln)), (.int (0 : Int32)), (.ref b4), (.int (0 : Int32)), (.ref a1)])) rfl (by rw [hml]; rfl) rfl (hb hby d15_28) (by decide) (W := 0) (by show 2 * 0 + _ ≤ _; exact Nat.le_of_eq rfl) (by decide)
  have f11 := f5.keep Kp10 (ninS ne_a1_b4 nin0)
  have f12 := f6.keep Kp10
  have f13 := B4.keep Kp10
  have K10 : Keep h0 h10 [] := K4.trans Kp10 (allS (P := fun x => x ∈ [] ∨ h0.size ≤ x) (Or.inr sz_b4) all0)
  have Zs10 : n0 ≤ h10.size := Nat.le_trans Zs4 Kp10.1
  have V10 : LA Z h10 b4 k4 to := ⟨_, own_cplen _ _ _ _ _ lb10 (by rw [List.length_map, List.length_range]) (by omega), Vc10⟩
  refine go st10 ?_
  show G (T10.setTop (mkF m 31 #[.val (.ref a1), .val (.int (Int32.ofNat to)), .val (.ref b4)] []))
  refine go (fun _ k => XS.aloadN X10.here hx rfl (hb hby d15_31) rfl rfl k) ?_
  show G (T10.setTop (mkF m 32 #[.val (.ref a1), .val (.int (Int32.ofNat to)), .val (.ref b4)] [(.ref b4)]))
  rw [hG]
  refine own_fin X10 Bd.notSynchronized (v := some (.ref b4)) (fun h => by rw [Bd.returns] at h; cases h) (fun fs hr => retOut X10 hx Bd.returns rfl (by simp [FieldType.isReference, Value.isRef]) (hb hby d15_32) hr) ?_ (by decide) (by decide)
  show Q15 Z a1 to ln k0 h0 n0 (some (.ref b4)) T10.heap _
  rw [e10]
  exact ⟨b4, k4, rfl, N10, K10, sz_b4, V10, f13⟩

theorem d11_0 : decode prog_86_method_17_code 0 = .ok (.lload_n 0, 1) := by decide +kernel
theorem d11_1 : decode prog_86_method_17_code 1 = .ok (.bipush 32, 2) := by decide +kernel
theorem d11_3 : decode prog_86_method_17_code 3 = .ok (.lushr, 1) := by decide +kernel
theorem d11_4 : decode prog_86_method_17_code 4 = .ok (.l2i, 1) := by decide +kernel
theorem d11_5 : decode prog_86_method_17_code 5 = .ok (.ireturn, 1) := by decide +kernel
theorem pn_11 : plainName "com/example/kerros/kerros/store/SortedChunks" = true := by first | (simp [plainName, overriddenIn]; done) | decide +kernel
theorem ef_rm11 (m : MethodId) (i : Nat) : entryFrame m #[(.long (Int64.ofNat i))] 2 = mkF m 0 #[.val (.long (Int64.ofNat i)), .second] [] := by first | (simp [entryFrame, mkF, argsToLocals, Value.category]; done) | rfl
def Q11 (Z : State) (i : Nat) (h0 : Heap) (n0 : Nat) (v : Option Value) (h : Heap) (L : List Loc) : Prop := v = some (.int (0 : Int32)) ∧ Fr n0 L ∧ h = h0
set_option maxRecDepth 65536 in
set_option maxHeartbeats 40000000 in
theorem rm11 (l : Launch) (Z : State) (a0 : Array Value) (hw : ∀ d ∈ tables_1, d.before a0 Z = true) (ws : List Jvm.Cond) (i : Nat) (h0 : Heap) (n0 : Nat) (Z0 : n0 ≤ h0.size) (hi : i < 8) :
    MetFree l (⟨"com/example/kerros/kerros/store/SortedChunks", "chunkOf", "(J)I"⟩ : MethodName) (head1 (Jvm.Cond.code (⟨"com/example/kerros/kerros/store/SortedChunks", "chunkOf", "(J)I"⟩ : MethodName) prog_86_method_17_code 2 (some .int) :: ws) ({ frames := 0, cells := 0, slots := 0, locals := 0 } : Room)) (fun a U => a = #[(.long (Int64.ofNat i))] ∧ Z.Warmed39 U.vm ∧ U.heap = h0) (fun _ _ _ _ _ => True) (fun _ U o U' => ∃ v L, o = .returned v ∧ Q11 Z i h0 n0 v U'.heap L ∧ FrameEnd U o U' L ({ frames := 0, cells := 0, slots := 0, locals := 0 } : Room).cells ({ frames := 0, cells := 0, slots := 0, locals := 0 } : Room).slots) := by
  refine MetFree.of_bodySF (plainFor_of_name pn_11) hisR ?_
  intro p e s m args below meth c s₁ Bd hml0 hP hK
  obtain ⟨rfl, hZ, hh⟩ := hP
  have hx := Bd.exec
  have hby := Bd.bytes
  have hml : c.maxLocals = 2 := hml0
  have hown : s.vm.findClass "com/example/kerros/kerros/store/SortedChunks" = some m.cls := findClass_of_methodNamed Bd.named
  have hnm := (name_of_methodNamed Bd.named Bd.method).1
  have X0 : Stand p l e ({ frames := 0, cells := 0, slots := 0, locals := 0 } : Room) s m #[(.long (Int64.ofNat i))] below meth c s₁ [] 0 0 := Stand.of_body Bd
  have e0 : s₁.heap = h0 := by rw [← hh, Bd.state]; rfl
  have N0 := Fr.nil n0
  obtain ⟨G, hG⟩ : ∃ G : State → Prop, G = OwnG p e below s ({ frames := 0, cells := 0, slots := 0, locals := 0 } : Room).cells ({ frames := 0, cells := 0, slots := 0, locals := 0 } : Room).slots (Q11 Z i h0 n0) := ⟨_, rfl⟩
  have go : ∀ {A B : State}, (∀ t, Steps p.tables e below A t → Steps p.tables e below B t) → G A → G B := fun h k => by rw [hG] at k ⊢; exact OwnG.go h k
  suffices k0 : G (s₁.setTop (mkF m 0 #[.val (.long (Int64.ofNat i)), .second] [])) by
    rw [hG] at k0; exact OwnG.go (fun t k => castTop (ef_rm11 m i) k) k0
  refine go (fun _ k => XS.lloadN X0.here hx rfl (hb hby d11_0) rfl k) ?_
  show G (s₁.setTop (mkF m 1 #[.val (.long (Int64.ofNat i)), .second] [(.long (Int64.ofNat i))]))
  refine go (fun _ k => XS.bipush X0.here hx rfl (hb hby d11_1) k) ?_
  show G (s₁.setTop (mkF m 3 #[.val (.long (Int64.ofNat i)), .second] [(.int (32 : Int32)), (.long (Int64.ofNat i))]))
  refine go (fun _ k => XS.lushr X0.here hx rfl (hb hby d11_3) rfl k) ?_
  show G (s₁.setTop (mkF m 4 #[.val (.long (Int64.ofNat i)), .second] [(.long (((Int64.ofNat i).toUInt64 >>> ((32 : Int32) &&& 0x3f).toInt64.toUInt64).toInt64))]))
  refine go (fun _ k => XS.l2i X0.here hx rfl (hb hby d11_4) rfl k) ?_
  show G (s₁.setTop (mkF m 5 #[.val (.long (Int64.ofNat i)), .second] [(.int ((((Int64.ofNat i).toUInt64 >>> ((32 : Int32) &&& 0x3f).toInt64.toUInt64).toInt64).toInt32))]))
  rw [hG]
  refine own_fin X0 Bd.notSynchronized (v := some (.int ((((Int64.ofNat i).toUInt64 >>> ((32 : Int32) &&& 0x3f).toInt64.toUInt64).toInt64).toInt32))) (fun h => by rw [Bd.returns] at h; cases h) (fun fs hr => retOut X0 hx Bd.returns rfl (by simp [FieldType.isReference, Value.isRef]) (hb hby d11_5) hr) ?_ (by decide) (by decide)
  show Q11 Z i h0 n0 (some (.int ((((Int64.ofNat i).toUInt64 >>> ((32 : Int32) &&& 0x3f).toInt64.toUInt64).toInt64).toInt32))) s₁.heap _
  rw [e0]
  exact ⟨congrArg (fun z => some (Value.int z)) (own_chunkOf i hi), N0, rfl⟩

theorem d12_0 : decode prog_86_method_18_code 0 = .ok (.lload_n 0, 1) := by decide +kernel
theorem d12_1 : decode prog_86_method_18_code 1 = .ok (.ldc2_w 117, 3) := by decide +kernel
theorem d12_4 : decode prog_86_method_18_code 4 = .ok (.land, 1) := by decide +kernel
theorem d12_5 : decode prog_86_method_18_code 5 = .ok (.l2i, 1) := by decide +kernel
theorem d12_6 : decode prog_86_method_18_code 6 = .ok (.ireturn, 1) := by decide +kernel
theorem pn_12 : plainName "com/example/kerros/kerros/store/SortedChunks" = true := by first | (simp [plainName, overriddenIn]; done) | decide +kernel
theorem ef_rm12 (m : MethodId) (i : Nat) : entryFrame m #[(.long (Int64.ofNat i))] 2 = mkF m 0 #[.val (.long (Int64.ofNat i)), .second] [] := by first | (simp [entryFrame, mkF, argsToLocals, Value.category]; done) | rfl
def Q12 (Z : State) (i : Nat) (h0 : Heap) (n0 : Nat) (v : Option Value) (h : Heap) (L : List Loc) : Prop := v = some (.int (Int32.ofNat i)) ∧ Fr n0 L ∧ h = h0
set_option maxRecDepth 65536 in
set_option maxHeartbeats 40000000 in
theorem rm12 (l : Launch) (Z : State) (a0 : Array Value) (hw : ∀ d ∈ tables_1, d.before a0 Z = true) (ws : List Jvm.Cond) (i : Nat) (h0 : Heap) (n0 : Nat) (Z0 : n0 ≤ h0.size) (hi : i < 8) :
    MetFree l (⟨"com/example/kerros/kerros/store/SortedChunks", "indexOf", "(J)I"⟩ : MethodName) (head1 (Jvm.Cond.code (⟨"com/example/kerros/kerros/store/SortedChunks", "indexOf", "(J)I"⟩ : MethodName) prog_86_method_18_code 2 (some .int) :: ws) ({ frames := 0, cells := 0, slots := 0, locals := 0 } : Room)) (fun a U => a = #[(.long (Int64.ofNat i))] ∧ Z.Warmed39 U.vm ∧ U.heap = h0) (fun _ _ _ _ _ => True) (fun _ U o U' => ∃ v L, o = .returned v ∧ Q12 Z i h0 n0 v U'.heap L ∧ FrameEnd U o U' L ({ frames := 0, cells := 0, slots := 0, locals := 0 } : Room).cells ({ frames := 0, cells := 0, slots := 0, locals := 0 } : Room).slots) := by
  refine MetFree.of_bodySF (plainFor_of_name pn_12) hisR ?_
  intro p e s m args below meth c s₁ Bd hml0 hP hK
  obtain ⟨rfl, hZ, hh⟩ := hP
  have hx := Bd.exec
  have hby := Bd.bytes
  have hml : c.maxLocals = 2 := hml0
  have hown : s.vm.findClass "com/example/kerros/kerros/store/SortedChunks" = some m.cls := findClass_of_methodNamed Bd.named
  have hnm := (name_of_methodNamed Bd.named Bd.method).1
  have X0 : Stand p l e ({ frames := 0, cells := 0, slots := 0, locals := 0 } : Room) s m #[(.long (Int64.ofNat i))] below meth c s₁ [] 0 0 := Stand.of_body Bd
  have e0 : s₁.heap = h0 := by rw [← hh, Bd.state]; rfl
  have N0 := Fr.nil n0
  obtain ⟨G, hG⟩ : ∃ G : State → Prop, G = OwnG p e below s ({ frames := 0, cells := 0, slots := 0, locals := 0 } : Room).cells ({ frames := 0, cells := 0, slots := 0, locals := 0 } : Room).slots (Q12 Z i h0 n0) := ⟨_, rfl⟩
  have go : ∀ {A B : State}, (∀ t, Steps p.tables e below A t → Steps p.tables e below B t) → G A → G B := fun h k => by rw [hG] at k ⊢; exact OwnG.go h k
  suffices k0 : G (s₁.setTop (mkF m 0 #[.val (.long (Int64.ofNat i)), .second] [])) by
    rw [hG] at k0; exact OwnG.go (fun t k => castTop (ef_rm12 m i) k) k0
  refine go (fun _ k => XS.lloadN X0.here hx rfl (hb hby d12_0) rfl k) ?_
  show G (s₁.setTop (mkF m 1 #[.val (.long (Int64.ofNat i)), .second] [(.long (Int64.ofNat i))]))
  refine go (X0.ldc2Long hx hown (mvT hZ (hw _ (List.mem_of_getElem? (i := 71) rfl))) (g := (mkF m 1 #[.val (.long (Int64.ofNat i)), .second] [(.long (Int64.ofNat i))])) rfl (hb hby d12_1)) ?_
  show G (s₁.setTop (mkF m 4 #[.val (.long (Int64.ofNat i)), .second] [(.long (4294967295 : Int64)), (.long (Int64.ofNat i))]))
  refine go (fun _ k => XS.land X0.here hx rfl (hb hby d12_4) rfl k) ?_
  show G (s₁.setTop (mkF m 5 #[.val (.long (Int64.ofNat i)), .second] [(.long ((Int64.ofNat i) &&& (4294967295 : Int64)))]))
  refine go (fun _ k => XS.l2i X0.here hx rfl (hb hby d12_5) rfl k) ?_
  show G (s₁.setTop (mkF m 6 #[.val (.long (Int64.ofNat i)), .second] [(.int (((Int64.ofNat i) &&& (4294967295 : Int64)).toInt32))]))
  rw [hG]
  refine own_fin X0 Bd.notSynchronized (v := some (.int (((Int64.ofNat i) &&& (4294967295 : Int64)).toInt32))) (fun h => by rw [Bd.returns] at h; cases h) (fun fs hr => retOut X0 hx Bd.returns rfl (by simp [FieldType.isReference, Value.isRef]) (hb hby d12_6) hr) ?_ (by decide) (by decide)
  show Q12 Z i h0 n0 (some (.int (((Int64.ofNat i) &&& (4294967295 : Int64)).toInt32))) s₁.heap _
  rw [e0]
  exact ⟨congrArg (fun z => some (Value.int z)) (own_indexOf i hi), N0, rfl⟩

theorem d8_0 : decode prog_87_method_1_code 0 = .ok (.aload_n 0, 1) := by decide +kernel
theorem d8_1 : decode prog_87_method_1_code 1 = .ok (.invokespecial 3, 3) := by decide +kernel
theorem d8_4 : decode prog_87_method_1_code 4 = .ok (.aload_n 0, 1) := by decide +kernel
theorem d8_5 : decode prog_87_method_1_code 5 = .ok (.aload_n 1, 1) := by decide +kernel
theorem d8_6 : decode prog_87_method_1_code 6 = .ok (.putfield 9, 3) := by decide +kernel
theorem d8_9 : decode prog_87_method_1_code 9 = .ok (.aload_n 0, 1) := by decide +kernel
theorem d8_10 : decode prog_87_method_1_code 10 = .ok (.iload_n 2, 1) := by decide +kernel
theorem d8_11 : decode prog_87_method_1_code 11 = .ok (.putfield 15, 3) := by decide +kernel
theorem d8_14 : decode prog_87_method_1_code 14 = .ok (.return_, 1) := by decide +kernel
theorem pn_8 : plainName "com/example/kerros/kerros/store/SortedChunks$Chunk" = true := by first | (simp [plainName, overriddenIn]; done) | decide +kernel
theorem ef_rm8 (m : MethodId) (a1 : Addr) (a2 : Addr) (p3 : Int32) : entryFrame m #[(.ref a1), (.ref a2), (.int p3)] 3 = mkF m 0 #[.val (.ref a1), .val (.ref a2), .val (.int p3)] [] := by first | (simp [entryFrame, mkF, argsToLocals, Value.category]; done) | rfl
def Q8 (Z : State) (a1 : Addr) (a2 : Addr) (p3 : Int32) (h0 : Heap) (n0 : Nat) (v : Option Value) (h : Heap) (L : List Loc) : Prop := v = none ∧ Fr n0 L ∧ Keep h0 h [a1] ∧ Fld Z h a1 "com/example/kerros/kerros/store/SortedChunks$Chunk" "words" "[J" (.ref a2) ∧ Fld Z h a1 "com/example/kerros/kerros/store/SortedChunks$Chunk" "size" "I" (.int p3)
set_option maxRecDepth 65536 in
set_option maxHeartbeats 40000000 in
theorem rm8 (l : Launch) (Z : State) (a0 : Array Value) (hw : ∀ d ∈ tables_1, d.before a0 Z = true) (ws : List Jvm.Cond) (a1 : Addr) (a2 : Addr) (p3 : Int32) (h0 : Heap) (n0 : Nat) (Z0 : n0 ≤ h0.size) (F1 : Fld Z h0 a1 "com/example/kerros/kerros/store/SortedChunks$Chunk" "words" "[J" .null) (F2 : Fld Z h0 a1 "com/example/kerros/kerros/store/SortedChunks$Chunk" "size" "I" (.int (0 : Int32))) (E : Exa Z h0 a1 "com/example/kerros/kerros/store/SortedChunks$Chunk") (g_a1 : n0 ≤ a1) :
    MetFree l (⟨"com/example/kerros/kerros/store/SortedChunks$Chunk", "<init>", "([JI)V"⟩ : MethodName) (head1 (Jvm.Cond.code (⟨"com/example/kerros/kerros/store/SortedChunks$Chunk", "<init>", "([JI)V"⟩ : MethodName) prog_87_method_1_code 3 none :: ws) ({ frames := 1, cells := 0, slots := 0, locals := 12 } : Room)) (fun a U => a = #[(.ref a1), (.ref a2), (.int p3)] ∧ Z.Warmed39 U.vm ∧ U.heap = h0) (fun _ _ _ _ _ => True) (fun _ U o U' => ∃ v L, o = .returned v ∧ Q8 Z a1 a2 p3 h0 n0 v U'.heap L ∧ FrameEnd U o U' L ({ frames := 1, cells := 0, slots := 0, locals := 12 } : Room).cells ({ frames := 1, cells := 0, slots := 0, locals := 12 } : Room).slots) := by
  refine MetFree.of_bodySF (plainFor_of_name pn_8) hisR ?_
  intro p e s m args below meth c s₁ Bd hml0 hP hK
  obtain ⟨rfl, hZ, hh⟩ := hP
  have hx := Bd.exec
  have hby := Bd.bytes
  have hml : c.maxLocals = 3 := hml0
  have hown : s.vm.findClass "com/example/kerros/kerros/store/SortedChunks$Chunk" = some m.cls := findClass_of_methodNamed Bd.named
  have hnm := (name_of_methodNamed Bd.named Bd.method).1
  have X0 : Stand p l e ({ frames := 1, cells := 0, slots := 0, locals := 12 } : Room) s m #[(.ref a1), (.ref a2), (.int p3)] below meth c s₁ [] 0 0 := Stand.of_body Bd
  have e0 : s₁.heap = h0 := by rw [← hh, Bd.state]; rfl
  have N0 := Fr.nil n0
  obtain ⟨G, hG⟩ : ∃ G : State → Prop, G = OwnG p e below s ({ frames := 1, cells := 0, slots := 0, locals := 12 } : Room).cells ({ frames := 1, cells := 0, slots := 0, locals := 12 } : Room).slots (Q8 Z a1 a2 p3 h0 n0) := ⟨_, rfl⟩
  have go : ∀ {A B : State}, (∀ t, Steps p.tables e below A t → Steps p.tables e below B t) → G A → G B := fun h k => by rw [hG] at k ⊢; exact OwnG.go h k
  suffices k0 : G (s₁.setTop (mkF m 0 #[.val (.ref a1), .val (.ref a2), .val (.int p3)] [])) by
    rw [hG] at k0; exact OwnG.go (fun t k => castTop (ef_rm8 m a1 a2 p3) k) k0
  have K0 : Keep h0 h0 [a1] := Keep.refl _ _
  refine go (fun _ k => XS.aloadN X0.here hx rfl (hb hby d8_0) rfl rfl k) ?_
  show G (s₁.setTop (mkF m 1 #[.val (.ref a1), .val (.ref a2), .val (.int p3)] [(.ref a1)]))
  obtain ⟨T1, X1, e1, st1⟩ := initO X0 hx hZ hown (hw _ (List.mem_of_getElem? (i := 48) rfl)) (hw _ (List.mem_of_getElem? (i := 11) rfl)) (hw _ (List.mem_of_getElem? (i := 12) rfl)) e0 (g := (mkF m 1 #[.val (.ref a1), .val (.ref a2), .val (.int p3)] [(.ref a1)])) rfl (by rw [hml]; rfl) rfl (hb hby d8_1) (by decide) (W := 0) (by show 2 * 0 + _ ≤ _; exact Nat.le_of_eq rfl) (by decide)
  refine go st1 ?_
  show G (T1.setTop (mkF m 4 #[.val (.ref a1), .val (.ref a2), .val (.int p3)] []))
  refine go (fun _ k => XS.aloadN X1.here hx rfl (hb hby d8_4) rfl rfl k) ?_
  show G (T1.setTop (mkF m 5 #[.val (.ref a1), .val (.ref a2), .val (.int p3)] [(.ref a1)]))
  refine go (fun _ k => XS.aloadN X1.here hx rfl (hb hby d8_5) rfl rfl k) ?_
  show G (T1.setTop (mkF m 6 #[.val (.ref a1), .val (.ref a2), .val (.int p3)] [(.ref a2), (.ref a1)]))
  obtain ⟨T2, h2, X2, e2, W2, st2⟩ := putF X1 hx hZ hown (host := "") (Or.inl (hw _ (List.mem_of_getElem? (i := 49) rfl))) Via.refl e1 F1 E (Or.inl (hw _ (List.mem_of_getElem? (i := 50) rfl))) (hw _ (List.mem_of_getElem? (i := 28) rfl)) (ty := (.array .long)) (by decide) rfl rfl (g := (mkF m 6 #[.val (.ref a1), .val (.ref a2), .val (.int p3)] [(.ref a2), (.ref a1)])) rfl rfl (hb hby d8_6)
  have f3 := E.wr W2
  have f4 := F2.other W2 (Or.inr (slot_ne (Or.inl (hw _ (List.mem_of_getElem? (i := 52) rfl))) (Or.inl (hw _ (List.mem_of_getElem? (i := 50) rfl))) (by decide) (t := .int) (t' := (.array .long)) (by decide) (by decide)))
  have K2 : Keep h0 h2 [a1] := K0.wr W2 (Or.inl (List.mem_of_getElem? (i := 0) rfl))
  have Zs2 : n0 ≤ h2.size := Nat.le_trans Z0 (Keep.of_wr W2).1
  have N2 := Fr.snoc X2 N0 g_a1
  have Fw2 := F1.same W2
  refine go st2 ?_
  show G (T2.setTop (mkF m 9 #[.val (.ref a1), .val (.ref a2), .val (.int p3)] []))
  refine go (fun _ k => XS.aloadN X2.here hx rfl (hb hby d8_9) rfl rfl k) ?_
  show G (T2.setTop (mkF m 10 #[.val (.ref a1), .val (.ref a2), .val (.int p3)] [(.ref a1)]))
  refine go (fun _ k => XS.iloadN X2.here hx rfl (hb hby d8_10) rfl k) ?_
  show G (T2.setTop (mkF m 11 #[.val (.ref a1), .val (.ref a2), .val (.int p3)] [(.int p3), (.ref a1)]))
  obtain ⟨T5, h5, X5, e5, W5, st5⟩ := putF X2 hx hZ hown (host := "") (Or.inl (hw _ (List.mem_of_getElem? (i := 51) rfl))) Via.refl e2 f4 f3 (Or.inl (hw _ (List.mem_of_getElem? (i := 52) rfl))) (hw _ (List.mem_of_getElem? (i := 28) rfl)) (ty := .int) (by decide) rfl rfl (g := (mkF m 11 #[.val (.ref a1), .val (.ref a2), .val (.int p3)] [(.int p3), (.ref a1)])) rfl rfl (hb hby d8_11)
  have f6 := f3.wr W5
  have f7 := Fw2.other W5 (Or.inr (slot_ne (Or.inl (hw _ (List.mem_of_getElem? (i := 50) rfl))) (Or.inl (hw _ (List.mem_of_getElem? (i := 52) rfl))) (by decide) (t := (.array .long)) (t' := .int) (by decide) (by decide)))
  have K5 : Keep h0 h5 [a1] := K2.wr W5 (Or.inl (List.mem_of_getElem? (i := 0) rfl))
  have Zs5 : n0 ≤ h5.size := Nat.le_trans Zs2 (Keep.of_wr W5).1
  have N5 := Fr.snoc X5 N2 g_a1
  have Fw5 := f4.same W5
  refine go st5 ?_
  show G (T5.setTop (mkF m 14 #[.val (.ref a1), .val (.ref a2), .val (.int p3)] []))
  rw [hG]
  refine own_fin X5 Bd.notSynchronized (v := none) (fun _ => rfl) (fun fs hr => X5.returnOut hx Bd.returns (hb hby d8_14) hr) ?_ (by decide) (by decide)
  show Q8 Z a1 a2 p3 h0 n0 (none) T5.heap _
  rw [e5]
  exact ⟨rfl, N5, K5, f7, Fw5⟩

theorem d14_0 : decode prog_87_method_7_code 0 = .ok (.sipush 128, 3) := by decide +kernel
theorem d14_3 : decode prog_87_method_7_code 3 = .ok (.iload_n 0, 1) := by decide +kernel
theorem d14_4 : decode prog_87_method_7_code 4 = .ok (.iconst 2, 1) := by decide +kernel
theorem d14_5 : decode prog_87_method_7_code 5 = .ok (.iload_n 0, 1) := by decide +kernel
theorem d14_6 : decode prog_87_method_7_code 6 = .ok (.iconst 2, 1) := by decide +kernel
theorem d14_7 : decode prog_87_method_7_code 7 = .ok (.idiv, 1) := by decide +kernel
theorem d14_8 : decode prog_87_method_7_code 8 = .ok (.invokestatic 42, 3) := by decide +kernel
theorem d14_11 : decode prog_87_method_7_code 11 = .ok (.iadd, 1) := by decide +kernel
theorem d14_12 : decode prog_87_method_7_code 12 = .ok (.invokestatic 48, 3) := by decide +kernel
theorem d14_15 : decode prog_87_method_7_code 15 = .ok (.ireturn, 1) := by decide +kernel
theorem pn_14 : plainName "com/example/kerros/kerros/store/SortedChunks$Chunk" = true := by first | (simp [plainName, overriddenIn]; done) | decide +kernel
theorem pd_14_0 : parseMethodDescriptor "(II)I" = some ⟨[.int, .int], some .int⟩ := by decide +kernel
theorem ef_rm14 (m : MethodId) (sz : Nat) : entryFrame m #[(.int (Int32.ofNat sz))] 1 = mkF m 0 #[.val (.int (Int32.ofNat sz))] [] := by first | (simp [entryFrame, mkF, argsToLocals, Value.category]; done) | rfl
def Q14 (Z : State) (sz : Nat) (h0 : Heap) (n0 : Nat) (v : Option Value) (h : Heap) (L : List Loc) : Prop := v = some (.int (Int32.ofNat (sz + 2))) ∧ Fr n0 L ∧ h = h0
set_option maxRecDepth 65536 in
set_option maxHeartbeats 40000000 in
theorem rm14 (l : Launch) (Z : State) (a0 : Array Value) (hw : ∀ d ∈ tables_1, d.before a0 Z = true) (ws : List Jvm.Cond) (sz : Nat) (h0 : Heap) (n0 : Nat) (Z0 : n0 ≤ h0.size) (hs : sz ≤ 3) :
    MetFree l (⟨"com/example/kerros/kerros/store/SortedChunks$Chunk", "grown", "(I)I"⟩ : MethodName) (head1 (Jvm.Cond.code (⟨"com/example/kerros/kerros/store/SortedChunks$Chunk", "grown", "(I)I"⟩ : MethodName) prog_87_method_7_code 1 (some .int) :: ws) ({ frames := 1, cells := 0, slots := 0, locals := 16 } : Room)) (fun a U => a = #[(.int (Int32.ofNat sz))] ∧ Z.Warmed39 U.vm ∧ U.heap = h0) (fun _ _ _ _ _ => True) (fun _ U o U' => ∃ v L, o = .returned v ∧ Q14 Z sz h0 n0 v U'.heap L ∧ FrameEnd U o U' L ({ frames := 1, cells := 0, slots := 0, locals := 16 } : Room).cells ({ frames := 1, cells := 0, slots := 0, locals := 16 } : Room).slots) := by
  refine MetFree.of_bodySF (plainFor_of_name pn_14) hisR ?_
  intro p e s m args below meth c s₁ Bd hml0 hP hK
  obtain ⟨rfl, hZ, hh⟩ := hP
  have hx := Bd.exec
  have hby := Bd.bytes
  have hml : c.maxLocals = 1 := hml0
  have hown : s.vm.findClass "com/example/kerros/kerros/store/SortedChunks$Chunk" = some m.cls := findClass_of_methodNamed Bd.named
  have hnm := (name_of_methodNamed Bd.named Bd.method).1
  have X0 : Stand p l e ({ frames := 1, cells := 0, slots := 0, locals := 16 } : Room) s m #[(.int (Int32.ofNat sz))] below meth c s₁ [] 0 0 := Stand.of_body Bd
  have e0 : s₁.heap = h0 := by rw [← hh, Bd.state]; rfl
  have N0 := Fr.nil n0
  obtain ⟨G, hG⟩ : ∃ G : State → Prop, G = OwnG p e below s ({ frames := 1, cells := 0, slots := 0, locals := 16 } : Room).cells ({ frames := 1, cells := 0, slots := 0, locals := 16 } : Room).slots (Q14 Z sz h0 n0) := ⟨_, rfl⟩
  have go : ∀ {A B : State}, (∀ t, Steps p.tables e below A t → Steps p.tables e below B t) → G A → G B := fun h k => by rw [hG] at k ⊢; exact OwnG.go h k
  suffices k0 : G (s₁.setTop (mkF m 0 #[.val (.int (Int32.ofNat sz))] [])) by
    rw [hG] at k0; exact OwnG.go (fun t k => castTop (ef_rm14 m sz) k) k0
  refine go (fun _ k => XS.sipush X0.here hx rfl (hb hby d14_0) k) ?_
  show G (s₁.setTop (mkF m 3 #[.val (.int (Int32.ofNat sz))] [(.int (128 : Int32))]))
  refine go (fun _ k => XS.iloadN X0.here hx rfl (hb hby d14_3) rfl k) ?_
  show G (s₁.setTop (mkF m 4 #[.val (.int (Int32.ofNat sz))] [(.int (Int32.ofNat sz)), (.int (128 : Int32))]))
  refine go (fun _ k => XS.iconst X0.here hx rfl (hb hby d14_4) k) ?_
  show G (s₁.setTop (mkF m 5 #[.val (.int (Int32.ofNat sz))] [(.int (2 : Int32)), (.int (Int32.ofNat sz)), (.int (128 : Int32))]))
  refine go (fun _ k => XS.iloadN X0.here hx rfl (hb hby d14_5) rfl k) ?_
  show G (s₁.setTop (mkF m 6 #[.val (.int (Int32.ofNat sz))] [(.int (Int32.ofNat sz)), (.int (2 : Int32)), (.int (Int32.ofNat sz)), (.int (128 : Int32))]))
  refine go (fun _ k => XS.iconst X0.here hx rfl (hb hby d14_6) k) ?_
  show G (s₁.setTop (mkF m 7 #[.val (.int (Int32.ofNat sz))] [(.int (2 : Int32)), (.int (Int32.ofNat sz)), (.int (2 : Int32)), (.int (Int32.ofNat sz)), (.int (128 : Int32))]))
  refine go (fun _ k => XS.idiv X0.here hx rfl (hb hby d14_7) rfl (by decide) k) ?_
  show G (s₁.setTop (mkF m 8 #[.val (.int (Int32.ofNat sz))] [(.int ((Int32.ofNat sz) / (2 : Int32))), (.int (2 : Int32)), (.int (Int32.ofNat sz)), (.int (128 : Int32))]))
  obtain ⟨_, _, ⟨T1, L1, k1, n1⟩, -, X1, ⟨Lc1, hQ1, l1, y1, z1⟩, st1⟩ := Jvm.LawKit.callS X0 hx (y := (⟨"java/lang/Math", "max", "(II)I"⟩ : MethodName)) hown (mvT hZ (hw _ (List.mem_of_getElem? (i := 79) rfl))) (mvT hZ (hw _ (List.mem_of_getElem? (i := 16) rfl))) (mvT hZ (hw _ (List.mem_of_getElem? (i := 17) rfl))) (mvT hZ (hw _ (List.mem_of_getElem? (i := 18) rfl))) (by decide) (backOf (W := 2) (rm3 l Z a0 hw [] (2 : Int32) ((Int32.ofNat sz) / (2 : Int32)) h0 n0 Z0) hZ (hw _ (List.mem_of_getElem? (i := 18) rfl)) (hw _ (List.mem_of_getElem? (i := 17) rfl)) (by decide) (by decide)) (g := (mkF m 8 #[.val (.int (Int32.ofNat sz))] [(.int ((Int32.ofNat sz) / (2 : Int32))), (.int (2 : Int32)), (.int (Int32.ofNat sz)), (.int (128 : Int32))])) rfl (by rw [hml]; rfl) (argsL := [(.int (2 : Int32)), (.int ((Int32.ofNat sz) / (2 : Int32)))]) (rest := [(.int (Int32.ofNat sz)), (.int (128 : Int32))]) (lenOf pd_14_0 rfl) rfl (by show 2 * 0 + _ ≤ _; exact Nat.le_of_eq rfl) (hb hby d14_8) (fun _ _ => ⟨rfl, e0, (by decide : 0 + 0 ≤ _), (by decide : 0 + 0 ≤ _)⟩)
  dsimp only [Pt.U, Pt.locs, Pt.cells, Pt.slots] at X1 l1 y1 z1 st1 hQ1
  subst l1 y1 z1
  obtain ⟨rfl, N1q, e1⟩ := hQ1
  have N1 := Fr.app N0 N1q
  refine go st1 ?_
  show G (T1.setTop (mkF m 11 #[.val (.int (Int32.ofNat sz))] [(.int (jmax (2 : Int32) ((Int32.ofNat sz) / (2 : Int32)))), (.int (Int32.ofNat sz)), (.int (128 : Int32))]))
  rw [show (jmax (2 : Int32) ((Int32.ofNat sz) / (2 : Int32))) = (2 : Int32) from own_grow sz hs]
  show G (T1.setTop (mkF m 11 #[.val (.int (Int32.ofNat sz))] [(.int (2 : Int32)), (.int (Int32.ofNat sz)), (.int (128 : Int32))]))
  refine go (fun _ k => XS.iadd X1.here hx rfl (hb hby d14_11) rfl k) ?_
  show G (T1.setTop (mkF m 12 #[.val (.int (Int32.ofNat sz))] [(.int ((Int32.ofNat sz) + (2 : Int32))), (.int (128 : Int32))]))
  rw [show ((Int32.ofNat sz) + (2 : Int32)) = (Int32.ofNat (sz + 2)) from own_onadd sz 2]
  show G (T1.setTop (mkF m 12 #[.val (.int (Int32.ofNat sz))] [(.int (Int32.ofNat (sz + 2))), (.int (128 : Int32))]))
  obtain ⟨_, _, ⟨T2, L2, k2, n2⟩, -, X2, ⟨Lc2, hQ2, l2, y2, z2⟩, st2⟩ := Jvm.LawKit.callS X1 hx (y := (⟨"java/lang/Math", "min", "(II)I"⟩ : MethodName)) hown (mvT hZ (hw _ (List.mem_of_getElem? (i := 80) rfl))) (mvT hZ (hw _ (List.mem_of_getElem? (i := 26) rfl))) (mvT hZ (hw _ (List.mem_of_getElem? (i := 17) rfl))) (mvT hZ (hw _ (List.mem_of_getElem? (i := 27) rfl))) (by decide) (backOf (W := 0) (rm4 l Z a0 hw [] (128 : Int32) (Int32.ofNat (sz + 2)) h0 n0 Z0) hZ (hw _ (List.mem_of_getElem? (i := 27) rfl)) (hw _ (List.mem_of_getElem? (i := 17) rfl)) (by decide) (by decide)) (g := (mkF m 12 #[.val (.int (Int32.ofNat sz))] [(.int (Int32.ofNat (sz + 2))), (.int (128 : Int32))])) rfl (by rw [hml]; rfl) (argsL := [(.int (128 : Int32)), (.int (Int32.ofNat (sz + 2)))]) (rest := []) (lenOf pd_14_0 rfl) rfl (by show 2 * 0 + _ ≤ _; exact Nat.le_of_eq rfl) (hb hby d14_12) (fun _ _ => ⟨rfl, e1, (by decide : 0 + 0 ≤ _), (by decide : 0 + 0 ≤ _)⟩)
  dsimp only [Pt.U, Pt.locs, Pt.cells, Pt.slots] at X2 l2 y2 z2 st2 hQ2
  subst l2 y2 z2
  obtain ⟨rfl, N2q, e2⟩ := hQ2
  have N2 := Fr.app N1 N2q
  refine go st2 ?_
  show G (T2.setTop (mkF m 15 #[.val (.int (Int32.ofNat sz))] [(.int (jmin (128 : Int32) (Int32.ofNat (sz + 2))))]))
  rw [show (jmin (128 : Int32) (Int32.ofNat (sz + 2))) = (Int32.ofNat (sz + 2)) from own_jminR 128 (sz + 2) (by omega) (by omega)]
  show G (T2.setTop (mkF m 15 #[.val (.int (Int32.ofNat sz))] [(.int (Int32.ofNat (sz + 2)))]))
  rw [hG]
  refine own_fin X2 Bd.notSynchronized (v := some (.int (Int32.ofNat (sz + 2)))) (fun h => by rw [Bd.returns] at h; cases h) (fun fs hr => retOut X2 hx Bd.returns rfl (by simp [FieldType.isReference, Value.isRef]) (hb hby d14_15) hr) ?_ (by decide) (by decide)
  show Q14 Z sz h0 n0 (some (.int (Int32.ofNat (sz + 2)))) T2.heap _
  rw [e2]
  exact ⟨rfl, N2, rfl⟩

theorem d1_0 : decode prog_86_method_2_code 0 = .ok (.aload_n 0, 1) := by decide +kernel
theorem d1_1 : decode prog_86_method_2_code 1 = .ok (.invokespecial 7, 3) := by decide +kernel
theorem d1_4 : decode prog_86_method_2_code 4 = .ok (.aload_n 0, 1) := by decide +kernel
theorem d1_5 : decode prog_86_method_2_code 5 = .ok (.iload_n 1, 1) := by decide +kernel
theorem d1_6 : decode prog_86_method_2_code 6 = .ok (.putfield 12, 3) := by decide +kernel
theorem d1_9 : decode prog_86_method_2_code 9 = .ok (.aload_n 0, 1) := by decide +kernel
theorem d1_10 : decode prog_86_method_2_code 10 = .ok (.iconst 1, 1) := by decide +kernel
theorem d1_11 : decode prog_86_method_2_code 11 = .ok (.iload_n 3, 1) := by decide +kernel
theorem d1_12 : decode prog_86_method_2_code 12 = .ok (.sipush 128, 3) := by decide +kernel
theorem d1_15 : decode prog_86_method_2_code 15 = .ok (.iadd, 1) := by decide +kernel
theorem d1_16 : decode prog_86_method_2_code 16 = .ok (.iconst 1, 1) := by decide +kernel
theorem d1_17 : decode prog_86_method_2_code 17 = .ok (.isub, 1) := by decide +kernel
theorem d1_18 : decode prog_86_method_2_code 18 = .ok (.sipush 128, 3) := by decide +kernel
theorem d1_21 : decode prog_86_method_2_code 21 = .ok (.idiv, 1) := by decide +kernel
theorem d1_22 : decode prog_86_method_2_code 22 = .ok (.invokestatic 16, 3) := by decide +kernel
theorem d1_25 : decode prog_86_method_2_code 25 = .ok (.putfield 22, 3) := by decide +kernel
theorem d1_28 : decode prog_86_method_2_code 28 = .ok (.aload_n 0, 1) := by decide +kernel
theorem d1_29 : decode prog_86_method_2_code 29 = .ok (.aload_n 0, 1) := by decide +kernel
theorem d1_30 : decode prog_86_method_2_code 30 = .ok (.getfield 22, 3) := by decide +kernel
theorem d1_33 : decode prog_86_method_2_code 33 = .ok (.anewarray 25, 3) := by decide +kernel
theorem d1_36 : decode prog_86_method_2_code 36 = .ok (.putfield 27, 3) := by decide +kernel
theorem d1_39 : decode prog_86_method_2_code 39 = .ok (.iconst 0, 1) := by decide +kernel
theorem d1_40 : decode prog_86_method_2_code 40 = .ok (.istore 4, 2) := by decide +kernel
theorem d1_42 : decode prog_86_method_2_code 42 = .ok (.iload 4, 2) := by decide +kernel
theorem d1_44 : decode prog_86_method_2_code 44 = .ok (.aload_n 0, 1) := by decide +kernel
theorem d1_45 : decode prog_86_method_2_code 45 = .ok (.getfield 22, 3) := by decide +kernel
theorem d1_48 : decode prog_86_method_2_code 48 = .ok (.if_icmp .ge 68, 3) := by decide +kernel
theorem d1_51 : decode prog_86_method_2_code 51 = .ok (.iload 4, 2) := by decide +kernel
theorem d1_53 : decode prog_86_method_2_code 53 = .ok (.sipush 128, 3) := by decide +kernel
theorem d1_56 : decode prog_86_method_2_code 56 = .ok (.imul, 1) := by decide +kernel
theorem d1_57 : decode prog_86_method_2_code 57 = .ok (.istore 5, 2) := by decide +kernel
theorem d1_59 : decode prog_86_method_2_code 59 = .ok (.sipush 128, 3) := by decide +kernel
theorem d1_62 : decode prog_86_method_2_code 62 = .ok (.iload_n 3, 1) := by decide +kernel
theorem d1_63 : decode prog_86_method_2_code 63 = .ok (.iload 5, 2) := by decide +kernel
theorem d1_65 : decode prog_86_method_2_code 65 = .ok (.isub, 1) := by decide +kernel
theorem d1_66 : decode prog_86_method_2_code 66 = .ok (.invokestatic 31, 3) := by decide +kernel
theorem d1_69 : decode prog_86_method_2_code 69 = .ok (.istore 6, 2) := by decide +kernel
theorem d1_71 : decode prog_86_method_2_code 71 = .ok (.iconst 2, 1) := by decide +kernel
theorem d1_72 : decode prog_86_method_2_code 72 = .ok (.iload 6, 2) := by decide +kernel
theorem d1_74 : decode prog_86_method_2_code 74 = .ok (.invokestatic 16, 3) := by decide +kernel
theorem d1_77 : decode prog_86_method_2_code 77 = .ok (.istore 7, 2) := by decide +kernel
theorem d1_79 : decode prog_86_method_2_code 79 = .ok (.aload_n 0, 1) := by decide +kernel
theorem d1_80 : decode prog_86_method_2_code 80 = .ok (.getfield 27, 3) := by decide +kernel
theorem d1_83 : decode prog_86_method_2_code 83 = .ok (.iload 4, 2) := by decide +kernel
theorem d1_85 : decode prog_86_method_2_code 85 = .ok (.new 25, 3) := by decide +kernel
theorem d1_88 : decode prog_86_method_2_code 88 = .ok (.dup, 1) := by decide +kernel
theorem d1_89 : decode prog_86_method_2_code 89 = .ok (.aload_n 2, 1) := by decide +kernel
theorem d1_90 : decode prog_86_method_2_code 90 = .ok (.iload 5, 2) := by decide +kernel
theorem d1_92 : decode prog_86_method_2_code 92 = .ok (.iload_n 1, 1) := by decide +kernel
theorem d1_93 : decode prog_86_method_2_code 93 = .ok (.imul, 1) := by decide +kernel
theorem d1_94 : decode prog_86_method_2_code 94 = .ok (.iload 5, 2) := by decide +kernel
theorem d1_96 : decode prog_86_method_2_code 96 = .ok (.iload 7, 2) := by decide +kernel
theorem d1_98 : decode prog_86_method_2_code 98 = .ok (.iadd, 1) := by decide +kernel
theorem d1_99 : decode prog_86_method_2_code 99 = .ok (.iload_n 1, 1) := by decide +kernel
theorem d1_100 : decode prog_86_method_2_code 100 = .ok (.imul, 1) := by decide +kernel
theorem d1_101 : decode prog_86_method_2_code 101 = .ok (.invokestatic 34, 3) := by decide +kernel
theorem d1_104 : decode prog_86_method_2_code 104 = .ok (.iload 6, 2) := by decide +kernel
theorem d1_106 : decode prog_86_method_2_code 106 = .ok (.invokespecial 40, 3) := by decide +kernel
theorem d1_109 : decode prog_86_method_2_code 109 = .ok (.aastore, 1) := by decide +kernel
theorem d1_110 : decode prog_86_method_2_code 110 = .ok (.iinc 4 1, 3) := by decide +kernel
theorem d1_113 : decode prog_86_method_2_code 113 = .ok (.goto (-71), 3) := by decide +kernel
theorem d1_116 : decode prog_86_method_2_code 116 = .ok (.return_, 1) := by decide +kernel
theorem pn_1 : plainName "com/example/kerros/kerros/store/SortedChunks" = true := by first | (simp [plainName, overriddenIn]; done) | decide +kernel
theorem pd_1_0 : parseMethodDescriptor "(II)I" = some ⟨[.int, .int], some .int⟩ := by decide +kernel
theorem pd_1_1 : parseMethodDescriptor "([JII)[J" = some ⟨[(.array .long), .int, .int], some (.array .long)⟩ := by decide +kernel
theorem pd_1_2 : parseMethodDescriptor "([JI)V" = some ⟨[(.array .long), .int], none⟩ := by decide +kernel
theorem ef_rm1w1 (m : MethodId) (a1 : Addr) (a3 : Addr) (n : Nat) : entryFrame m #[(.ref a1), (.int (1 : Int32)), (.ref a3), (.int (Int32.ofNat n))] 8 = mkF m 0 #[.val (.ref a1), .val (.int (1 : Int32)), .val (.ref a3), .val (.int (Int32.ofNat n)), .unset, .unset, .unset, .unset] [] := by first | (simp [entryFrame, mkF, argsToLocals, Value.category]; done) | rfl
def Q1w1 (Z : State) (a1 : Addr) (a3 : Addr) (n : Nat) (kw0 : ClassId) (h0 : Heap) (n0 : Nat) (v : Option Value) (h : Heap) (L : List Loc) : Prop := ∃ (ca ck wa : Addr) (kc kw : ClassId) (cb : Nat), v = none ∧ Fr n0 L ∧ Keep h0 h [a1] ∧ h0.size ≤ ca ∧ h0.size ≤ ck ∧ h0.size ≤ wa ∧ ca ≠ ck ∧ ca ≠ wa ∧ ck ≠ wa ∧ Fld Z h a1 "com/example/kerros/kerros/store/SortedChunks" "width" "I" (.int (1 : Int32)) ∧ Fld Z h a1 "com/example/kerros/kerros/store/SortedChunks" "used" "I" (.int (1 : Int32)) ∧ Fld Z h a1 "com/example/kerros/kerros/store/SortedChunks" "chunks" "[Lcom/example/kerros/kerros/store/SortedChunks$Chunk;" (.ref ca) ∧ Arv Z h ca kc (.object "com/example/kerros/kerros/store/SortedChunks$Chunk") (1 : Int32) [(.ref ck)] .null ∧ Exa Z h ck "com/example/kerros/kerros/store/SortedChunks$Chunk" ∧ Fld Z h ck "com/example/kerros/kerros/store/SortedChunks$Chunk" "words" "[J" (.ref wa) ∧ Fld Z h ck "com/example/kerros/kerros/store/SortedChunks$Chunk" "size" "I" (.int (Int32.ofNat n)) ∧ LA Z h wa kw (cb * 1) ∧ Exa Z h wa "[J" ∧ n ≤ cb ∧ cb ≤ 3
set_option maxRecDepth 65536 in
set_option maxHeartbeats 40000000 in
theorem rm1w1 (l : Launch) (Z : State) (a0 : Array Value) (hw : ∀ d ∈ tables_1, d.before a0 Z = true) (ws : List Jvm.Cond) (a1 : Addr) (a3 : Addr) (n : Nat) (kw0 : ClassId) (h0 : Heap) (n0 : Nat) (Z0 : n0 ≤ h0.size) (hn : n ≤ 3) (F1 : Fld Z h0 a1 "com/example/kerros/kerros/store/SortedChunks" "width" "I" (.int (0 : Int32))) (F2 : Fld Z h0 a1 "com/example/kerros/kerros/store/SortedChunks" "used" "I" (.int (0 : Int32))) (F3 : Fld Z h0 a1 "com/example/kerros/kerros/store/SortedChunks" "chunks" "[Lcom/example/kerros/kerros/store/SortedChunks$Chunk;" .null) (E : Exa Z h0 a1 "com/example/kerros/kerros/store/SortedChunks") (VW : LA Z h0 a3 kw0 6) (EW : Exa Z h0 a3 "[J") (ne13 : a1 ≠ a3) (g_a1 : n0 ≤ a1) :
    MetFree l (⟨"com/example/kerros/kerros/store/SortedChunks", "<init>", "(I[JI)V"⟩ : MethodName) (head1 (Jvm.Cond.code (⟨"com/example/kerros/kerros/store/SortedChunks", "<init>", "(I[JI)V"⟩ : MethodName) prog_86_method_2_code 8 none :: ws) ({ frames := 3, cells := 3, slots := 15, locals := 90 } : Room)) (fun a U => a = #[(.ref a1), (.int (1 : Int32)), (.ref a3), (.int (Int32.ofNat n))] ∧ Z.Warmed39 U.vm ∧ U.heap = h0) (fun _ _ _ _ _ => True) (fun _ U o U' => ∃ v L, o = .returned v ∧ Q1w1 Z a1 a3 n kw0 h0 n0 v U'.heap L ∧ FrameEnd U o U' L ({ frames := 3, cells := 3, slots := 15, locals := 90 } : Room).cells ({ frames := 3, cells := 3, slots := 15, locals := 90 } : Room).slots) := by
  refine MetFree.of_bodySF (plainFor_of_name pn_1) hisR ?_
  intro p e s m args below meth c s₁ Bd hml0 hP hK
  obtain ⟨rfl, hZ, hh⟩ := hP
  have hx := Bd.exec
  have hby := Bd.bytes
  have hml : c.maxLocals = 8 := hml0
  have hown : s.vm.findClass "com/example/kerros/kerros/store/SortedChunks" = some m.cls := findClass_of_methodNamed Bd.named
  have hnm := (name_of_methodNamed Bd.named Bd.method).1
  have X0 : Stand p l e ({ frames := 3, cells := 3, slots := 15, locals := 90 } : Room) s m #[(.ref a1), (.int (1 : Int32)), (.ref a3), (.int (Int32.ofNat n))] below meth c s₁ [] 0 0 := Stand.of_body Bd
  have e0 : s₁.heap = h0 := by rw [← hh, Bd.state]; rfl
  have N0 := Fr.nil n0
  obtain ⟨G, hG⟩ : ∃ G : State → Prop, G = OwnG p e below s ({ frames := 3, cells := 3, slots := 15, locals := 90 } : Room).cells ({ frames := 3, cells := 3, slots := 15, locals := 90 } : Room).slots (Q1w1 Z a1 a3 n kw0 h0 n0) := ⟨_, rfl⟩
  have go : ∀ {A B : State}, (∀ t, Steps p.tables e below A t → Steps p.tables e below B t) → G A → G B := fun h k => by rw [hG] at k ⊢; exact OwnG.go h k
  suffices k0 : G (s₁.setTop (mkF m 0 #[.val (.ref a1), .val (.int (1 : Int32)), .val (.ref a3), .val (.int (Int32.ofNat n)), .unset, .unset, .unset, .unset] [])) by
    rw [hG] at k0; exact OwnG.go (fun t k => castTop (ef_rm1w1 m a1 a3 n) k) k0
  have K0 : Keep h0 h0 [a1] := Keep.refl _ _
  refine go (fun _ k => XS.aloadN X0.here hx rfl (hb hby d1_0) rfl rfl k) ?_
  show G (s₁.setTop (mkF m 1 #[.val (.ref a1), .val (.int (1 : Int32)), .val (.ref a3), .val (.int (Int32.ofNat n)), .unset, .unset, .unset, .unset] [(.ref a1)]))
  obtain ⟨T1, X1, e1, st1⟩ := initO X0 hx hZ hown (hw _ (List.mem_of_getElem? (i := 10) rfl)) (hw _ (List.mem_of_getElem? (i := 11) rfl)) (hw _ (List.mem_of_getElem? (i := 12) rfl)) e0 (g := (mkF m 1 #[.val (.ref a1), .val (.int (1 : Int32)), .val (.ref a3), .val (.int (Int32.ofNat n)), .unset, .unset, .unset, .unset] [(.ref a1)])) rfl (by rw [hml]; rfl) rfl (hb hby d1_1) (by decide) (W := 0) (by show 2 * 0 + _ ≤ _; exact Nat.le_of_eq rfl) (by decide)
  refine go st1 ?_
  show G (T1.setTop (mkF m 4 #[.val (.ref a1), .val (.int (1 : Int32)), .val (.ref a3), .val (.int (Int32.ofNat n)), .unset, .unset, .unset, .unset] []))
  refine go (fun _ k => XS.aloadN X1.here hx rfl (hb hby d1_4) rfl rfl k) ?_
  show G (T1.setTop (mkF m 5 #[.val (.ref a1), .val (.int (1 : Int32)), .val (.ref a3), .val (.int (Int32.ofNat n)), .unset, .unset, .unset, .unset] [(.ref a1)]))
  refine go (fun _ k => XS.iloadN X1.here hx rfl (hb hby d1_5) rfl k) ?_
  show G (T1.setTop (mkF m 6 #[.val (.ref a1), .val (.int (1 : Int32)), .val (.ref a3), .val (.int (Int32.ofNat n)), .unset, .unset, .unset, .unset] [(.int (1 : Int32)), (.ref a1)]))
  obtain ⟨T2, h2, X2, e2, W2, st2⟩ := putF X1 hx hZ hown (host := "") (Or.inl (hw _ (List.mem_of_getElem? (i := 13) rfl))) Via.refl e1 F1 E (Or.inr ⟨(hw _ (List.mem_of_getElem? (i := 14) rfl)), rfl, hnm⟩) (hw _ (List.mem_of_getElem? (i := 5) rfl)) (ty := .int) (by decide) rfl rfl (g := (mkF m 6 #[.val (.ref a1), .val (.int (1 : Int32)), .val (.ref a3), .val (.int (Int32.ofNat n)), .unset, .unset, .unset, .unset] [(.int (1 : Int32)), (.ref a1)])) rfl rfl (hb hby d1_6)
  have f3 := E.wr W2
  have f4 := F2.other W2 (Or.inr (slot_ne (Or.inl (hw _ (List.mem_of_getElem? (i := 20) rfl))) (Or.inr (hw _ (List.mem_of_getElem? (i := 14) rfl))) (by decide) (t := .int) (t' := .int) (by decide) (by decide)))
  have f5 := F3.other W2 (Or.inr (slot_ne (Or.inl (hw _ (List.mem_of_getElem? (i := 24) rfl))) (Or.inr (hw _ (List.mem_of_getElem? (i := 14) rfl))) (by decide) (t := (.array (.object "com/example/kerros/kerros/store/SortedChunks$Chunk"))) (t' := .int) (by decide) (by decide)))
  have f6 := VW.other W2 (Ne.symm ne13)
  have f7 := EW.wr W2
  have K2 : Keep h0 h2 [a1] := K0.wr W2 (Or.inl (List.mem_of_getElem? (i := 0) rfl))
  have Zs2 : n0 ≤ h2.size := Nat.le_trans Z0 (Keep.of_wr W2).1
  have N2 := Fr.snoc X2 N0 g_a1
  have Fw2 := F1.same W2
  refine go st2 ?_
  show G (T2.setTop (mkF m 9 #[.val (.ref a1), .val (.int (1 : Int32)), .val (.ref a3), .val (.int (Int32.ofNat n)), .unset, .unset, .unset, .unset] []))
  refine go (fun _ k => XS.aloadN X2.here hx rfl (hb hby d1_9) rfl rfl k) ?_
  show G (T2.setTop (mkF m 10 #[.val (.ref a1), .val (.int (1 : Int32)), .val (.ref a3), .val (.int (Int32.ofNat n)), .unset, .unset, .unset, .unset] [(.ref a1)]))
  refine go (fun _ k => XS.iconst X2.here hx rfl (hb hby d1_10) k) ?_
  show G (T2.setTop (mkF m 11 #[.val (.ref a1), .val (.int (1 : Int32)), .val (.ref a3), .val (.int (Int32.ofNat n)), .unset, .unset, .unset, .unset] [(.int (1 : Int32)), (.ref a1)]))
  refine go (fun _ k => XS.iloadN X2.here hx rfl (hb hby d1_11) rfl k) ?_
  show G (T2.setTop (mkF m 12 #[.val (.ref a1), .val (.int (1 : Int32)), .val (.ref a3), .val (.int (Int32.ofNat n)), .unset, .unset, .unset, .unset] [(.int (Int32.ofNat n)), (.int (1 : Int32)), (.ref a1)]))
  refine go (fun _ k => XS.sipush X2.here hx rfl (hb hby d1_12) k) ?_
  show G (T2.setTop (mkF m 15 #[.val (.ref a1), .val (.int (1 : Int32)), .val (.ref a3), .val (.int (Int32.ofNat n)), .unset, .unset, .unset, .unset] [(.int (128 : Int32)), (.int (Int32.ofNat n)), (.int (1 : Int32)), (.ref a1)]))
  refine go (fun _ k => XS.iadd X2.here hx rfl (hb hby d1_15) rfl k) ?_
  show G (T2.setTop (mkF m 16 #[.val (.ref a1), .val (.int (1 : Int32)), .val (.ref a3), .val (.int (Int32.ofNat n)), .unset, .unset, .unset, .unset] [(.int ((Int32.ofNat n) + (128 : Int32))), (.int (1 : Int32)), (.ref a1)]))
  rw [show ((Int32.ofNat n) + (128 : Int32)) = (Int32.ofNat (n + 128)) from own_onadd n 128]
  show G (T2.setTop (mkF m 16 #[.val (.ref a1), .val (.int (1 : Int32)), .val (.ref a3), .val (.int (Int32.ofNat n)), .unset, .unset, .unset, .unset] [(.int (Int32.ofNat (n + 128))), (.int (1 : Int32)), (.ref a1)]))
  refine go (fun _ k => XS.iconst X2.here hx rfl (hb hby d1_16) k) ?_
  show G (T2.setTop (mkF m 17 #[.val (.ref a1), .val (.int (1 : Int32)), .val (.ref a3), .val (.int (Int32.ofNat n)), .unset, .unset, .unset, .unset] [(.int (1 : Int32)), (.int (Int32.ofNat (n + 128))), (.int (1 : Int32)), (.ref a1)]))
  refine go (fun _ k => XS.isub X2.here hx rfl (hb hby d1_17) rfl k) ?_
  show G (T2.setTop (mkF m 18 #[.val (.ref a1), .val (.int (1 : Int32)), .val (.ref a3), .val (.int (Int32.ofNat n)), .unset, .unset, .unset, .unset] [(.int ((Int32.ofNat (n + 128)) - (1 : Int32))), (.int (1 : Int32)), (.ref a1)]))
  rw [show ((Int32.ofNat (n + 128)) - (1 : Int32)) = (Int32.ofNat ((n + 128) - 1)) from own_onsub (n + 128) 1 (by omega)]
  show G (T2.setTop (mkF m 18 #[.val (.ref a1), .val (.int (1 : Int32)), .val (.ref a3), .val (.int (Int32.ofNat n)), .unset, .unset, .unset, .unset] [(.int (Int32.ofNat ((n + 128) - 1))), (.int (1 : Int32)), (.ref a1)]))
  refine go (fun _ k => XS.sipush X2.here hx rfl (hb hby d1_18) k) ?_
  show G (T2.setTop (mkF m 21 #[.val (.ref a1), .val (.int (1 : Int32)), .val (.ref a3), .val (.int (Int32.ofNat n)), .unset, .unset, .unset, .unset] [(.int (128 : Int32)), (.int (Int32.ofNat ((n + 128) - 1))), (.int (1 : Int32)), (.ref a1)]))
  refine go (fun _ k => XS.idiv X2.here hx rfl (hb hby d1_21) rfl (by decide) k) ?_
  show G (T2.setTop (mkF m 22 #[.val (.ref a1), .val (.int (1 : Int32)), .val (.ref a3), .val (.int (Int32.ofNat n)), .unset, .unset, .unset, .unset] [(.int ((Int32.ofNat ((n + 128) - 1)) / (128 : Int32))), (.int (1 : Int32)), (.ref a1)]))
  obtain ⟨_, _, ⟨T8, L8, k8, n8⟩, -, X8, ⟨Lc8, hQ8, l8, y8, z8⟩, st8⟩ := Jvm.LawKit.callS X2 hx (y := (⟨"java/lang/Math", "max", "(II)I"⟩ : MethodName)) hown (mvT hZ (hw _ (List.mem_of_getElem? (i := 15) rfl))) (mvT hZ (hw _ (List.mem_of_getElem? (i := 16) rfl))) (mvT hZ (hw _ (List.mem_of_getElem? (i := 17) rfl))) (mvT hZ (hw _ (List.mem_of_getElem? (i := 18) rfl))) (by decide) (backOf (W := 1) (rm3 l Z a0 hw [] (1 : Int32) ((Int32.ofNat ((n + 128) - 1)) / (128 : Int32)) h2 n0 Zs2) hZ (hw _ (List.mem_of_getElem? (i := 18) rfl)) (hw _ (List.mem_of_getElem? (i := 17) rfl)) (by decide) (by decide)) (g := (mkF m 22 #[.val (.ref a1), .val (.int (1 : Int32)), .val (.ref a3), .val (.int (Int32.ofNat n)), .unset, .unset, .unset, .unset] [(.int ((Int32.ofNat ((n + 128) - 1)) / (128 : Int32))), (.int (1 : Int32)), (.ref a1)])) rfl (by rw [hml]; rfl) (argsL := [(.int (1 : Int32)), (.int ((Int32.ofNat ((n + 128) - 1)) / (128 : Int32)))]) (rest := [(.ref a1)]) (lenOf pd_1_0 rfl) rfl (by show 2 * 0 + _ ≤ _; exact Nat.le_of_eq rfl) (hb hby d1_22) (fun _ _ => ⟨rfl, e2, (by decide : 0 + 0 ≤ _), (by decide : 0 + 0 ≤ _)⟩)
  dsimp only [Pt.U, Pt.locs, Pt.cells, Pt.slots] at X8 l8 y8 z8 st8 hQ8
  subst l8 y8 z8
  obtain ⟨rfl, N8q, e8⟩ := hQ8
  have N8 := Fr.app N2 N8q
  refine go st8 ?_
  show G (T8.setTop (mkF m 25 #[.val (.ref a1), .val (.int (1 : Int32)), .val (.ref a3), .val (.int (Int32.ofNat n)), .unset, .unset, .unset, .unset] [(.int (jmax (1 : Int32) ((Int32.ofNat ((n + 128) - 1)) / (128 : Int32)))), (.ref a1)]))
  rw [show (jmax (1 : Int32) ((Int32.ofNat ((n + 128) - 1)) / (128 : Int32))) = (1 : Int32) from own_used n hn]
  show G (T8.setTop (mkF m 25 #[.val (.ref a1), .val (.int (1 : Int32)), .val (.ref a3), .val (.int (Int32.ofNat n)), .unset, .unset, .unset, .unset] [(.int (1 : Int32)), (.ref a1)]))
  obtain ⟨T9, h9, X9, e9, W9, st9⟩ := putF X8 hx hZ hown (host := "") (Or.inl (hw _ (List.mem_of_getElem? (i := 19) rfl))) Via.refl e8 f4 f3 (Or.inl (hw _ (List.mem_of_getElem? (i := 20) rfl))) (hw _ (List.mem_of_getElem? (i := 5) rfl)) (ty := .int) (by decide) rfl rfl (g := (mkF m 25 #[.val (.ref a1), .val (.int (1 : Int32)), .val (.ref a3), .val (.int (Int32.ofNat n)), .unset, .unset, .unset, .unset] [(.int (1 : Int32)), (.ref a1)])) rfl rfl (hb hby d1_25)
  have f10 := f3.wr W9
  have f11 := Fw2.other W9 (Or.inr (slot_ne (Or.inr (hw _ (List.mem_of_getElem? (i := 14) rfl))) (Or.inl (hw _ (List.mem_of_getElem? (i := 20) rfl))) (by decide) (t := .int) (t' := .int) (by decide) (by decide)))
  have f12 := f5.other W9 (Or.inr (slot_ne (Or.inl (hw _ (List.mem_of_getElem? (i := 24) rfl))) (Or.inl (hw _ (List.mem_of_getElem? (i := 20) rfl))) (by decide) (t := (.array (.object "com/example/kerros/kerros/store/SortedChunks$Chunk"))) (t' := .int) (by decide) (by decide)))
  have f13 := f6.other W9 (Ne.symm ne13)
  have f14 := f7.wr W9
  have K9 : Keep h0 h9 [a1] := K2.wr W9 (Or.inl (List.mem_of_getElem? (i := 0) rfl))
  have Zs9 : n0 ≤ h9.size := Nat.le_trans Zs2 (Keep.of_wr W9).1
  have N9 := Fr.snoc X9 N8 g_a1
  have Fw9 := f4.same W9
  refine go st9 ?_
  show G (T9.setTop (mkF m 28 #[.val (.ref a1), .val (.int (1 : Int32)), .val (.ref a3), .val (.int (Int32.ofNat n)), .unset, .unset, .unset, .unset] []))
  refine go (fun _ k => XS.aloadN X9.here hx rfl (hb hby d1_28) rfl rfl k) ?_
  show G (T9.setTop (mkF m 29 #[.val (.ref a1), .val (.int (1 : Int32)), .val (.ref a3), .val (.int (Int32.ofNat n)), .unset, .unset, .unset, .unset] [(.ref a1)]))
  refine go (fun _ k => XS.aloadN X9.here hx rfl (hb hby d1_29) rfl rfl k) ?_
  show G (T9.setTop (mkF m 30 #[.val (.ref a1), .val (.int (1 : Int32)), .val (.ref a3), .val (.int (Int32.ofNat n)), .unset, .unset, .unset, .unset] [(.ref a1), (.ref a1)]))
  obtain ⟨T15, X15, e15, st15⟩ := getF X9 hx hZ hown (host := "") (Or.inl (hw _ (List.mem_of_getElem? (i := 19) rfl))) Via.refl e9 Fw9 (g := (mkF m 30 #[.val (.ref a1), .val (.int (1 : Int32)), .val (.ref a3), .val (.int (Int32.ofNat n)), .unset, .unset, .unset, .unset] [(.ref a1), (.ref a1)])) rfl rfl (hb hby d1_30)
  refine go st15 ?_
  show G (T15.setTop (mkF m 33 #[.val (.ref a1), .val (.int (1 : Int32)), .val (.ref a3), .val (.int (Int32.ofNat n)), .unset, .unset, .unset, .unset] [(.int (1 : Int32)), (.ref a1)]))
  obtain ⟨T16, h16, k16, X16, e16, E16, A16, B16, O16, st16⟩ := newRE X15 hx hZ hown (hw _ (List.mem_of_getElem? (i := 21) rfl)) (hw _ (List.mem_of_getElem? (i := 22) rfl)) e15 (g := (mkF m 33 #[.val (.ref a1), .val (.int (1 : Int32)), .val (.ref a3), .val (.int (Int32.ofNat n)), .unset, .unset, .unset, .unset] [(.int (1 : Int32)), (.ref a1)])) rfl (hb hby d1_33) rfl (by decide) (cap := 1) (by decide) (by decide) (by decide) (by decide) (ad := "[Lcom/example/kerros/kerros/store/SortedChunks$Chunk;") (by decide)
  obtain ⟨b16, ga16⟩ : ∃ z, z = h9.size := ⟨_, rfl⟩
  have ne_a1_b16 : a1 ≠ b16 := Nat.ne_of_lt (Nat.lt_of_lt_of_le f10.lt (Nat.le_of_eq ga16.symm))
  have ne_a3_b16 : a3 ≠ b16 := Nat.ne_of_lt (Nat.lt_of_lt_of_le f13.lt (Nat.le_of_eq ga16.symm))
  have g_b16 : n0 ≤ b16 := Nat.le_trans Zs9 (Nat.le_of_eq ga16.symm)
  have sz_b16 : h0.size ≤ b16 := Nat.le_trans K9.1 (Nat.le_of_eq ga16.symm)
  rw [← ga16] at A16 B16 st16
  have f17 := f10.ext E16
  have f18 := f11.ext E16
  have f19 := Fw9.ext E16
  have f20 := f12.ext E16
  have f21 := f13.ext E16
  have f22 := f14.ext E16
  have K16 : Keep h0 h16 [a1] := K9.ext E16
  have Zs16 : n0 ≤ h16.size := Nat.le_trans Zs9 E16.1
  have V16 : Arv Z h16 b16 k16 (.object "com/example/kerros/kerros/store/SortedChunks$Chunk") (1 : Int32) [.null] .null := (Arv.new A16 (by decide)).pad (pad_rep [] .null 1)
  refine go st16 ?_
  show G (T16.setTop (mkF m 36 #[.val (.ref a1), .val (.int (1 : Int32)), .val (.ref a3), .val (.int (Int32.ofNat n)), .unset, .unset, .unset, .unset] [(.ref b16), (.ref a1)]))
  obtain ⟨T23, h23, X23, e23, W23, st23⟩ := putF X16 hx hZ hown (host := "") (Or.inl (hw _ (List.mem_of_getElem? (i := 23) rfl))) Via.refl e16 f20 f17 (Or.inl (hw _ (List.mem_of_getElem? (i := 24) rfl))) (hw _ (List.mem_of_getElem? (i := 5) rfl)) (ty := (.array (.object "com/example/kerros/kerros/store/SortedChunks$Chunk"))) (by decide) rfl rfl (g := (mkF m 36 #[.val (.ref a1), .val (.int (1 : Int32)), .val (.ref a3), .val (.int (Int32.ofNat n)), .unset, .unset, .unset, .unset] [(.ref b16), (.ref a1)])) rfl rfl (hb hby d1_36)
  have f24 := f17.wr W23
  have f25 := f18.other W23 (Or.inr (slot_ne (Or.inr (hw _ (List.mem_of_getElem? (i := 14) rfl))) (Or.inl (hw _ (List.mem_of_getElem? (i := 24) rfl))) (by decide) (t := .int) (t' := (.array (.object "com/example/kerros/kerros/store/SortedChunks$Chunk"))) (by decide) (by decide)))
  have f26 := f19.other W23 (Or.inr (slot_ne (Or.inl (hw _ (List.mem_of_getElem? (i := 20) rfl))) (Or.inl (hw _ (List.mem_of_getElem? (i := 24) rfl))) (by decide) (t := .int) (t' := (.array (.object "com/example/kerros/kerros/store/SortedChunks$Chunk"))) (by decide) (by decide)))
  have f27 := f21.other W23 (Ne.symm ne13)
  have f28 := f22.wr W23
  have f29 := B16.wr W23
  have f30 := V16.other W23 (Ne.symm ne_a1_b16)
  have K23 : Keep h0 h23 [a1] := K16.wr W23 (Or.inl (List.mem_of_getElem? (i := 0) rfl))
  have Zs23 : n0 ≤ h23.size := Nat.le_trans Zs16 (Keep.of_wr W23).1
  have N23 := Fr.snoc X23 N9 g_a1
  have Fw23 := f20.same W23
  refine go st23 ?_
  show G (T23.setTop (mkF m 39 #[.val (.ref a1), .val (.int (1 : Int32)), .val (.ref a3), .val (.int (Int32.ofNat n)), .unset, .unset, .unset, .unset] []))
  refine go (fun _ k => XS.iconst X23.here hx rfl (hb hby d1_39) k) ?_
  show G (T23.setTop (mkF m 40 #[.val (.ref a1), .val (.int (1 : Int32)), .val (.ref a3), .val (.int (Int32.ofNat n)), .unset, .unset, .unset, .unset] [(.int (0 : Int32))]))
  refine go (fun _ k => XS.istore X23.here hx rfl (hb hby d1_40) rfl (l' := #[.val (.ref a1), .val (.int (1 : Int32)), .val (.ref a3), .val (.int (Int32.ofNat n)), .val (.int (0 : Int32)), .unset, .unset, .unset]) rfl k) ?_
  show G (T23.setTop (mkF m 42 #[.val (.ref a1), .val (.int (1 : Int32)), .val (.ref a3), .val (.int (Int32.ofNat n)), .val (.int (0 : Int32)), .unset, .unset, .unset] []))
  refine go (fun _ k => XS.iload X23.here hx rfl (hb hby d1_42) rfl k) ?_
  show G (T23.setTop (mkF m 44 #[.val (.ref a1), .val (.int (1 : Int32)), .val (.ref a3), .val (.int (Int32.ofNat n)), .val (.int (0 : Int32)), .unset, .unset, .unset] [(.int (0 : Int32))]))
  refine go (fun _ k => XS.aloadN X23.here hx rfl (hb hby d1_44) rfl rfl k) ?_
  show G (T23.setTop (mkF m 45 #[.val (.ref a1), .val (.int (1 : Int32)), .val (.ref a3), .val (.int (Int32.ofNat n)), .val (.int (0 : Int32)), .unset, .unset, .unset] [(.ref a1), (.int (0 : Int32))]))
  obtain ⟨T31, X31, e31, st31⟩ := getF X23 hx hZ hown (host := "") (Or.inl (hw _ (List.mem_of_getElem? (i := 19) rfl))) Via.refl e23 f26 (g := (mkF m 45 #[.val (.ref a1), .val (.int (1 : Int32)), .val (.ref a3), .val (.int (Int32.ofNat n)), .val (.int (0 : Int32)), .unset, .unset, .unset] [(.ref a1), (.int (0 : Int32))])) rfl rfl (hb hby d1_45)
  refine go st31 ?_
  show G (T31.setTop (mkF m 48 #[.val (.ref a1), .val (.int (1 : Int32)), .val (.ref a3), .val (.int (Int32.ofNat n)), .val (.int (0 : Int32)), .unset, .unset, .unset] [(.int (1 : Int32)), (.int (0 : Int32))]))
  have hc32 : (0 : Int32) < (1 : Int32) := (by decide)
  refine go (fun _ k => XS.icmpNo X31.here hx rfl (hb hby d1_48) rfl (tlt hc32).2.1 k) ?_
  show G (T31.setTop (mkF m 51 #[.val (.ref a1), .val (.int (1 : Int32)), .val (.ref a3), .val (.int (Int32.ofNat n)), .val (.int (0 : Int32)), .unset, .unset, .unset] []))
  refine go (fun _ k => XS.iload X31.here hx rfl (hb hby d1_51) rfl k) ?_
  show G (T31.setTop (mkF m 53 #[.val (.ref a1), .val (.int (1 : Int32)), .val (.ref a3), .val (.int (Int32.ofNat n)), .val (.int (0 : Int32)), .unset, .unset, .unset] [(.int (0 : Int32))]))
  refine go (fun _ k => XS.sipush X31.here hx rfl (hb hby d1_53) k) ?_
  show G (T31.setTop (mkF m 56 #[.val (.ref a1), .val (.int (1 : Int32)), .val (.ref a3), .val (.int (Int32.ofNat n)), .val (.int (0 : Int32)), .unset, .unset, .unset] [(.int (128 : Int32)), (.int (0 : Int32))]))
  refine go (fun _ k => XS.imul X31.here hx rfl (hb hby d1_56) rfl k) ?_
  show G (T31.setTop (mkF m 57 #[.val (.ref a1), .val (.int (1 : Int32)), .val (.ref a3), .val (.int (Int32.ofNat n)), .val (.int (0 : Int32)), .unset, .unset, .unset] [(.int ((0 : Int32) * (128 : Int32)))]))
  rw [show ((0 : Int32) * (128 : Int32)) = (0 : Int32) from by decide]
  show G (T31.setTop (mkF m 57 #[.val (.ref a1), .val (.int (1 : Int32)), .val (.ref a3), .val (.int (Int32.ofNat n)), .val (.int (0 : Int32)), .unset, .unset, .unset] [(.int (0 : Int32))]))
  refine go (fun _ k => XS.istore X31.here hx rfl (hb hby d1_57) rfl (l' := #[.val (.ref a1), .val (.int (1 : Int32)), .val (.ref a3), .val (.int (Int32.ofNat n)), .val (.int (0 : Int32)), .val (.int (0 : Int32)), .unset, .unset]) rfl k) ?_
  show G (T31.setTop (mkF m 59 #[.val (.ref a1), .val (.int (1 : Int32)), .val (.ref a3), .val (.int (Int32.ofNat n)), .val (.int (0 : Int32)), .val (.int (0 : Int32)), .unset, .unset] []))
  refine go (fun _ k => XS.sipush X31.here hx rfl (hb hby d1_59) k) ?_
  show G (T31.setTop (mkF m 62 #[.val (.ref a1), .val (.int (1 : Int32)), .val (.ref a3), .val (.int (Int32.ofNat n)), .val (.int (0 : Int32)), .val (.int (0 : Int32)), .unset, .unset] [(.int (128 : Int32))]))
  refine go (fun _ k => XS.iloadN X31.here hx rfl (hb hby d1_62) rfl k) ?_
  show G (T31.setTop (mkF m 63 #[.val (.ref a1), .val (.int (1 : Int32)), .val (.ref a3), .val (.int (Int32.ofNat n)), .val (.int (0 : Int32)), .val (.int (0 : Int32)), .unset, .unset] [(.int (Int32.ofNat n)), (.int (128 : Int32))]))
  refine go (fun _ k => XS.iload X31.here hx rfl (hb hby d1_63) rfl k) ?_
  show G (T31.setTop (mkF m 65 #[.val (.ref a1), .val (.int (1 : Int32)), .val (.ref a3), .val (.int (Int32.ofNat n)), .val (.int (0 : Int32)), .val (.int (0 : Int32)), .unset, .unset] [(.int (0 : Int32)), (.int (Int32.ofNat n)), (.int (128 : Int32))]))
  refine go (fun _ k => XS.isub X31.here hx rfl (hb hby d1_65) rfl k) ?_
  show G (T31.setTop (mkF m 66 #[.val (.ref a1), .val (.int (1 : Int32)), .val (.ref a3), .val (.int (Int32.ofNat n)), .val (.int (0 : Int32)), .val (.int (0 : Int32)), .unset, .unset] [(.int ((Int32.ofNat n) - (0 : Int32))), (.int (128 : Int32))]))
  rw [show ((Int32.ofNat n) - (0 : Int32)) = (Int32.ofNat (n - 0)) from own_onsub n 0 (by omega)]
  show G (T31.setTop (mkF m 66 #[.val (.ref a1), .val (.int (1 : Int32)), .val (.ref a3), .val (.int (Int32.ofNat n)), .val (.int (0 : Int32)), .val (.int (0 : Int32)), .unset, .unset] [(.int (Int32.ofNat (n - 0))), (.int (128 : Int32))]))
  obtain ⟨_, _, ⟨T33, L33, k33, n33⟩, -, X33, ⟨Lc33, hQ33, l33, y33, z33⟩, st33⟩ := Jvm.LawKit.callS X31 hx (y := (⟨"java/lang/Math", "min", "(II)I"⟩ : MethodName)) hown (mvT hZ (hw _ (List.mem_of_getElem? (i := 25) rfl))) (mvT hZ (hw _ (List.mem_of_getElem? (i := 26) rfl))) (mvT hZ (hw _ (List.mem_of_getElem? (i := 17) rfl))) (mvT hZ (hw _ (List.mem_of_getElem? (i := 27) rfl))) (by decide) (backOf (W := 0) (rm4 l Z a0 hw [] (128 : Int32) (Int32.ofNat (n - 0)) h23 n0 Zs23) hZ (hw _ (List.mem_of_getElem? (i := 27) rfl)) (hw _ (List.mem_of_getElem? (i := 17) rfl)) (by decide) (by decide)) (g := (mkF m 66 #[.val (.ref a1), .val (.int (1 : Int32)), .val (.ref a3), .val (.int (Int32.ofNat n)), .val (.int (0 : Int32)), .val (.int (0 : Int32)), .unset, .unset] [(.int (Int32.ofNat (n - 0))), (.int (128 : Int32))])) rfl (by rw [hml]; rfl) (argsL := [(.int (128 : Int32)), (.int (Int32.ofNat (n - 0)))]) (rest := []) (lenOf pd_1_0 rfl) rfl (by show 2 * 0 + _ ≤ _; exact Nat.le_of_eq rfl) (hb hby d1_66) (fun _ _ => ⟨rfl, e31, (by decide : 1 + 0 ≤ _), (by decide : 1 + 0 ≤ _)⟩)
  dsimp only [Pt.U, Pt.locs, Pt.cells, Pt.slots] at X33 l33 y33 z33 st33 hQ33
  subst l33 y33 z33
  obtain ⟨rfl, N33q, e33⟩ := hQ33
  have N33 := Fr.app N23 N33q
  refine go st33 ?_
  show G (T33.setTop (mkF m 69 #[.val (.ref a1), .val (.int (1 : Int32)), .val (.ref a3), .val (.int (Int32.ofNat n)), .val (.int (0 : Int32)), .val (.int (0 : Int32)), .unset, .unset] [(.int (jmin (128 : Int32) (Int32.ofNat (n - 0))))]))
  rw [show (jmin (128 : Int32) (Int32.ofNat (n - 0))) = (Int32.ofNat (n - 0)) from own_jminR 128 (n - 0) (by omega) (by omega)]
  show G (T33.setTop (mkF m 69 #[.val (.ref a1), .val (.int (1 : Int32)), .val (.ref a3), .val (.int (Int32.ofNat n)), .val (.int (0 : Int32)), .val (.int (0 : Int32)), .unset, .unset] [(.int (Int32.ofNat (n - 0)))]))
  refine go (fun _ k => XS.istore X33.here hx rfl (hb hby d1_69) rfl (l' := #[.val (.ref a1), .val (.int (1 : Int32)), .val (.ref a3), .val (.int (Int32.ofNat n)), .val (.int (0 : Int32)), .val (.int (0 : Int32)), .val (.int (Int32.ofNat (n - 0))), .unset]) rfl k) ?_
  show G (T33.setTop (mkF m 71 #[.val (.ref a1), .val (.int (1 : Int32)), .val (.ref a3), .val (.int (Int32.ofNat n)), .val (.int (0 : Int32)), .val (.int (0 : Int32)), .val (.int (Int32.ofNat (n - 0))), .unset] []))
  refine go (fun _ k => XS.iconst X33.here hx rfl (hb hby d1_71) k) ?_
  show G (T33.setTop (mkF m 72 #[.val (.ref a1), .val (.int (1 : Int32)), .val (.ref a3), .val (.int (Int32.ofNat n)), .val (.int (0 : Int32)), .val (.int (0 : Int32)), .val (.int (Int32.ofNat (n - 0))), .unset] [(.int (2 : Int32))]))
  refine go (fun _ k => XS.iload X33.here hx rfl (hb hby d1_72) rfl k) ?_
  show G (T33.setTop (mkF m 74 #[.val (.ref a1), .val (.int (1 : Int32)), .val (.ref a3), .val (.int (Int32.ofNat n)), .val (.int (0 : Int32)), .val (.int (0 : Int32)), .val (.int (Int32.ofNat (n - 0))), .unset] [(.int (Int32.ofNat (n - 0))), (.int (2 : Int32))]))
  obtain ⟨cp, hc1, hc2, hc3, hce⟩ := own_cap (n - 0) (by omega)
  obtain ⟨_, _, ⟨T34, L34, k34, n34⟩, -, X34, ⟨Lc34, hQ34, l34, y34, z34⟩, st34⟩ := Jvm.LawKit.callS X33 hx (y := (⟨"java/lang/Math", "max", "(II)I"⟩ : MethodName)) hown (mvT hZ (hw _ (List.mem_of_getElem? (i := 15) rfl))) (mvT hZ (hw _ (List.mem_of_getElem? (i := 16) rfl))) (mvT hZ (hw _ (List.mem_of_getElem? (i := 17) rfl))) (mvT hZ (hw _ (List.mem_of_getElem? (i := 18) rfl))) (by decide) (backOf (W := 0) (rm3 l Z a0 hw [] (2 : Int32) (Int32.ofNat (n - 0)) h23 n0 Zs23) hZ (hw _ (List.mem_of_getElem? (i := 18) rfl)) (hw _ (List.mem_of_getElem? (i := 17) rfl)) (by decide) (by decide)) (g := (mkF m 74 #[.val (.ref a1), .val (.int (1 : Int32)), .val (.ref a3), .val (.int (Int32.ofNat n)), .val (.int (0 : Int32)), .val (.int (0 : Int32)), .val (.int (Int32.ofNat (n - 0))), .unset] [(.int (Int32.ofNat (n - 0))), (.int (2 : Int32))])) rfl (by rw [hml]; rfl) (argsL := [(.int (2 : Int32)), (.int (Int32.ofNat (n - 0)))]) (rest := []) (lenOf pd_1_0 rfl) rfl (by show 2 * 0 + _ ≤ _; exact Nat.le_of_eq rfl) (hb hby d1_74) (fun _ _ => ⟨rfl, e33, (by decide : 1 + 0 ≤ _), (by decide : 1 + 0 ≤ _)⟩)
  dsimp only [Pt.U, Pt.locs, Pt.cells, Pt.slots] at X34 l34 y34 z34 st34 hQ34
  subst l34 y34 z34
  obtain ⟨rfl, N34q, e34⟩ := hQ34
  have N34 := Fr.app N33 N34q
  refine go st34 ?_
  show G (T34.setTop (mkF m 77 #[.val (.ref a1), .val (.int (1 : Int32)), .val (.ref a3), .val (.int (Int32.ofNat n)), .val (.int (0 : Int32)), .val (.int (0 : Int32)), .val (.int (Int32.ofNat (n - 0))), .unset] [(.int (jmax (2 : Int32) (Int32.ofNat (n - 0))))]))
  rw [show (jmax (2 : Int32) (Int32.ofNat (n - 0))) = (Int32.ofNat cp) from hce]
  show G (T34.setTop (mkF m 77 #[.val (.ref a1), .val (.int (1 : Int32)), .val (.ref a3), .val (.int (Int32.ofNat n)), .val (.int (0 : Int32)), .val (.int (0 : Int32)), .val (.int (Int32.ofNat (n - 0))), .unset] [(.int (Int32.ofNat cp))]))
  refine go (fun _ k => XS.istore X34.here hx rfl (hb hby d1_77) rfl (l' := #[.val (.ref a1), .val (.int (1 : Int32)), .val (.ref a3), .val (.int (Int32.ofNat n)), .val (.int (0 : Int32)), .val (.int (0 : Int32)), .val (.int (Int32.ofNat (n - 0))), .val (.int (Int32.ofNat cp))]) rfl k) ?_
  show G (T34.setTop (mkF m 79 #[.val (.ref a1), .val (.int (1 : Int32)), .val (.ref a3), .val (.int (Int32.ofNat n)), .val (.int (0 : Int32)), .val (.int (0 : Int32)), .val (.int (Int32.ofNat (n - 0))), .val (.int (Int32.ofNat cp))] []))
  refine go (fun _ k => XS.aloadN X34.here hx rfl (hb hby d1_79) rfl rfl k) ?_
  show G (T34.setTop (mkF m 80 #[.val (.ref a1), .val (.int (1 : Int32)), .val (.ref a3), .val (.int (Int32.ofNat n)), .val (.int (0 : Int32)), .val (.int (0 : Int32)), .val (.int (Int32.ofNat (n - 0))), .val (.int (Int32.ofNat cp))] [(.ref a1)]))
  obtain ⟨T35, X35, e35, st35⟩ := getF X34 hx hZ hown (host := "") (Or.inl (hw _ (List.mem_of_getElem? (i := 23) rfl))) Via.refl e34 Fw23 (g := (mkF m 80 #[.val (.ref a1), .val (.int (1 : Int32)), .val (.ref a3), .val (.int (Int32.ofNat n)), .val (.int (0 : Int32)), .val (.int (0 : Int32)), .val (.int (Int32.ofNat (n - 0))), .val (.int (Int32.ofNat cp))] [(.ref a1)])) rfl rfl (hb hby d1_80)
  refine go st35 ?_
  show G (T35.setTop (mkF m 83 #[.val (.ref a1), .val (.int (1 : Int32)), .val (.ref a3), .val (.int (Int32.ofNat n)), .val (.int (0 : Int32)), .val (.int (0 : Int32)), .val (.int (Int32.ofNat (n - 0))), .val (.int (Int32.ofNat cp))] [(.ref b16)]))
  refine go (fun _ k => XS.iload X35.here hx rfl (hb hby d1_83) rfl k) ?_
  show G (T35.setTop (mkF m 85 #[.val (.ref a1), .val (.int (1 : Int32)), .val (.ref a3), .val (.int (Int32.ofNat n)), .val (.int (0 : Int32)), .val (.int (0 : Int32)), .val (.int (Int32.ofNat (n - 0))), .val (.int (Int32.ofNat cp))] [(.int (0 : Int32)), (.ref b16)]))
  obtain ⟨T36, h36, X36, e36, E36, A36, D36, -, st36⟩ := newO X35 hx hZ hown (hw _ (List.mem_of_getElem? (i := 21) rfl)) (hw _ (List.mem_of_getElem? (i := 28) rfl)) (hw _ (List.mem_of_getElem? (i := 29) rfl)) e35 (g := (mkF m 85 #[.val (.ref a1), .val (.int (1 : Int32)), .val (.ref a3), .val (.int (Int32.ofNat n)), .val (.int (0 : Int32)), .val (.int (0 : Int32)), .val (.int (Int32.ofNat (n - 0))), .val (.int (Int32.ofNat cp))] [(.int (0 : Int32)), (.ref b16)])) rfl (hb hby d1_85) (by decide) (by decide)
  obtain ⟨b36, ga36⟩ : ∃ z, z = h23.size := ⟨_, rfl⟩
  have ne_a1_b36 : a1 ≠ b36 := Nat.ne_of_lt (Nat.lt_of_lt_of_le f24.lt (Nat.le_of_eq ga36.symm))
  have ne_a3_b36 : a3 ≠ b36 := Nat.ne_of_lt (Nat.lt_of_lt_of_le f27.lt (Nat.le_of_eq ga36.symm))
  have ne_b16_b36 : b16 ≠ b36 := Nat.ne_of_lt (Nat.lt_of_lt_of_le f29.lt (Nat.le_of_eq ga36.symm))
  have g_b36 : n0 ≤ b36 := Nat.le_trans Zs23 (Nat.le_of_eq ga36.symm)
  have sz_b36 : h0.size ≤ b36 := Nat.le_trans K23.1 (Nat.le_of_eq ga36.symm)
  rw [← ga36] at A36 D36 st36
  have f37 := f24.ext E36
  have f38 := f25.ext E36
  have f39 := f26.ext E36
  have f40 := Fw23.ext E36
  have f41 := f27.ext E36
  have f42 := f28.ext E36
  have f43 := f29.ext E36
  have f44 := f30.ext E36
  have K36 : Keep h0 h36 [a1] := K23.ext E36
  have Zs36 : n0 ≤ h36.size := Nat.le_trans Zs23 E36.1
  have F36_words : Fld Z h36 b36 "com/example/kerros/kerros/store/SortedChunks$Chunk" "words" "[J" .null := D36 (Or.inl (hw _ (List.mem_of_getElem? (i := 50) rfl))) (ty := (.array .long)) (by decide)
  have F36_size : Fld Z h36 b36 "com/example/kerros/kerros/store/SortedChunks$Chunk" "size" "I" (.int (0 : Int32)) := D36 (Or.inl (hw _ (List.mem_of_getElem? (i := 52) rfl))) (ty := .int) (by decide)
  refine go st36 ?_
  show G (T36.setTop (mkF m 88 #[.val (.ref a1), .val (.int (1 : Int32)), .val (.ref a3), .val (.int (Int32.ofNat n)), .val (.int (0 : Int32)), .val (.int (0 : Int32)), .val (.int (Int32.ofNat (n - 0))), .val (.int (Int32.ofNat cp))] [(.ref b36), (.int (0 : Int32)), (.ref b16)]))
  refine go (fun _ k => XS.dup X36.here hx rfl (hb hby d1_88) rfl rfl k) ?_
  show G (T36.setTop (mkF m 89 #[.val (.ref a1), .val (.int (1 : Int32)), .val (.ref a3), .val (.int (Int32.ofNat n)), .val (.int (0 : Int32)), .val (.int (0 : Int32)), .val (.int (Int32.ofNat (n - 0))), .val (.int (Int32.ofNat cp))] [(.ref b36), (.ref b36), (.int (0 : Int32)), (.ref b16)]))
  refine go (fun _ k => XS.aloadN X36.here hx rfl (hb hby d1_89) rfl rfl k) ?_
  show G (T36.setTop (mkF m 90 #[.val (.ref a1), .val (.int (1 : Int32)), .val (.ref a3), .val (.int (Int32.ofNat n)), .val (.int (0 : Int32)), .val (.int (0 : Int32)), .val (.int (Int32.ofNat (n - 0))), .val (.int (Int32.ofNat cp))] [(.ref a3), (.ref b36), (.ref b36), (.int (0 : Int32)), (.ref b16)]))
  refine go (fun _ k => XS.iload X36.here hx rfl (hb hby d1_90) rfl k) ?_
  show G (T36.setTop (mkF m 92 #[.val (.ref a1), .val (.int (1 : Int32)), .val (.ref a3), .val (.int (Int32.ofNat n)), .val (.int (0 : Int32)), .val (.int (0 : Int32)), .val (.int (Int32.ofNat (n - 0))), .val (.int (Int32.ofNat cp))] [(.int (0 : Int32)), (.ref a3), (.ref b36), (.ref b36), (.int (0 : Int32)), (.ref b16)]))
  refine go (fun _ k => XS.iloadN X36.here hx rfl (hb hby d1_92) rfl k) ?_
  show G (T36.setTop (mkF m 93 #[.val (.ref a1), .val (.int (1 : Int32)), .val (.ref a3), .val (.int (Int32.ofNat n)), .val (.int (0 : Int32)), .val (.int (0 : Int32)), .val (.int (Int32.ofNat (n - 0))), .val (.int (Int32.ofNat cp))] [(.int (1 : Int32)), (.int (0 : Int32)), (.ref a3), (.ref b36), (.ref b36), (.int (0 : Int32)), (.ref b16)]))
  refine go (fun _ k => XS.imul X36.here hx rfl (hb hby d1_93) rfl k) ?_
  show G (T36.setTop (mkF m 94 #[.val (.ref a1), .val (.int (1 : Int32)), .val (.ref a3), .val (.int (Int32.ofNat n)), .val (.int (0 : Int32)), .val (.int (0 : Int32)), .val (.int (Int32.ofNat (n - 0))), .val (.int (Int32.ofNat cp))] [(.int ((0 : Int32) * (1 : Int32))), (.ref a3), (.ref b36), (.ref b36), (.int (0 : Int32)), (.ref b16)]))
  rw [show ((0 : Int32) * (1 : Int32)) = (0 : Int32) from by decide]
  show G (T36.setTop (mkF m 94 #[.val (.ref a1), .val (.int (1 : Int32)), .val (.ref a3), .val (.int (Int32.ofNat n)), .val (.int (0 : Int32)), .val (.int (0 : Int32)), .val (.int (Int32.ofNat (n - 0))), .val (.int (Int32.ofNat cp))] [(.int (0 : Int32)), (.ref a3), (.ref b36), (.ref b36), (.int (0 : Int32)), (.ref b16)]))
  refine go (fun _ k => XS.iload X36.here hx rfl (hb hby d1_94) rfl k) ?_
  show G (T36.setTop (mkF m 96 #[.val (.ref a1), .val (.int (1 : Int32)), .val (.ref a3), .val (.int (Int32.ofNat n)), .val (.int (0 : Int32)), .val (.int (0 : Int32)), .val (.int (Int32.ofNat (n - 0))), .val (.int (Int32.ofNat cp))] [(.int (0 : Int32)), (.int (0 : Int32)), (.ref a3), (.ref b36), (.ref b36), (.int (0 : Int32)), (.ref b16)]))
  refine go (fun _ k => XS.iload X36.here hx rfl (hb hby d1_96) rfl k) ?_
  show G (T36.setTop (mkF m 98 #[.val (.ref a1), .val (.int (1 : Int32)), .val (.ref a3), .val (.int (Int32.ofNat n)), .val (.int (0 : Int32)), .val (.int (0 : Int32)), .val (.int (Int32.ofNat (n - 0))), .val (.int (Int32.ofNat cp))] [(.int (Int32.ofNat cp)), (.int (0 : Int32)), (.int (0 : Int32)), (.ref a3), (.ref b36), (.ref b36), (.int (0 : Int32)), (.ref b16)]))
  refine go (fun _ k => XS.iadd X36.here hx rfl (hb hby d1_98) rfl k) ?_
  show G (T36.setTop (mkF m 99 #[.val (.ref a1), .val (.int (1 : Int32)), .val (.ref a3), .val (.int (Int32.ofNat n)), .val (.int (0 : Int32)), .val (.int (0 : Int32)), .val (.int (Int32.ofNat (n - 0))), .val (.int (Int32.ofNat cp))] [(.int ((0 : Int32) + (Int32.ofNat cp))), (.int (0 : Int32)), (.ref a3), (.ref b36), (.ref b36), (.int (0 : Int32)), (.ref b16)]))
  rw [show ((0 : Int32) + (Int32.ofNat cp)) = (Int32.ofNat (0 + cp)) from own_onadd 0 cp]
  show G (T36.setTop (mkF m 99 #[.val (.ref a1), .val (.int (1 : Int32)), .val (.ref a3), .val (.int (Int32.ofNat n)), .val (.int (0 : Int32)), .val (.int (0 : Int32)), .val (.int (Int32.ofNat (n - 0))), .val (.int (Int32.ofNat cp))] [(.int (Int32.ofNat (0 + cp))), (.int (0 : Int32)), (.ref a3), (.ref b36), (.ref b36), (.int (0 : Int32)), (.ref b16)]))
  refine go (fun _ k => XS.iloadN X36.here hx rfl (hb hby d1_99) rfl k) ?_
  show G (T36.setTop (mkF m 100 #[.val (.ref a1), .val (.int (1 : Int32)), .val (.ref a3), .val (.int (Int32.ofNat n)), .val (.int (0 : Int32)), .val (.int (0 : Int32)), .val (.int (Int32.ofNat (n - 0))), .val (.int (Int32.ofNat cp))] [(.int (1 : Int32)), (.int (Int32.ofNat (0 + cp))), (.int (0 : Int32)), (.ref a3), (.ref b36), (.ref b36), (.int (0 : Int32)), (.ref b16)]))
  refine go (fun _ k => XS.imul X36.here hx rfl (hb hby d1_100) rfl k) ?_
  show G (T36.setTop (mkF m 101 #[.val (.ref a1), .val (.int (1 : Int32)), .val (.ref a3), .val (.int (Int32.ofNat n)), .val (.int (0 : Int32)), .val (.int (0 : Int32)), .val (.int (Int32.ofNat (n - 0))), .val (.int (Int32.ofNat cp))] [(.int ((Int32.ofNat (0 + cp)) * (1 : Int32))), (.int (0 : Int32)), (.ref a3), (.ref b36), (.ref b36), (.int (0 : Int32)), (.ref b16)]))
  rw [show ((Int32.ofNat (0 + cp)) * (1 : Int32)) = (Int32.ofNat ((0 + cp) * 1)) from own_onmul (0 + cp) 1]
  show G (T36.setTop (mkF m 101 #[.val (.ref a1), .val (.int (1 : Int32)), .val (.ref a3), .val (.int (Int32.ofNat n)), .val (.int (0 : Int32)), .val (.int (0 : Int32)), .val (.int (Int32.ofNat (n - 0))), .val (.int (Int32.ofNat cp))] [(.int (Int32.ofNat ((0 + cp) * 1))), (.int (0 : Int32)), (.ref a3), (.ref b36), (.ref b36), (.int (0 : Int32)), (.ref b16)]))
  obtain ⟨_, _, ⟨T45, L45, k45, n45⟩, -, X45, ⟨Lc45, hQ45, l45, y45, z45⟩, st45⟩ := Jvm.LawKit.callS X36 hx (y := (⟨"java/util/Arrays", "copyOfRange", "([JII)[J"⟩ : MethodName)) hown (mvT hZ (hw _ (List.mem_of_getElem? (i := 30) rfl))) (mvT hZ (hw _ (List.mem_of_getElem? (i := 31) rfl))) (mvT hZ (hw _ (List.mem_of_getElem? (i := 32) rfl))) (mvT hZ (hw _ (List.mem_of_getElem? (i := 33) rfl))) (by decide) (backOf (W := 4) (rm5 l Z a0 hw [] a3 ((0 + cp) * 1) 6 kw0 h36 n0 Zs36 f41 f42 (by omega) (by omega) (by omega)) hZ (hw _ (List.mem_of_getElem? (i := 33) rfl)) (hw _ (List.mem_of_getElem? (i := 32) rfl)) (by decide) (by decide)) (g := (mkF m 101 #[.val (.ref a1), .val (.int (1 : Int32)), .val (.ref a3), .val (.int (Int32.ofNat n)), .val (.int (0 : Int32)), .val (.int (0 : Int32)), .val (.int (Int32.ofNat (n - 0))), .val (.int (Int32.ofNat cp))] [(.int (Int32.ofNat ((0 + cp) * 1))), (.int (0 : Int32)), (.ref a3), (.ref b36), (.ref b36), (.int (0 : Int32)), (.ref b16)])) rfl (by rw [hml]; rfl) (argsL := [(.ref a3), (.int (0 : Int32)), (.int (Int32.ofNat ((0 + cp) * 1)))]) (rest := [(.ref b36), (.ref b36), (.int (0 : Int32)), (.ref b16)]) (lenOf pd_1_1 rfl) rfl (by show 2 * 0 + _ ≤ _; exact Nat.le_of_eq rfl) (hb hby d1_101) (fun _ _ => ⟨rfl, e36, (by decide : 2 + 1 ≤ _), (by decide : 3 + 12 ≤ _)⟩)
  dsimp only [Pt.U, Pt.locs, Pt.cells, Pt.slots] at X45 l45 y45 z45 st45 hQ45
  subst l45 y45 z45
  obtain ⟨bc45, kc45, rfl, N45q, Kc45, c45_0, c45_1, c45_2⟩ := hQ45
  have ne_a1_bc45 : a1 ≠ bc45 := Nat.ne_of_lt (Nat.lt_of_lt_of_le f37.lt c45_0)
  have ne_a3_bc45 : a3 ≠ bc45 := Nat.ne_of_lt (Nat.lt_of_lt_of_le f41.lt c45_0)
  have ne_b16_bc45 : b16 ≠ bc45 := Nat.ne_of_lt (Nat.lt_of_lt_of_le f43.lt c45_0)
  have ne_b36_bc45 : b36 ≠ bc45 := Nat.ne_of_lt (Nat.lt_of_lt_of_le A36.lt c45_0)
  have g_bc45 : n0 ≤ bc45 := Nat.le_trans Zs36 c45_0
  have sz_bc45 : h0.size ≤ bc45 := Nat.le_trans K36.1 c45_0
  have f46 := f37.keep Kc45
  have f47 := f38.keep Kc45 nin0
  have f48 := f39.keep Kc45 nin0
  have f49 := f40.keep Kc45 nin0
  have f50 := f41.keep Kc45 nin0
  have f51 := f42.keep Kc45
  have f52 := f43.keep Kc45
  have f53 := f44.keep Kc45 nin0
  have f54 := A36.keep Kc45
  have f55 := F36_words.keep Kc45 nin0
  have f56 := F36_size.keep Kc45 nin0
  have K45 : Keep h0 T45.heap [a1] := K36.trans Kc45 all0
  have Zs45 : n0 ≤ T45.heap.size := Nat.le_trans Zs36 Kc45.1
  have N45 := Fr.app N34 N45q
  refine go st45 ?_
  show G (T45.setTop (mkF m 104 #[.val (.ref a1), .val (.int (1 : Int32)), .val (.ref a3), .val (.int (Int32.ofNat n)), .val (.int (0 : Int32)), .val (.int (0 : Int32)), .val (.int (Int32.ofNat (n - 0))), .val (.int (Int32.ofNat cp))] [(.ref bc45), (.ref b36), (.ref b36), (.int (0 : Int32)), (.ref b16)]))
  refine go (fun _ k => XS.iload X45.here hx rfl (hb hby d1_104) rfl k) ?_
  show G (T45.setTop (mkF m 106 #[.val (.ref a1), .val (.int (1 : Int32)), .val (.ref a3), .val (.int (Int32.ofNat n)), .val (.int (0 : Int32)), .val (.int (0 : Int32)), .val (.int (Int32.ofNat (n - 0))), .val (.int (Int32.ofNat cp))] [(.int (Int32.ofNat (n - 0))), (.ref bc45), (.ref b36), (.ref b36), (.int (0 : Int32)), (.ref b16)]))
  obtain ⟨_, ⟨T57, L57, k57, n57⟩, X57, ⟨Lc57, hQ57, l57, y57, z57⟩, st57⟩ := own_specR X45 hx hZ (y := (⟨"com/example/kerros/kerros/store/SortedChunks$Chunk", "<init>", "([JI)V"⟩ : MethodName)) rfl hown (hw _ (List.mem_of_getElem? (i := 45) rfl)) (hw _ (List.mem_of_getElem? (i := 46) rfl)) (hw _ (List.mem_of_getElem? (i := 47) rfl)) (by decide) (backOf (W := 3) (rm8 l Z a0 hw [] b36 bc45 (Int32.ofNat (n - 0)) T45.heap n0 Zs45 f55 f56 f54 g_b36) hZ (hw _ (List.mem_of_getElem? (i := 47) rfl)) (hw _ (List.mem_of_getElem? (i := 29) rfl)) (by decide) (by decide)) (g := (mkF m 106 #[.val (.ref a1), .val (.int (1 : Int32)), .val (.ref a3), .val (.int (Int32.ofNat n)), .val (.int (0 : Int32)), .val (.int (0 : Int32)), .val (.int (Int32.ofNat (n - 0))), .val (.int (Int32.ofNat cp))] [(.int (Int32.ofNat (n - 0))), (.ref bc45), (.ref b36), (.ref b36), (.int (0 : Int32)), (.ref b16)])) rfl (by rw [hml]; rfl) (a := b36) (argsL := [(.ref bc45), (.int (Int32.ofNat (n - 0)))]) (rest := [(.ref b36), (.int (0 : Int32)), (.ref b16)]) (lenOf pd_1_2 rfl) rfl (by show 2 * 0 + _ ≤ _; exact Nat.le_of_eq rfl) (hb hby d1_106) ⟨rfl, rfl, (by decide : 3 + 0 ≤ _), (by decide : 15 + 0 ≤ _)⟩
  dsimp only [Pt.U, Pt.locs, Pt.cells, Pt.slots] at X57 l57 y57 z57 st57 hQ57
  subst l57 y57 z57
  obtain ⟨rfl, N57q, Kc57, c57_0, c57_1⟩ := hQ57
  have f58 := f46.keep Kc57
  have f59 := f47.keep Kc57 (ninS ne_a1_b36 nin0)
  have f60 := f48.keep Kc57 (ninS ne_a1_b36 nin0)
  have f61 := f49.keep Kc57 (ninS ne_a1_b36 nin0)
  have f62 := f50.keep Kc57 (ninS ne_a3_b36 nin0)
  have f63 := f51.keep Kc57
  have f64 := f52.keep Kc57
  have f65 := f53.keep Kc57 (ninS ne_b16_b36 nin0)
  have f66 := f54.keep Kc57
  have f67 := c45_1.keep Kc57 (ninS (Ne.symm ne_b36_bc45) nin0)
  have f68 := c45_2.keep Kc57
  have K57 : Keep h0 T57.heap [a1] := K45.trans Kc57 (allS (P := fun x => x ∈ [a1] ∨ h0.size ≤ x) (Or.inr sz_b36) all0)
  have Zs57 : n0 ≤ T57.heap.size := Nat.le_trans Zs45 Kc57.1
  have N57 := Fr.app N45 N57q
  refine go (fun _ k => st57.trans k) ?_
  show G (T57.setTop (mkF m 109 #[.val (.ref a1), .val (.int (1 : Int32)), .val (.ref a3), .val (.int (Int32.ofNat n)), .val (.int (0 : Int32)), .val (.int (0 : Int32)), .val (.int (Int32.ofNat (n - 0))), .val (.int (Int32.ofNat cp))] [(.ref b36), (.int (0 : Int32)), (.ref b16)]))
  obtain ⟨cl69, Ar69, qk69, qs69, qn69, qh69, qg69⟩ := id f65
  obtain ⟨T69, h69, X69, e69, W69, st69⟩ := stR X57 hx hZ rfl Ar69 (j := (0 : Int32)) (inb_of qs69 ⟨by decide, by decide⟩) rfl (Sto.ofV Ar69 qk69 O16 (Ins.self f66)) (g := (mkF m 109 #[.val (.ref a1), .val (.int (1 : Int32)), .val (.ref a3), .val (.int (Int32.ofNat n)), .val (.int (0 : Int32)), .val (.int (0 : Int32)), .val (.int (Int32.ofNat (n - 0))), .val (.int (Int32.ofNat cp))] [(.ref b36), (.int (0 : Int32)), (.ref b16)])) rfl rfl (hb hby d1_109)
  have V69 : Arv Z h69 b16 k16 (.object "com/example/kerros/kerros/store/SortedChunks$Chunk") (1 : Int32) [(.ref b36)] .null := Arv.set Ar69 qk69 qs69 qn69 qh69 qg69 rfl W69 0 rfl (Nat.le_of_ble_eq_true rfl)
  have f70 := f58.wr W69
  have f71 := f59.other W69 (Or.inl ne_a1_b16)
  have f72 := f60.other W69 (Or.inl ne_a1_b16)
  have f73 := f61.other W69 (Or.inl ne_a1_b16)
  have f74 := f62.other W69 ne_a3_b16
  have f75 := f63.wr W69
  have f76 := f64.wr W69
  have f77 := f66.wr W69
  have f78 := f67.other W69 (Ne.symm ne_b16_bc45)
  have f79 := f68.wr W69
  have f80 := c57_0.other W69 (Or.inl (Ne.symm ne_b16_b36))
  have f81 := c57_1.other W69 (Or.inl (Ne.symm ne_b16_b36))
  have K69 : Keep h0 h69 [a1] := K57.wr W69 (Or.inr sz_b16)
  have Zs69 : n0 ≤ h69.size := Nat.le_trans Zs57 (Keep.of_wr W69).1
  have N69 := Fr.snoc X69 N57 g_b16
  refine go st69 ?_
  show G (T69.setTop (mkF m 110 #[.val (.ref a1), .val (.int (1 : Int32)), .val (.ref a3), .val (.int (Int32.ofNat n)), .val (.int (0 : Int32)), .val (.int (0 : Int32)), .val (.int (Int32.ofNat (n - 0))), .val (.int (Int32.ofNat cp))] []))
  refine go (fun _ k => XS.iinc X69.here hx rfl (hb hby d1_110) rfl (l' := #[.val (.ref a1), .val (.int (1 : Int32)), .val (.ref a3), .val (.int (Int32.ofNat n)), .val (.int ((0 : Int32) + (1 : Int32))), .val (.int (0 : Int32)), .val (.int (Int32.ofNat (n - 0))), .val (.int (Int32.ofNat cp))]) rfl k) ?_
  show G (T69.setTop (mkF m 113 #[.val (.ref a1), .val (.int (1 : Int32)), .val (.ref a3), .val (.int (Int32.ofNat n)), .val (.int ((0 : Int32) + (1 : Int32))), .val (.int (0 : Int32)), .val (.int (Int32.ofNat (n - 0))), .val (.int (Int32.ofNat cp))] []))
  rw [show ((0 : Int32) + (1 : Int32) : Int32) = (1 : Int32) from by decide]
  show G (T69.setTop (mkF m 113 #[.val (.ref a1), .val (.int (1 : Int32)), .val (.ref a3), .val (.int (Int32.ofNat n)), .val (.int (1 : Int32)), .val (.int (0 : Int32)), .val (.int (Int32.ofNat (n - 0))), .val (.int (Int32.ofNat cp))] []))
  refine go (fun _ k => XS.goto X69.here hx rfl (pc0 := 113) (pc' := 42) rfl (hb hby d1_113) (by decide) (by decide) k) ?_
  show G (T69.setTop (mkF m 42 #[.val (.ref a1), .val (.int (1 : Int32)), .val (.ref a3), .val (.int (Int32.ofNat n)), .val (.int (1 : Int32)), .val (.int (0 : Int32)), .val (.int (Int32.ofNat (n - 0))), .val (.int (Int32.ofNat cp))] []))
  refine go (fun _ k => XS.iload X69.here hx rfl (hb hby d1_42) rfl k) ?_
  show G (T69.setTop (mkF m 44 #[.val (.ref a1), .val (.int (1 : Int32)), .val (.ref a3), .val (.int (Int32.ofNat n)), .val (.int (1 : Int32)), .val (.int (0 : Int32)), .val (.int (Int32.ofNat (n - 0))), .val (.int (Int32.ofNat cp))] [(.int (1 : Int32))]))
  refine go (fun _ k => XS.aloadN X69.here hx rfl (hb hby d1_44) rfl rfl k) ?_
  show G (T69.setTop (mkF m 45 #[.val (.ref a1), .val (.int (1 : Int32)), .val (.ref a3), .val (.int (Int32.ofNat n)), .val (.int (1 : Int32)), .val (.int (0 : Int32)), .val (.int (Int32.ofNat (n - 0))), .val (.int (Int32.ofNat cp))] [(.ref a1), (.int (1 : Int32))]))
  obtain ⟨T82, X82, e82, st82⟩ := getF X69 hx hZ hown (host := "") (Or.inl (hw _ (List.mem_of_getElem? (i := 19) rfl))) Via.refl e69 f72 (g := (mkF m 45 #[.val (.ref a1), .val (.int (1 : Int32)), .val (.ref a3), .val (.int (Int32.ofNat n)), .val (.int (1 : Int32)), .val (.int (0 : Int32)), .val (.int (Int32.ofNat (n - 0))), .val (.int (Int32.ofNat cp))] [(.ref a1), (.int (1 : Int32))])) rfl rfl (hb hby d1_45)
  refine go st82 ?_
  show G (T82.setTop (mkF m 48 #[.val (.ref a1), .val (.int (1 : Int32)), .val (.ref a3), .val (.int (Int32.ofNat n)), .val (.int (1 : Int32)), .val (.int (0 : Int32)), .val (.int (Int32.ofNat (n - 0))), .val (.int (Int32.ofNat cp))] [(.int (1 : Int32)), (.int (1 : Int32))]))
  have hc83 : ¬ ((1 : Int32) < (1 : Int32)) := (by decide)
  refine go (fun _ k => XS.icmpYes X82.here hx rfl (pc0 := 48) (pc' := 116) rfl (hb hby d1_48) rfl (flt hc83).2.1 (by decide) (by decide) k) ?_
  show G (T82.setTop (mkF m 116 #[.val (.ref a1), .val (.int (1 : Int32)), .val (.ref a3), .val (.int (Int32.ofNat n)), .val (.int (1 : Int32)), .val (.int (0 : Int32)), .val (.int (Int32.ofNat (n - 0))), .val (.int (Int32.ofNat cp))] []))
  rw [hG]
  refine own_fin X82 Bd.notSynchronized (v := none) (fun _ => rfl) (fun fs hr => X82.returnOut hx Bd.returns (hb hby d1_116) hr) ?_ (by decide) (by decide)
  show Q1w1 Z a1 a3 n kw0 h0 n0 (none) T82.heap _
  rw [e82]
  exact ⟨b16, b36, bc45, k16, kc45, (0 + cp), rfl, N69, K69, sz_b16, sz_b36, sz_bc45, ne_b16_b36, ne_b16_bc45, ne_b36_bc45, f71, f72, f73, V69, f77, f80, f81, f78, f79, by omega, by omega⟩

theorem d18_0 : decode prog_87_method_4_code 0 = .ok (.aload_n 0, 1) := by decide +kernel
theorem d18_1 : decode prog_87_method_4_code 1 = .ok (.getfield 9, 3) := by decide +kernel
theorem d18_4 : decode prog_87_method_4_code 4 = .ok (.iload_n 1, 1) := by decide +kernel
theorem d18_5 : decode prog_87_method_4_code 5 = .ok (.iconst 1, 1) := by decide +kernel
theorem d18_6 : decode prog_87_method_4_code 6 = .ok (.iadd, 1) := by decide +kernel
theorem d18_7 : decode prog_87_method_4_code 7 = .ok (.iload_n 2, 1) := by decide +kernel
theorem d18_8 : decode prog_87_method_4_code 8 = .ok (.imul, 1) := by decide +kernel
theorem d18_9 : decode prog_87_method_4_code 9 = .ok (.aload_n 0, 1) := by decide +kernel
theorem d18_10 : decode prog_87_method_4_code 10 = .ok (.getfield 9, 3) := by decide +kernel
theorem d18_13 : decode prog_87_method_4_code 13 = .ok (.iload_n 1, 1) := by decide +kernel
theorem d18_14 : decode prog_87_method_4_code 14 = .ok (.iload_n 2, 1) := by decide +kernel
theorem d18_15 : decode prog_87_method_4_code 15 = .ok (.imul, 1) := by decide +kernel
theorem d18_16 : decode prog_87_method_4_code 16 = .ok (.aload_n 0, 1) := by decide +kernel
theorem d18_17 : decode prog_87_method_4_code 17 = .ok (.getfield 15, 3) := by decide +kernel
theorem d18_20 : decode prog_87_method_4_code 20 = .ok (.iload_n 1, 1) := by decide +kernel
theorem d18_21 : decode prog_87_method_4_code 21 = .ok (.isub, 1) := by decide +kernel
theorem d18_22 : decode prog_87_method_4_code 22 = .ok (.iconst 1, 1) := by decide +kernel
theorem d18_23 : decode prog_87_method_4_code 23 = .ok (.isub, 1) := by decide +kernel
theorem d18_24 : decode prog_87_method_4_code 24 = .ok (.iload_n 2, 1) := by decide +kernel
theorem d18_25 : decode prog_87_method_4_code 25 = .ok (.imul, 1) := by decide +kernel
theorem d18_26 : decode prog_87_method_4_code 26 = .ok (.invokestatic 32, 3) := by decide +kernel
theorem d18_29 : decode prog_87_method_4_code 29 = .ok (.aload_n 0, 1) := by decide +kernel
theorem d18_30 : decode prog_87_method_4_code 30 = .ok (.dup, 1) := by decide +kernel
theorem d18_31 : decode prog_87_method_4_code 31 = .ok (.getfield 15, 3) := by decide +kernel
theorem d18_34 : decode prog_87_method_4_code 34 = .ok (.iconst 1, 1) := by decide +kernel
theorem d18_35 : decode prog_87_method_4_code 35 = .ok (.isub, 1) := by decide +kernel
theorem d18_36 : decode prog_87_method_4_code 36 = .ok (.putfield 15, 3) := by decide +kernel
theorem d18_39 : decode prog_87_method_4_code 39 = .ok (.return_, 1) := by decide +kernel
theorem pn_18 : plainName "com/example/kerros/kerros/store/SortedChunks$Chunk" = true := by first | (simp [plainName, overriddenIn]; done) | decide +kernel
theorem ef_rm18w1 (m : MethodId) (a1 : Addr) (i : Nat) : entryFrame m #[(.ref a1), (.int (Int32.ofNat i)), (.int (1 : Int32))] 3 = mkF m 0 #[.val (.ref a1), .val (.int (Int32.ofNat i)), .val (.int (1 : Int32))] [] := by first | (simp [entryFrame, mkF, argsToLocals, Value.category]; done) | rfl
def Q18w1 (Z : State) (a1 : Addr) (wa : Addr) (kw : ClassId) (sz cb i : Nat) (h0 : Heap) (n0 : Nat) (v : Option Value) (h : Heap) (L : List Loc) : Prop := v = none ∧ Fr n0 L ∧ Keep h0 h [a1, wa] ∧ Fld Z h a1 "com/example/kerros/kerros/store/SortedChunks$Chunk" "words" "[J" (.ref wa) ∧ Fld Z h a1 "com/example/kerros/kerros/store/SortedChunks$Chunk" "size" "I" (.int (Int32.ofNat (sz - 1))) ∧ LA Z h wa kw (cb * 1)
set_option maxRecDepth 65536 in
set_option maxHeartbeats 40000000 in
theorem rm18w1 (l : Launch) (Z : State) (a0 : Array Value) (hw : ∀ d ∈ tables_1, d.before a0 Z = true) (ws : List Jvm.Cond) (a1 : Addr) (wa : Addr) (kw : ClassId) (sz cb i : Nat) (h0 : Heap) (n0 : Nat) (Z0 : n0 ≤ h0.size) (E : Exa Z h0 a1 "com/example/kerros/kerros/store/SortedChunks$Chunk") (F1 : Fld Z h0 a1 "com/example/kerros/kerros/store/SortedChunks$Chunk" "words" "[J" (.ref wa)) (F2 : Fld Z h0 a1 "com/example/kerros/kerros/store/SortedChunks$Chunk" "size" "I" (.int (Int32.ofNat sz))) (VL : LA Z h0 wa kw (cb * 1)) (EL : Exa Z h0 wa "[J") (hne : a1 ≠ wa) (g_a1 : n0 ≤ a1) (g_wa : n0 ≤ wa) (hsc : sz ≤ cb) (hc5 : cb ≤ 5) (hi : i < sz) :
    MetFree l (⟨"com/example/kerros/kerros/store/SortedChunks$Chunk", "remove", "(II)V"⟩ : MethodName) (head1 (Jvm.Cond.code (⟨"com/example/kerros/kerros/store/SortedChunks$Chunk", "remove", "(II)V"⟩ : MethodName) prog_87_method_4_code 3 none :: ws) ({ frames := 1, cells := 0, slots := 0, locals := 30 } : Room)) (fun a U => a = #[(.ref a1), (.int (Int32.ofNat i)), (.int (1 : Int32))] ∧ Z.Warmed39 U.vm ∧ U.heap = h0) (fun _ _ _ _ _ => True) (fun _ U o U' => ∃ v L, o = .returned v ∧ Q18w1 Z a1 wa kw sz cb i h0 n0 v U'.heap L ∧ FrameEnd U o U' L ({ frames := 1, cells := 0, slots := 0, locals := 30 } : Room).cells ({ frames := 1, cells := 0, slots := 0, locals := 30 } : Room).slots) := by
  refine MetFree.of_bodySF (plainFor_of_name pn_18) hisR ?_
  intro p e s m args below meth c s₁ Bd hml0 hP hK
  obtain ⟨rfl, hZ, hh⟩ := hP
  have hx := Bd.exec
  have hby := Bd.bytes
  have hml : c.maxLocals = 3 := hml0
  have hown : s.vm.findClass "com/example/kerros/kerros/store/SortedChunks$Chunk" = some m.cls := findClass_of_methodNamed Bd.named
  have hnm := (name_of_methodNamed Bd.named Bd.method).1
  have X0 : Stand p l e ({ frames := 1, cells := 0, slots := 0, locals := 30 } : Room) s m #[(.ref a1), (.int (Int32.ofNat i)), (.int (1 : Int32))] below meth c s₁ [] 0 0 := Stand.of_body Bd
  have e0 : s₁.heap = h0 := by rw [← hh, Bd.state]; rfl
  have N0 := Fr.nil n0
  obtain ⟨G, hG⟩ : ∃ G : State → Prop, G = OwnG p e below s ({ frames := 1, cells := 0, slots := 0, locals := 30 } : Room).cells ({ frames := 1, cells := 0, slots := 0, locals := 30 } : Room).slots (Q18w1 Z a1 wa kw sz cb i h0 n0) := ⟨_, rfl⟩
  have go : ∀ {A B : State}, (∀ t, Steps p.tables e below A t → Steps p.tables e below B t) → G A → G B := fun h k => by rw [hG] at k ⊢; exact OwnG.go h k
  suffices k0 : G (s₁.setTop (mkF m 0 #[.val (.ref a1), .val (.int (Int32.ofNat i)), .val (.int (1 : Int32))] [])) by
    rw [hG] at k0; exact OwnG.go (fun t k => castTop (ef_rm18w1 m a1 i) k) k0
  have K0 : Keep h0 h0 [a1, wa] := Keep.refl _ _
  refine go (fun _ k => XS.aloadN X0.here hx rfl (hb hby d18_0) rfl rfl k) ?_
  show G (s₁.setTop (mkF m 1 #[.val (.ref a1), .val (.int (Int32.ofNat i)), .val (.int (1 : Int32))] [(.ref a1)]))
  obtain ⟨T1, X1, e1, st1⟩ := getF X0 hx hZ hown (host := "") (Or.inl (hw _ (List.mem_of_getElem? (i := 49) rfl))) Via.refl e0 F1 (g := (mkF m 1 #[.val (.ref a1), .val (.int (Int32.ofNat i)), .val (.int (1 : Int32))] [(.ref a1)])) rfl rfl (hb hby d18_1)
  refine go st1 ?_
  show G (T1.setTop (mkF m 4 #[.val (.ref a1), .val (.int (Int32.ofNat i)), .val (.int (1 : Int32))] [(.ref wa)]))
  refine go (fun _ k => XS.iloadN X1.here hx rfl (hb hby d18_4) rfl k) ?_
  show G (T1.setTop (mkF m 5 #[.val (.ref a1), .val (.int (Int32.ofNat i)), .val (.int (1 : Int32))] [(.int (Int32.ofNat i)), (.ref wa)]))
  refine go (fun _ k => XS.iconst X1.here hx rfl (hb hby d18_5) k) ?_
  show G (T1.setTop (mkF m 6 #[.val (.ref a1), .val (.int (Int32.ofNat i)), .val (.int (1 : Int32))] [(.int (1 : Int32)), (.int (Int32.ofNat i)), (.ref wa)]))
  refine go (fun _ k => XS.iadd X1.here hx rfl (hb hby d18_6) rfl k) ?_
  show G (T1.setTop (mkF m 7 #[.val (.ref a1), .val (.int (Int32.ofNat i)), .val (.int (1 : Int32))] [(.int ((Int32.ofNat i) + (1 : Int32))), (.ref wa)]))
  rw [show ((Int32.ofNat i) + (1 : Int32)) = (Int32.ofNat (i + 1)) from own_onadd i 1]
  show G (T1.setTop (mkF m 7 #[.val (.ref a1), .val (.int (Int32.ofNat i)), .val (.int (1 : Int32))] [(.int (Int32.ofNat (i + 1))), (.ref wa)]))
  refine go (fun _ k => XS.iloadN X1.here hx rfl (hb hby d18_7) rfl k) ?_
  show G (T1.setTop (mkF m 8 #[.val (.ref a1), .val (.int (Int32.ofNat i)), .val (.int (1 : Int32))] [(.int (1 : Int32)), (.int (Int32.ofNat (i + 1))), (.ref wa)]))
  refine go (fun _ k => XS.imul X1.here hx rfl (hb hby d18_8) rfl k) ?_
  show G (T1.setTop (mkF m 9 #[.val (.ref a1), .val (.int (Int32.ofNat i)), .val (.int (1 : Int32))] [(.int ((Int32.ofNat (i + 1)) * (1 : Int32))), (.ref wa)]))
  rw [show ((Int32.ofNat (i + 1)) * (1 : Int32)) = (Int32.ofNat ((i + 1) * 1)) from own_onmul (i + 1) 1]
  show G (T1.setTop (mkF m 9 #[.val (.ref a1), .val (.int (Int32.ofNat i)), .val (.int (1 : Int32))] [(.int (Int32.ofNat ((i + 1) * 1))), (.ref wa)]))
  refine go (fun _ k => XS.aloadN X1.here hx rfl (hb hby d18_9) rfl rfl k) ?_
  show G (T1.setTop (mkF m 10 #[.val (.ref a1), .val (.int (Int32.ofNat i)), .val (.int (1 : Int32))] [(.ref a1), (.int (Int32.ofNat ((i + 1) * 1))), (.ref wa)]))
  obtain ⟨T2, X2, e2, st2⟩ := getF X1 hx hZ hown (host := "") (Or.inl (hw _ (List.mem_of_getElem? (i := 49) rfl))) Via.refl e1 F1 (g := (mkF m 10 #[.val (.ref a1), .val (.int (Int32.ofNat i)), .val (.int (1 : Int32))] [(.ref a1), (.int (Int32.ofNat ((i + 1) * 1))), (.ref wa)])) rfl rfl (hb hby d18_10)
  refine go st2 ?_
  show G (T2.setTop (mkF m 13 #[.val (.ref a1), .val (.int (Int32.ofNat i)), .val (.int (1 : Int32))] [(.ref wa), (.int (Int32.ofNat ((i + 1) * 1))), (.ref wa)]))
  refine go (fun _ k => XS.iloadN X2.here hx rfl (hb hby d18_13) rfl k) ?_
  show G (T2.setTop (mkF m 14 #[.val (.ref a1), .val (.int (Int32.ofNat i)), .val (.int (1 : Int32))] [(.int (Int32.ofNat i)), (.ref wa), (.int (Int32.ofNat ((i + 1) * 1))), (.ref wa)]))
  refine go (fun _ k => XS.iloadN X2.here hx rfl (hb hby d18_14) rfl k) ?_
  show G (T2.setTop (mkF m 15 #[.val (.ref a1), .val (.int (Int32.ofNat i)), .val (.int (1 : Int32))] [(.int (1 : Int32)), (.int (Int32.ofNat i)), (.ref wa), (.int (Int32.ofNat ((i + 1) * 1))), (.ref wa)]))
  refine go (fun _ k => XS.imul X2.here hx rfl (hb hby d18_15) rfl k) ?_
  show G (T2.setTop (mkF m 16 #[.val (.ref a1), .val (.int (Int32.ofNat i)), .val (.int (1 : Int32))] [(.int ((Int32.ofNat i) * (1 : Int32))), (.ref wa), (.int (Int32.ofNat ((i + 1) * 1))), (.ref wa)]))
  rw [show ((Int32.ofNat i) * (1 : Int32)) = (Int32.ofNat (i * 1)) from own_onmul i 1]
  show G (T2.setTop (mkF m 16 #[.val (.ref a1), .val (.int (Int32.ofNat i)), .val (.int (1 : Int32))] [(.int (Int32.ofNat (i * 1))), (.ref wa), (.int (Int32.ofNat ((i + 1) * 1))), (.ref wa)]))
  refine go (fun _ k => XS.aloadN X2.here hx rfl (hb hby d18_16) rfl rfl k) ?_
  show G (T2.setTop (mkF m 17 #[.val (.ref a1), .val (.int (Int32.ofNat i)), .val (.int (1 : Int32))] [(.ref a1), (.int (Int32.ofNat (i * 1))), (.ref wa), (.int (Int32.ofNat ((i + 1) * 1))), (.ref wa)]))
  obtain ⟨T3, X3, e3, st3⟩ := getF X2 hx hZ hown (host := "") (Or.inl (hw _ (List.mem_of_getElem? (i := 51) rfl))) Via.refl e2 F2 (g := (mkF m 17 #[.val (.ref a1), .val (.int (Int32.ofNat i)), .val (.int (1 : Int32))] [(.ref a1), (.int (Int32.ofNat (i * 1))), (.ref wa), (.int (Int32.ofNat ((i + 1) * 1))), (.ref wa)])) rfl rfl (hb hby d18_17)
  refine go st3 ?_
  show G (T3.setTop (mkF m 20 #[.val (.ref a1), .val (.int (Int32.ofNat i)), .val (.int (1 : Int32))] [(.int (Int32.ofNat sz)), (.int (Int32.ofNat (i * 1))), (.ref wa), (.int (Int32.ofNat ((i + 1) * 1))), (.ref wa)]))
  refine go (fun _ k => XS.iloadN X3.here hx rfl (hb hby d18_20) rfl k) ?_
  show G (T3.setTop (mkF m 21 #[.val (.ref a1), .val (.int (Int32.ofNat i)), .val (.int (1 : Int32))] [(.int (Int32.ofNat i)), (.int (Int32.ofNat sz)), (.int (Int32.ofNat (i * 1))), (.ref wa), (.int (Int32.ofNat ((i + 1) * 1))), (.ref wa)]))
  refine go (fun _ k => XS.isub X3.here hx rfl (hb hby d18_21) rfl k) ?_
  show G (T3.setTop (mkF m 22 #[.val (.ref a1), .val (.int (Int32.ofNat i)), .val (.int (1 : Int32))] [(.int ((Int32.ofNat sz) - (Int32.ofNat i))), (.int (Int32.ofNat (i * 1))), (.ref wa), (.int (Int32.ofNat ((i + 1) * 1))), (.ref wa)]))
  rw [show ((Int32.ofNat sz) - (Int32.ofNat i)) = (Int32.ofNat (sz - i)) from own_onsub sz i (by omega)]
  show G (T3.setTop (mkF m 22 #[.val (.ref a1), .val (.int (Int32.ofNat i)), .val (.int (1 : Int32))] [(.int (Int32.ofNat (sz - i))), (.int (Int32.ofNat (i * 1))), (.ref wa), (.int (Int32.ofNat ((i + 1) * 1))), (.ref wa)]))
  refine go (fun _ k => XS.iconst X3.here hx rfl (hb hby d18_22) k) ?_
  show G (T3.setTop (mkF m 23 #[.val (.ref a1), .val (.int (Int32.ofNat i)), .val (.int (1 : Int32))] [(.int (1 : Int32)), (.int (Int32.ofNat (sz - i))), (.int (Int32.ofNat (i * 1))), (.ref wa), (.int (Int32.ofNat ((i + 1) * 1))), (.ref wa)]))
  refine go (fun _ k => XS.isub X3.here hx rfl (hb hby d18_23) rfl k) ?_
  show G (T3.setTop (mkF m 24 #[.val (.ref a1), .val (.int (Int32.ofNat i)), .val (.int (1 : Int32))] [(.int ((Int32.ofNat (sz - i)) - (1 : Int32))), (.int (Int32.ofNat (i * 1))), (.ref wa), (.int (Int32.ofNat ((i + 1) * 1))), (.ref wa)]))
  rw [show ((Int32.ofNat (sz - i)) - (1 : Int32)) = (Int32.ofNat ((sz - i) - 1)) from own_onsub (sz - i) 1 (by omega)]
  show G (T3.setTop (mkF m 24 #[.val (.ref a1), .val (.int (Int32.ofNat i)), .val (.int (1 : Int32))] [(.int (Int32.ofNat ((sz - i) - 1))), (.int (Int32.ofNat (i * 1))), (.ref wa), (.int (Int32.ofNat ((i + 1) * 1))), (.ref wa)]))
  refine go (fun _ k => XS.iloadN X3.here hx rfl (hb hby d18_24) rfl k) ?_
  show G (T3.setTop (mkF m 25 #[.val (.ref a1), .val (.int (Int32.ofNat i)), .val (.int (1 : Int32))] [(.int (1 : Int32)), (.int (Int32.ofNat ((sz - i) - 1))), (.int (Int32.ofNat (i * 1))), (.ref wa), (.int (Int32.ofNat ((i + 1) * 1))), (.ref wa)]))
  refine go (fun _ k => XS.imul X3.here hx rfl (hb hby d18_25) rfl k) ?_
  show G (T3.setTop (mkF m 26 #[.val (.ref a1), .val (.int (Int32.ofNat i)), .val (.int (1 : Int32))] [(.int ((Int32.ofNat ((sz - i) - 1)) * (1 : Int32))), (.int (Int32.ofNat (i * 1))), (.ref wa), (.int (Int32.ofNat ((i + 1) * 1))), (.ref wa)]))
  rw [show ((Int32.ofNat ((sz - i) - 1)) * (1 : Int32)) = (Int32.ofNat (((sz - i) - 1) * 1)) from own_onmul ((sz - i) - 1) 1]
  show G (T3.setTop (mkF m 26 #[.val (.ref a1), .val (.int (Int32.ofNat i)), .val (.int (1 : Int32))] [(.int (Int32.ofNat (((sz - i) - 1) * 1))), (.int (Int32.ofNat (i * 1))), (.ref wa), (.int (Int32.ofNat ((i + 1) * 1))), (.ref wa)]))
  obtain ⟨va4, la4, VA4⟩ := id VL
  obtain ⟨vb4, lb4, VB4⟩ := id VL
  have qN4 : (Int32.ofNat (((sz - i) - 1) * 1)).toNatClampNeg = (((sz - i) - 1) * 1) := own_onnat _ (by omega)
  have qD4 : (Int32.ofNat (i * 1)).toNatClampNeg = (i * 1) := own_onnat _ (by omega)
  have qS4 : (Int32.ofNat ((i + 1) * 1)).toNatClampNeg = ((i + 1) * 1) := own_onnat _ (by omega)
  have qA4 : (Int32.ofNat (cb * 1)).toNatClampNeg = (cb * 1) := own_onnat _ (by omega)
  have qB4 : (Int32.ofNat (cb * 1)).toNatClampNeg = (cb * 1) := own_onnat _ (by omega)
  have i44 : (Int32.ofNat ((i + 1) * 1)).toNatClampNeg + (Int32.ofNat (((sz - i) - 1) * 1)).toNatClampNeg ≤ (Int32.ofNat (cb * 1)).toNatClampNeg := by omega
  have i54 : (Int32.ofNat (i * 1)).toNatClampNeg + (Int32.ofNat (((sz - i) - 1) * 1)).toNatClampNeg ≤ (Int32.ofNat (cb * 1)).toNatClampNeg := by omega
  have i64 : (Int32.ofNat (i * 1)).toNatClampNeg + (Int32.ofNat (((sz - i) - 1) * 1)).toNatClampNeg ≤ vb4.length := by omega
  obtain ⟨T4, h4, Lx4, X4, e4, N4, Kp4, Vc4, st4⟩ := cpA X3 hx hZ hown (hw _ (List.mem_of_getElem? (i := 84) rfl)) (hw _ (List.mem_of_getElem? (i := 44) rfl)) (hw _ (List.mem_of_getElem? (i := 42) rfl)) (hw _ (List.mem_of_getElem? (i := 43) rfl)) e3 VA4 VB4 (sp := Int32.ofNat ((i + 1) * 1)) (dp := Int32.ofNat (i * 1)) (nn := Int32.ofNat (((sz - i) - 1) * 1)) (Or.inl ⟨rfl, rfl⟩) (own_onnn _ (by omega)) (own_onnn _ (by omega)) (own_onnn _ (by omega)) i44 i54 rfl i64 N0 g_wa (g := (mkF m 26 #[.val (.ref a1), .val (.int (Int32.ofNat i)), .val (.int (1 : Int32))] [(.int (Int32.ofNat (((sz - i) - 1) * 1))), (.int (Int32.ofNat (i * 1))), (.ref wa), (.int (Int32.ofNat ((i + 1) * 1))), (.ref wa)])) rfl (by rw [hml]; rfl) rfl (hb hby d18_26) (by decide) (W := 0) (by show 2 * 0 + _ ≤ _; exact Nat.le_of_eq rfl) (by decide)
  have f5 := E.keep Kp4
  have f6 := F1.keep Kp4 (ninS hne nin0)
  have f7 := F2.keep Kp4 (ninS hne nin0)
  have f8 := EL.keep Kp4
  have K4 : Keep h0 h4 [a1, wa] := K0.trans Kp4 (allS (P := fun x => x ∈ [a1, wa] ∨ h0.size ≤ x) (Or.inl (List.mem_of_getElem? (i := 1) rfl)) all0)
  have Zs4 : n0 ≤ h4.size := Nat.le_trans Z0 Kp4.1
  have V4 : LA Z h4 wa kw (cb * 1) := ⟨_, own_cplen _ _ _ _ _ lb4 (by rw [List.length_map, List.length_range]) (by omega), Vc4⟩
  refine go st4 ?_
  show G (T4.setTop (mkF m 29 #[.val (.ref a1), .val (.int (Int32.ofNat i)), .val (.int (1 : Int32))] []))
  refine go (fun _ k => XS.aloadN X4.here hx rfl (hb hby d18_29) rfl rfl k) ?_
  show G (T4.setTop (mkF m 30 #[.val (.ref a1), .val (.int (Int32.ofNat i)), .val (.int (1 : Int32))] [(.ref a1)]))
  refine go (fun _ k => XS.dup X4.here hx rfl (hb hby d18_30) rfl rfl k) ?_
  show G (T4.setTop (mkF m 31 #[.val (.ref a1), .val (.int (Int32.ofNat i)), .val (.int (1 : Int32))] [(.ref a1), (.ref a1)]))
  obtain ⟨T9, X9, e9, st9⟩ := getF X4 hx hZ hown (host := "") (Or.inl (hw _ (List.mem_of_getElem? (i := 51) rfl))) Via.refl e4 f7 (g := (mkF m 31 #[.val (.ref a1), .val (.int (Int32.ofNat i)), .val (.int (1 : Int32))] [(.ref a1), (.ref a1)])) rfl rfl (hb hby d18_31)
  refine go st9 ?_
  show G (T9.setTop (mkF m 34 #[.val (.ref a1), .val (.int (Int32.ofNat i)), .val (.int (1 : Int32))] [(.int (Int32.ofNat sz)), (.ref a1)]))
  refine go (fun _ k => XS.iconst X9.here hx rfl (hb hby d18_34) k) ?_
  show G (T9.setTop (mkF m 35 #[.val (.ref a1), .val (.int (Int32.ofNat i)), .val (.int (1 : Int32))] [(.int (1 : Int32)), (.int (Int32.ofNat sz)), (.ref a1)]))
  refine go (fun _ k => XS.isub X9.here hx rfl (hb hby d18_35) rfl k) ?_
  show G (T9.setTop (mkF m 36 #[.val (.ref a1), .val (.int (Int32.ofNat i)), .val (.int (1 : Int32))] [(.int ((Int32.ofNat sz) - (1 : Int32))), (.ref a1)]))
  rw [show ((Int32.ofNat sz) - (1 : Int32)) = (Int32.ofNat (sz - 1)) from own_onsub sz 1 (by omega)]
  show G (T9.setTop (mkF m 36 #[.val (.ref a1), .val (.int (Int32.ofNat i)), .val (.int (1 : Int32))] [(.int (Int32.ofNat (sz - 1))), (.ref a1)]))
  obtain ⟨T10, h10, X10, e10, W10, st10⟩ := putF X9 hx hZ hown (host := "") (Or.inl (hw _ (List.mem_of_getElem? (i := 51) rfl))) Via.refl e9 f7 f5 (Or.inl (hw _ (List.mem_of_getElem? (i := 52) rfl))) (hw _ (List.mem_of_getElem? (i := 28) rfl)) (ty := .int) (by decide) rfl rfl (g := (mkF m 36 #[.val (.ref a1), .val (.int (Int32.ofNat i)), .val (.int (1 : Int32))] [(.int (Int32.ofNat (sz - 1))), (.ref a1)])) rfl rfl (hb hby d18_36)
  have f11 := f5.wr W10
  have f12 := f6.other W10 (Or.inr (slot_ne (Or.inl (hw _ (List.mem_of_getElem? (i := 50) rfl))) (Or.inl (hw _ (List.mem_of_getElem? (i := 52) rfl))) (by decide) (t := (.array .long)) (t' := .int) (by decide) (by decide)))
  have f13 := f8.wr W10
  have f14 := V4.other W10 (Ne.symm hne)
  have K10 : Keep h0 h10 [a1, wa] := K4.wr W10 (Or.inl (List.mem_of_getElem? (i := 0) rfl))
  have Zs10 : n0 ≤ h10.size := Nat.le_trans Zs4 (Keep.of_wr W10).1
  have N10 := Fr.snoc X10 N4 g_a1
  have Fw10 := f7.same W10
  refine go st10 ?_
  show G (T10.setTop (mkF m 39 #[.val (.ref a1), .val (.int (Int32.ofNat i)), .val (.int (1 : Int32))] []))
  rw [hG]
  refine own_fin X10 Bd.notSynchronized (v := none) (fun _ => rfl) (fun fs hr => X10.returnOut hx Bd.returns (hb hby d18_39) hr) ?_ (by decide) (by decide)
  show Q18w1 Z a1 wa kw sz cb i h0 n0 (none) T10.heap _
  rw [e10]
  exact ⟨rfl, N10, K10, f12, Fw10, f14⟩

theorem d13_0 : decode prog_87_method_3_code 0 = .ok (.aload_n 0, 1) := by decide +kernel
theorem d13_1 : decode prog_87_method_3_code 1 = .ok (.getfield 15, 3) := by decide +kernel
theorem d13_4 : decode prog_87_method_3_code 4 = .ok (.iload_n 2, 1) := by decide +kernel
theorem d13_5 : decode prog_87_method_3_code 5 = .ok (.imul, 1) := by decide +kernel
theorem d13_6 : decode prog_87_method_3_code 6 = .ok (.aload_n 0, 1) := by decide +kernel
theorem d13_7 : decode prog_87_method_3_code 7 = .ok (.getfield 9, 3) := by decide +kernel
theorem d13_10 : decode prog_87_method_3_code 10 = .ok (.arraylength, 1) := by decide +kernel
theorem d13_11 : decode prog_87_method_3_code 11 = .ok (.if_icmp .ne 23, 3) := by decide +kernel
theorem d13_14 : decode prog_87_method_3_code 14 = .ok (.aload_n 0, 1) := by decide +kernel
theorem d13_15 : decode prog_87_method_3_code 15 = .ok (.aload_n 0, 1) := by decide +kernel
theorem d13_16 : decode prog_87_method_3_code 16 = .ok (.getfield 9, 3) := by decide +kernel
theorem d13_19 : decode prog_87_method_3_code 19 = .ok (.aload_n 0, 1) := by decide +kernel
theorem d13_20 : decode prog_87_method_3_code 20 = .ok (.getfield 15, 3) := by decide +kernel
theorem d13_23 : decode prog_87_method_3_code 23 = .ok (.invokestatic 22, 3) := by decide +kernel
theorem d13_26 : decode prog_87_method_3_code 26 = .ok (.iload_n 2, 1) := by decide +kernel
theorem d13_27 : decode prog_87_method_3_code 27 = .ok (.imul, 1) := by decide +kernel
theorem d13_28 : decode prog_87_method_3_code 28 = .ok (.invokestatic 26, 3) := by decide +kernel
theorem d13_31 : decode prog_87_method_3_code 31 = .ok (.putfield 9, 3) := by decide +kernel
theorem d13_34 : decode prog_87_method_3_code 34 = .ok (.aload_n 0, 1) := by decide +kernel
theorem d13_35 : decode prog_87_method_3_code 35 = .ok (.getfield 9, 3) := by decide +kernel
theorem d13_38 : decode prog_87_method_3_code 38 = .ok (.iload_n 1, 1) := by decide +kernel
theorem d13_39 : decode prog_87_method_3_code 39 = .ok (.iload_n 2, 1) := by decide +kernel
theorem d13_40 : decode prog_87_method_3_code 40 = .ok (.imul, 1) := by decide +kernel
theorem d13_41 : decode prog_87_method_3_code 41 = .ok (.aload_n 0, 1) := by decide +kernel
theorem d13_42 : decode prog_87_method_3_code 42 = .ok (.getfield 9, 3) := by decide +kernel
theorem d13_45 : decode prog_87_method_3_code 45 = .ok (.iload_n 1, 1) := by decide +kernel
theorem d13_46 : decode prog_87_method_3_code 46 = .ok (.iconst 1, 1) := by decide +kernel
theorem d13_47 : decode prog_87_method_3_code 47 = .ok (.iadd, 1) := by decide +kernel
theorem d13_48 : decode prog_87_method_3_code 48 = .ok (.iload_n 2, 1) := by decide +kernel
theorem d13_49 : decode prog_87_method_3_code 49 = .ok (.imul, 1) := by decide +kernel
theorem d13_50 : decode prog_87_method_3_code 50 = .ok (.aload_n 0, 1) := by decide +kernel
theorem d13_51 : decode prog_87_method_3_code 51 = .ok (.getfield 15, 3) := by decide +kernel
theorem d13_54 : decode prog_87_method_3_code 54 = .ok (.iload_n 1, 1) := by decide +kernel
theorem d13_55 : decode prog_87_method_3_code 55 = .ok (.isub, 1) := by decide +kernel
theorem d13_56 : decode prog_87_method_3_code 56 = .ok (.iload_n 2, 1) := by decide +kernel
theorem d13_57 : decode prog_87_method_3_code 57 = .ok (.imul, 1) := by decide +kernel
theorem d13_58 : decode prog_87_method_3_code 58 = .ok (.invokestatic 32, 3) := by decide +kernel
theorem d13_61 : decode prog_87_method_3_code 61 = .ok (.aload_n 0, 1) := by decide +kernel
theorem d13_62 : decode prog_87_method_3_code 62 = .ok (.dup, 1) := by decide +kernel
theorem d13_63 : decode prog_87_method_3_code 63 = .ok (.getfield 15, 3) := by decide +kernel
theorem d13_66 : decode prog_87_method_3_code 66 = .ok (.iconst 1, 1) := by decide +kernel
theorem d13_67 : decode prog_87_method_3_code 67 = .ok (.iadd, 1) := by decide +kernel
theorem d13_68 : decode prog_87_method_3_code 68 = .ok (.putfield 15, 3) := by decide +kernel
theorem d13_71 : decode prog_87_method_3_code 71 = .ok (.return_, 1) := by decide +kernel
theorem pn_13 : plainName "com/example/kerros/kerros/store/SortedChunks$Chunk" = true := by first | (simp [plainName, overriddenIn]; done) | decide +kernel
theorem pd_13_0 : parseMethodDescriptor "(I)I" = some ⟨[.int], some .int⟩ := by decide +kernel
theorem pd_13_1 : parseMethodDescriptor "([JI)[J" = some ⟨[(.array .long), .int], some (.array .long)⟩ := by decide +kernel
theorem ef_rm13w1 (m : MethodId) (a1 : Addr) (i : Nat) : entryFrame m #[(.ref a1), (.int (Int32.ofNat i)), (.int (1 : Int32))] 3 = mkF m 0 #[.val (.ref a1), .val (.int (Int32.ofNat i)), .val (.int (1 : Int32))] [] := by first | (simp [entryFrame, mkF, argsToLocals, Value.category]; done) | rfl
def Q13w1 (Z : State) (a1 : Addr) (wa : Addr) (kw : ClassId) (sz cb i : Nat) (h0 : Heap) (n0 : Nat) (v : Option Value) (h : Heap) (L : List Loc) : Prop := ∃ (wa' : Addr) (kw' : ClassId) (d' : Nat), v = none ∧ Fr n0 L ∧ Keep h0 h [a1, wa] ∧ (wa' = wa ∨ h0.size ≤ wa') ∧ Fld Z h a1 "com/example/kerros/kerros/store/SortedChunks$Chunk" "words" "[J" (.ref wa') ∧ Fld Z h a1 "com/example/kerros/kerros/store/SortedChunks$Chunk" "size" "I" (.int (Int32.ofNat (sz + 1))) ∧ LA Z h wa' kw' (d' * 1) ∧ Exa Z h wa' "[J" ∧ sz + 1 ≤ d' ∧ d' ≤ 5
set_option maxRecDepth 65536 in
set_option maxHeartbeats 40000000 in
theorem rm13w1 (l : Launch) (Z : State) (a0 : Array Value) (hw : ∀ d ∈ tables_1, d.before a0 Z = true) (ws : List Jvm.Cond) (a1 : Addr) (wa : Addr) (kw : ClassId) (sz cb i : Nat) (h0 : Heap) (n0 : Nat) (Z0 : n0 ≤ h0.size) (E : Exa Z h0 a1 "com/example/kerros/kerros/store/SortedChunks$Chunk") (F1 : Fld Z h0 a1 "com/example/kerros/kerros/store/SortedChunks$Chunk" "words" "[J" (.ref wa)) (F2 : Fld Z h0 a1 "com/example/kerros/kerros/store/SortedChunks$Chunk" "size" "I" (.int (Int32.ofNat sz))) (VL : LA Z h0 wa kw (cb * 1)) (EL : Exa Z h0 wa "[J") (hne : a1 ≠ wa) (g_a1 : n0 ≤ a1) (g_wa : n0 ≤ wa) (hsc : sz ≤ cb) (hc5 : cb ≤ 5) (hi : i ≤ sz) (hs3 : sz ≤ 3) :
    MetFree l (⟨"com/example/kerros/kerros/store/SortedChunks$Chunk", "insert", "(II)V"⟩ : MethodName) (head1 (Jvm.Cond.code (⟨"com/example/kerros/kerros/store/SortedChunks$Chunk", "insert", "(II)V"⟩ : MethodName) prog_87_method_3_code 3 none :: ws) ({ frames := 2, cells := 1, slots := 12, locals := 60 } : Room)) (fun a U => a = #[(.ref a1), (.int (Int32.ofNat i)), (.int (1 : Int32))] ∧ Z.Warmed39 U.vm ∧ U.heap = h0) (fun _ _ _ _ _ => True) (fun _ U o U' => ∃ v L, o = .returned v ∧ Q13w1 Z a1 wa kw sz cb i h0 n0 v U'.heap L ∧ FrameEnd U o U' L ({ frames := 2, cells := 1, slots := 12, locals := 60 } : Room).cells ({ frames := 2, cells := 1, slots := 12, locals := 60 } : Room).slots) := by
  refine MetFree.of_bodySF (plainFor_of_name pn_13) hisR ?_
  intro p e s m args below meth c s₁ Bd hml0 hP hK
  obtain ⟨rfl, hZ, hh⟩ := hP
  have hx := Bd.exec
  have hby := Bd.bytes
  have hml : c.maxLocals = 3 := hml0
  have hown : s.vm.findClass "com/example/kerros/kerros/store/SortedChunks$Chunk" = some m.cls := findClass_of_methodNamed Bd.named
  have hnm := (name_of_methodNamed Bd.named Bd.method).1
  have X0 : Stand p l e ({ frames := 2, cells := 1, slots := 12, locals := 60 } : Room) s m #[(.ref a1), (.int (Int32.ofNat i)), (.int (1 : Int32))] below meth c s₁ [] 0 0 := Stand.of_body Bd
  have e0 : s₁.heap = h0 := by rw [← hh, Bd.state]; rfl
  have N0 := Fr.nil n0
  obtain ⟨G, hG⟩ : ∃ G : State → Prop, G = OwnG p e below s ({ frames := 2, cells := 1, slots := 12, locals := 60 } : Room).cells ({ frames := 2, cells := 1, slots := 12, locals := 60 } : Room).slots (Q13w1 Z a1 wa kw sz cb i h0 n0) := ⟨_, rfl⟩
  have go : ∀ {A B : State}, (∀ t, Steps p.tables e below A t → Steps p.tables e below B t) → G A → G B := fun h k => by rw [hG] at k ⊢; exact OwnG.go h k
  suffices k0 : G (s₁.setTop (mkF m 0 #[.val (.ref a1), .val (.int (Int32.ofNat i)), .val (.int (1 : Int32))] [])) by
    rw [hG] at k0; exact OwnG.go (fun t k => castTop (ef_rm13w1 m a1 i) k) k0
  have K0 : Keep h0 h0 [a1, wa] := Keep.refl _ _
  refine go (fun _ k => XS.aloadN X0.here hx rfl (hb hby d13_0) rfl rfl k) ?_
  show G (s₁.setTop (mkF m 1 #[.val (.ref a1), .val (.int (Int32.ofNat i)), .val (.int (1 : Int32))] [(.ref a1)]))
  obtain ⟨T1, X1, e1, st1⟩ := getF X0 hx hZ hown (host := "") (Or.inl (hw _ (List.mem_of_getElem? (i := 51) rfl))) Via.refl e0 F2 (g := (mkF m 1 #[.val (.ref a1), .val (.int (Int32.ofNat i)), .val (.int (1 : Int32))] [(.ref a1)])) rfl rfl (hb hby d13_1)
  refine go st1 ?_
  show G (T1.setTop (mkF m 4 #[.val (.ref a1), .val (.int (Int32.ofNat i)), .val (.int (1 : Int32))] [(.int (Int32.ofNat sz))]))
  refine go (fun _ k => XS.iloadN X1.here hx rfl (hb hby d13_4) rfl k) ?_
  show G (T1.setTop (mkF m 5 #[.val (.ref a1), .val (.int (Int32.ofNat i)), .val (.int (1 : Int32))] [(.int (1 : Int32)), (.int (Int32.ofNat sz))]))
  refine go (fun _ k => XS.imul X1.here hx rfl (hb hby d13_5) rfl k) ?_
  show G (T1.setTop (mkF m 6 #[.val (.ref a1), .val (.int (Int32.ofNat i)), .val (.int (1 : Int32))] [(.int ((Int32.ofNat sz) * (1 : Int32)))]))
  rw [show ((Int32.ofNat sz) * (1 : Int32)) = (Int32.ofNat (sz * 1)) from own_onmul sz 1]
  show G (T1.setTop (mkF m 6 #[.val (.ref a1), .val (.int (Int32.ofNat i)), .val (.int (1 : Int32))] [(.int (Int32.ofNat (sz * 1)))]))
  refine go (fun _ k => XS.aloadN X1.here hx rfl (hb hby d13_6) rfl rfl k) ?_
  show G (T1.setTop (mkF m 7 #[.val (.ref a1), .val (.int (Int32.ofNat i)), .val (.int (1 : Int32))] [(.ref a1), (.int (Int32.ofNat (sz * 1)))]))
  obtain ⟨T2, X2, e2, st2⟩ := getF X1 hx hZ hown (host := "") (Or.inl (hw _ (List.mem_of_getElem? (i := 49) rfl))) Via.refl e1 F1 (g := (mkF m 7 #[.val (.ref a1), .val (.int (Int32.ofNat i)), .val (.int (1 : Int32))] [(.ref a1), (.int (Int32.ofNat (sz * 1)))])) rfl rfl (hb hby d13_7)
  refine go st2 ?_
  show G (T2.setTop (mkF m 10 #[.val (.ref a1), .val (.int (Int32.ofNat i)), .val (.int (1 : Int32))] [(.ref wa), (.int (Int32.ofNat (sz * 1)))]))
  obtain ⟨vb3, lb3, VB3⟩ := id VL
  obtain ⟨cl4, Ar4, qk4, qs4, qn4, qh4, qg4⟩ := id VB3
  refine go (X2.arraylength hx (by rw [e2]; exact Ar4.1) (State.isArrayOf_alike hZ.alike Ar4.2.1) (g := (mkF m 10 #[.val (.ref a1), .val (.int (Int32.ofNat i)), .val (.int (1 : Int32))] [(.ref wa), (.int (Int32.ofNat (sz * 1)))])) rfl rfl (hb hby d13_10)) ?_
  rw [len_of qs4 qn4]
  show G (T2.setTop (mkF m 11 #[.val (.ref a1), .val (.int (Int32.ofNat i)), .val (.int (1 : Int32))] [(.int (Int32.ofNat (cb * 1))), (.int (Int32.ofNat (sz * 1)))]))
  by_cases hN : sz = cb
  · show G (T2.setTop (mkF m 11 #[.val (.ref a1), .val (.int (Int32.ofNat i)), .val (.int (1 : Int32))] [(.int (Int32.ofNat (cb * 1))), (.int (Int32.ofNat (sz * 1)))]))
    have hc5 : (Int32.ofNat (sz * 1)) = (Int32.ofNat (cb * 1)) := by rw [hN]
    refine go (fun _ k => XS.icmpNo X2.here hx rfl (hb hby d13_11) rfl (teq hc5).2 k) ?_
    show G (T2.setTop (mkF m 14 #[.val (.ref a1), .val (.int (Int32.ofNat i)), .val (.int (1 : Int32))] []))
    refine go (fun _ k => XS.aloadN X2.here hx rfl (hb hby d13_14) rfl rfl k) ?_
    show G (T2.setTop (mkF m 15 #[.val (.ref a1), .val (.int (Int32.ofNat i)), .val (.int (1 : Int32))] [(.ref a1)]))
    refine go (fun _ k => XS.aloadN X2.here hx rfl (hb hby d13_15) rfl rfl k) ?_
    show G (T2.setTop (mkF m 16 #[.val (.ref a1), .val (.int (Int32.ofNat i)), .val (.int (1 : Int32))] [(.ref a1), (.ref a1)]))
    obtain ⟨T6, X6, e6, st6⟩ := getF X2 hx hZ hown (host := "") (Or.inl (hw _ (List.mem_of_getElem? (i := 49) rfl))) Via.refl e2 F1 (g := (mkF m 16 #[.val (.ref a1), .val (.int (Int32.ofNat i)), .val (.int (1 : Int32))] [(.ref a1), (.ref a1)])) rfl rfl (hb hby d13_16)
    refine go st6 ?_
    show G (T6.setTop (mkF m 19 #[.val (.ref a1), .val (.int (Int32.ofNat i)), .val (.int (1 : Int32))] [(.ref wa), (.ref a1)]))
    refine go (fun _ k => XS.aloadN X6.here hx rfl (hb hby d13_19) rfl rfl k) ?_
    show G (T6.setTop (mkF m 20 #[.val (.ref a1), .val (.int (Int32.ofNat i)), .val (.int (1 : Int32))] [(.ref a1), (.ref wa), (.ref a1)]))
    obtain ⟨T7, X7, e7, st7⟩ := getF X6 hx hZ hown (host := "") (Or.inl (hw _ (List.mem_of_getElem? (i := 51) rfl))) Via.refl e6 F2 (g := (mkF m 20 #[.val (.ref a1), .val (.int (Int32.ofNat i)), .val (.int (1 : Int32))] [(.ref a1), (.ref wa), (.ref a1)])) rfl rfl (hb hby d13_20)
    refine go st7 ?_
    show G (T7.setTop (mkF m 23 #[.val (.ref a1), .val (.int (Int32.ofNat i)), .val (.int (1 : Int32))] [(.int (Int32.ofNat sz)), (.ref wa), (.ref a1)]))
    obtain ⟨_, _, ⟨T8, L8, k8, n8⟩, -, X8, ⟨Lc8, hQ8, l8, y8, z8⟩, st8⟩ := Jvm.LawKit.callS X7 hx (y := (⟨"com/example/kerros/kerros/store/SortedChunks$Chunk", "grown", "(I)I"⟩ : MethodName)) hown (mvT hZ (hw _ (List.mem_of_getElem? (i := 76) rfl))) (mvT hZ (hw _ (List.mem_of_getElem? (i := 77) rfl))) (mvT hZ (hw _ (List.mem_of_getElem? (i := 29) rfl))) (mvT hZ (hw _ (List.mem_of_getElem? (i := 78) rfl))) (by decide) (backOf (W := 2) (rm14 l Z a0 hw [] sz h0 n0 Z0 (by omega)) hZ (hw _ (List.mem_of_getElem? (i := 78) rfl)) (hw _ (List.mem_of_getElem? (i := 29) rfl)) (by decide) (by decide)) (g := (mkF m 23 #[.val (.ref a1), .val (.int (Int32.ofNat i)), .val (.int (1 : Int32))] [(.int (Int32.ofNat sz)), (.ref wa), (.ref a1)])) rfl (by rw [hml]; rfl) (argsL := [(.int (Int32.ofNat sz))]) (rest := [(.ref wa), (.ref a1)]) (lenOf pd_13_0 rfl) rfl (by show 2 * 0 + _ ≤ _; exact Nat.le_of_eq rfl) (hb hby d13_23) (fun _ _ => ⟨rfl, e7, (by decide : 0 + 0 ≤ _), (by decide : 0 + 0 ≤ _)⟩)
    dsimp only [Pt.U, Pt.locs, Pt.cells, Pt.slots] at X8 l8 y8 z8 st8 hQ8
    subst l8 y8 z8
    obtain ⟨rfl, N8q, e8⟩ := hQ8
    have N8 := Fr.app N0 N8q
    refine go st8 ?_
    show G (T8.setTop (mkF m 26 #[.val (.ref a1), .val (.int (Int32.ofNat i)), .val (.int (1 : Int32))] [(.int (Int32.ofNat (sz + 2))), (.ref wa), (.ref a1)]))
    refine go (fun _ k => XS.iloadN X8.here hx rfl (hb hby d13_26) rfl k) ?_
    show G (T8.setTop (mkF m 27 #[.val (.ref a1), .val (.int (Int32.ofNat i)), .val (.int (1 : Int32))] [(.int (1 : Int32)), (.int (Int32.ofNat (sz + 2))), (.ref wa), (.ref a1)]))
    refine go (fun _ k => XS.imul X8.here hx rfl (hb hby d13_27) rfl k) ?_
    show G (T8.setTop (mkF m 28 #[.val (.ref a1), .val (.int (Int32.ofNat i)), .val (.int (1 : Int32))] [(.int ((Int32.ofNat (sz + 2)) * (1 : Int32))), (.ref wa), (.ref a1)]))
    rw [show ((Int32.ofNat (sz + 2)) * (1 : Int32)) = (Int32.ofNat ((sz + 2) * 1)) from own_onmul (sz + 2) 1]
    show G (T8.setTop (mkF m 28 #[.val (.ref a1), .val (.int (Int32.ofNat i)), .val (.int (1 : Int32))] [(.int (Int32.ofNat ((sz + 2) * 1))), (.ref wa), (.ref a1)]))
    obtain ⟨_, _, ⟨T9, L9, k9, n9⟩, -, X9, ⟨Lc9, hQ9, l9, y9, z9⟩, st9⟩ := Jvm.LawKit.callS X8 hx (y := (⟨"java/util/Arrays", "copyOf", "([JI)[J"⟩ : MethodName)) hown (mvT hZ (hw _ (List.mem_of_getElem? (i := 81) rfl))) (mvT hZ (hw _ (List.mem_of_getElem? (i := 82) rfl))) (mvT hZ (hw _ (List.mem_of_getElem? (i := 32) rfl))) (mvT hZ (hw _ (List.mem_of_getElem? (i := 83) rfl))) (by decide) (backOf (W := 1) (rm15 l Z a0 hw [] wa ((sz + 2) * 1) (cb * 1) kw h0 n0 Z0 VL EL (by omega) (by omega) (by omega)) hZ (hw _ (List.mem_of_getElem? (i := 83) rfl)) (hw _ (List.mem_of_getElem? (i := 32) rfl)) (by decide) (by decide)) (g := (mkF m 28 #[.val (.ref a1), .val (.int (Int32.ofNat i)), .val (.int (1 : Int32))] [(.int (Int32.ofNat ((sz + 2) * 1))), (.ref wa), (.ref a1)])) rfl (by rw [hml]; rfl) (argsL := [(.ref wa), (.int (Int32.ofNat ((sz + 2) * 1)))]) (rest := [(.ref a1)]) (lenOf pd_13_1 rfl) rfl (by show 2 * 0 + _ ≤ _; exact Nat.le_of_eq rfl) (hb hby d13_28) (fun _ _ => ⟨rfl, e8, (by decide : 0 + 1 ≤ _), (by decide : 0 + 12 ≤ _)⟩)
    dsimp only [Pt.U, Pt.locs, Pt.cells, Pt.slots] at X9 l9 y9 z9 st9 hQ9
    subst l9 y9 z9
    obtain ⟨bc9, kc9, rfl, N9q, Kc9, c9_0, c9_1, c9_2⟩ := hQ9
    have ne_a1_bc9 : a1 ≠ bc9 := Nat.ne_of_lt (Nat.lt_of_lt_of_le E.lt c9_0)
    have ne_wa_bc9 : wa ≠ bc9 := Nat.ne_of_lt (Nat.lt_of_lt_of_le VL.lt c9_0)
    have g_bc9 : n0 ≤ bc9 := Nat.le_trans Z0 c9_0
    have sz_bc9 : h0.size ≤ bc9 := Nat.le_trans K0.1 c9_0
    have f10 := E.keep Kc9
    have f11 := F1.keep Kc9 nin0
    have f12 := F2.keep Kc9 nin0
    have f13 := VL.keep Kc9 nin0
    have f14 := EL.keep Kc9
    have K9 : Keep h0 T9.heap [a1, wa] := K0.trans Kc9 all0
    have Zs9 : n0 ≤ T9.heap.size := Nat.le_trans Z0 Kc9.1
    have N9 := Fr.app N8 N9q
    refine go st9 ?_
    show G (T9.setTop (mkF m 31 #[.val (.ref a1), .val (.int (Int32.ofNat i)), .val (.int (1 : Int32))] [(.ref bc9), (.ref a1)]))
    obtain ⟨T15, h15, X15, e15, W15, st15⟩ := putF X9 hx hZ hown (host := "") (Or.inl (hw _ (List.mem_of_getElem? (i := 49) rfl))) Via.refl rfl f11 f10 (Or.inl (hw _ (List.mem_of_getElem? (i := 50) rfl))) (hw _ (List.mem_of_getElem? (i := 28) rfl)) (ty := (.array .long)) (by decide) rfl rfl (g := (mkF m 31 #[.val (.ref a1), .val (.int (Int32.ofNat i)), .val (.int (1 : Int32))] [(.ref bc9), (.ref a1)])) rfl rfl (hb hby d13_31)
    have f16 := f10.wr W15
    have f17 := f12.other W15 (Or.inr (slot_ne (Or.inl (hw _ (List.mem_of_getElem? (i := 52) rfl))) (Or.inl (hw _ (List.mem_of_getElem? (i := 50) rfl))) (by decide) (t := .int) (t' := (.array .long)) (by decide) (by decide)))
    have f18 := f13.other W15 (Ne.symm hne)
    have f19 := f14.wr W15
    have f20 := c9_1.other W15 (Ne.symm ne_a1_bc9)
    have f21 := c9_2.wr W15
    have K15 : Keep h0 h15 [a1, wa] := K9.wr W15 (Or.inl (List.mem_of_getElem? (i := 0) rfl))
    have Zs15 : n0 ≤ h15.size := Nat.le_trans Zs9 (Keep.of_wr W15).1
    have N15 := Fr.snoc X15 N9 g_a1
    have Fw15 := f11.same W15
    refine go st15 ?_
    show G (T15.setTop (mkF m 34 #[.val (.ref a1), .val (.int (Int32.ofNat i)), .val (.int (1 : Int32))] []))
    refine go (fun _ k => XS.aloadN X15.here hx rfl (hb hby d13_34) rfl rfl k) ?_
    show G (T15.setTop (mkF m 35 #[.val (.ref a1), .val (.int (Int32.ofNat i)), .val (.int (1 : Int32))] [(.ref a1)]))
    obtain ⟨T22, X22, e22, st22⟩ := getF X15 hx hZ hown (host := "") (Or.inl (hw _ (List.mem_of_getElem? (i := 49) rfl))) Via.refl e15 Fw15 (g := (mkF m 35 #[.val (.ref a1), .val (.int (Int32.ofNat i)), .val (.int (1 : Int32))] [(.ref a1)])) rfl rfl (hb hby d13_35)
    refine go st22 ?_
    show G (T22.setTop (mkF m 38 #[.val (.ref a1), .val (.int (Int32.ofNat i)), .val (.int (1 : Int32))] [(.ref bc9)]))
    refine go (fun _ k => XS.iloadN X22.here hx rfl (hb hby d13_38) rfl k) ?_
    show G (T22.setTop (mkF m 39 #[.val (.ref a1), .val (.int (Int32.ofNat i)), .val (.int (1 : Int32))] [(.int (Int32.ofNat i)), (.ref bc9)]))
    refine go (fun _ k => XS.iloadN X22.here hx rfl (hb hby d13_39) rfl k) ?_
    show G (T22.setTop (mkF m 40 #[.val (.ref a1), .val (.int (Int32.ofNat i)), .val (.int (1 : Int32))] [(.int (1 : Int32)), (.int (Int32.ofNat i)), (.ref bc9)]))
    refine go (fun _ k => XS.imul X22.here hx rfl (hb hby d13_40) rfl k) ?_
    show G (T22.setTop (mkF m 41 #[.val (.ref a1), .val (.int (Int32.ofNat i)), .val (.int (1 : Int32))] [(.int ((Int32.ofNat i) * (1 : Int32))), (.ref bc9)]))
    rw [show ((Int32.ofNat i) * (1 : Int32)) = (Int32.ofNat (i * 1)) from own_onmul i 1]
    show G (T22.setTop (mkF m 41 #[.val (.ref a1), .val (.int (Int32.ofNat i)), .val (.int (1 : Int32))] [(.int (Int32.ofNat (i * 1))), (.ref bc9)]))
    refine go (fun _ k => XS.aloadN X22.here hx rfl (hb hby d13_41) rfl rfl k) ?_
    show G (T22.setTop (mkF m 42 #[.val (.ref a1), .val (.int (Int32.ofNat i)), .val (.int (1 : Int32))] [(.ref a1), (.int (Int32.ofNat (i * 1))), (.ref bc9)]))
    obtain ⟨T23, X23, e23, st23⟩ := getF X22 hx hZ hown (host := "") (Or.inl (hw _ (List.mem_of_getElem? (i := 49) rfl))) Via.refl e22 Fw15 (g := (mkF m 42 #[.val (.ref a1), .val (.int (Int32.ofNat i)), .val (.int (1 : Int32))] [(.ref a1), (.int (Int32.ofNat (i * 1))), (.ref bc9)])) rfl rfl (hb hby d13_42)
    refine go st23 ?_
    show G (T23.setTop (mkF m 45 #[.val (.ref a1), .val (.int (Int32.ofNat i)), .val (.int (1 : Int32))] [(.ref bc9), (.int (Int32.ofNat (i * 1))), (.ref bc9)]))
    refine go (fun _ k => XS.iloadN X23.here hx rfl (hb hby d13_45) rfl k) ?_
    show G (T23.setTop (mkF m 46 #[.val (.ref a1), .val (.int (Int32.ofNat i)), .val (.int (1 : Int32))] [(.int (Int32.ofNat i)), (.ref bc9), (.int (Int32.ofNat (i * 1))), (.ref bc9)]))
    refine go (fun _ k => XS.iconst X23.here hx rfl (hb hby d13_46) k) ?_
    show G (T23.setTop (mkF m 47 #[.val (.ref a1), .val (.int (Int32.ofNat i)), .val (.int (1 : Int32))] [(.int (1 : Int32)), (.int (Int32.ofNat i)), (.ref bc9), (.int (Int32.ofNat (i * 1))), (.ref bc9)]))
    refine go (fun _ k => XS.iadd X23.here hx rfl (hb hby d13_47) rfl k) ?_
    show G (T23.setTop (mkF m 48 #[.val (.ref a1), .val (.int (Int32.ofNat i)), .val (.int (1 : Int32))] [(.int ((Int32.ofNat i) + (1 : Int32))), (.ref bc9), (.int (Int32.ofNat (i * 1))), (.ref bc9)]))
    rw [show ((Int32.ofNat i) + (1 : Int32)) = (Int32.ofNat (i + 1)) from own_onadd i 1]
    show G (T23.setTop (mkF m 48 #[.val (.ref a1), .val (.int (Int32.ofNat i)), .val (.int (1 : Int32))] [(.int (Int32.ofNat (i + 1))), (.ref bc9), (.int (Int32.ofNat (i * 1))), (.ref bc9)]))
    refine go (fun _ k => XS.iloadN X23.here hx rfl (hb hby d13_48) rfl k) ?_
    show G (T23.setTop (mkF m 49 #[.val (.ref a1), .val (.int (Int32.ofNat i)), .val (.int (1 : Int32))] [(.int (1 : Int32)), (.int (Int32.ofNat (i + 1))), (.ref bc9), (.int (Int32.ofNat (i * 1))), (.ref bc9)]))
    refine go (fun _ k => XS.imul X23.here hx rfl (hb hby d13_49) rfl k) ?_
    show G (T23.setTop (mkF m 50 #[.val (.ref a1), .val (.int (Int32.ofNat i)), .val (.int (1 : Int32))] [(.int ((Int32.ofNat (i + 1)) * (1 : Int32))), (.ref bc9), (.int (Int32.ofNat (i * 1))), (.ref bc9)]))
    rw [show ((Int32.ofNat (i + 1)) * (1 : Int32)) = (Int32.ofNat ((i + 1) * 1)) from own_onmul (i + 1) 1]
    show G (T23.setTop (mkF m 50 #[.val (.ref a1), .val (.int (Int32.ofNat i)), .val (.int (1 : Int32))] [(.int (Int32.ofNat ((i + 1) * 1))), (.ref bc9), (.int (Int32.ofNat (i * 1))), (.ref bc9)]))
    refine go (fun _ k => XS.aloadN X23.here hx rfl (hb hby d13_50) rfl rfl k) ?_
    show G (T23.setTop (mkF m 51 #[.val (.ref a1), .val (.int (Int32.ofNat i)), .val (.int (1 : Int32))] [(.ref a1), (.int (Int32.ofNat ((i + 1) * 1))), (.ref bc9), (.int (Int32.ofNat (i * 1))), (.ref bc9)]))
    obtain ⟨T24, X24, e24, st24⟩ := getF X23 hx hZ hown (host := "") (Or.inl (hw _ (List.mem_of_getElem? (i := 51) rfl))) Via.refl e23 f17 (g := (mkF m 51 #[.val (.ref a1), .val (.int (Int32.ofNat i)), .val (.int (1 : Int32))] [(.ref a1), (.int (Int32.ofNat ((i + 1) * 1))), (.ref bc9), (.int (Int32.ofNat (i * 1))), (.ref bc9)])) rfl rfl (hb hby d13_51)
    refine go st24 ?_
    show G (T24.setTop (mkF m 54 #[.val (.ref a1), .val (.int (Int32.ofNat i)), .val (.int (1 : Int32))] [(.int (Int32.ofNat sz)), (.int (Int32.ofNat ((i + 1) * 1))), (.ref bc9), (.int (Int32.ofNat (i * 1))), (.ref bc9)]))
    refine go (fun _ k => XS.iloadN X24.here hx rfl (hb hby d13_54) rfl k) ?_
    show G (T24.setTop (mkF m 55 #[.val (.ref a1), .val (.int (Int32.ofNat i)), .val (.int (1 : Int32))] [(.int (Int32.ofNat i)), (.int (Int32.ofNat sz)), (.int (Int32.ofNat ((i + 1) * 1))), (.ref bc9), (.int (Int32.ofNat (i * 1))), (.ref bc9)]))
    refine go (fun _ k => XS.isub X24.here hx rfl (hb hby d13_55) rfl k) ?_
    show G (T24.setTop (mkF m 56 #[.val (.ref a1), .val (.int (Int32.ofNat i)), .val (.int (1 : Int32))] [(.int ((Int32.ofNat sz) - (Int32.ofNat i))), (.int (Int32.ofNat ((i + 1) * 1))), (.ref bc9), (.int (Int32.ofNat (i * 1))), (.ref bc9)]))
    rw [show ((Int32.ofNat sz) - (Int32.ofNat i)) = (Int32.ofNat (sz - i)) from own_onsub sz i (by omega)]
    show G (T24.setTop (mkF m 56 #[.val (.ref a1), .val (.int (Int32.ofNat i)), .val (.int (1 : Int32))] [(.int (Int32.ofNat (sz - i))), (.int (Int32.ofNat ((i + 1) * 1))), (.ref bc9), (.int (Int32.ofNat (i * 1))), (.ref bc9)]))
    refine go (fun _ k => XS.iloadN X24.here hx rfl (hb hby d13_56) rfl k) ?_
    show G (T24.setTop (mkF m 57 #[.val (.ref a1), .val (.int (Int32.ofNat i)), .val (.int (1 : Int32))] [(.int (1 : Int32)), (.int (Int32.ofNat (sz - i))), (.int (Int32.ofNat ((i + 1) * 1))), (.ref bc9), (.int (Int32.ofNat (i * 1))), (.ref bc9)]))
    refine go (fun _ k => XS.imul X24.here hx rfl (hb hby d13_57) rfl k) ?_
    show G (T24.setTop (mkF m 58 #[.val (.ref a1), .val (.int (Int32.ofNat i)), .val (.int (1 : Int32))] [(.int ((Int32.ofNat (sz - i)) * (1 : Int32))), (.int (Int32.ofNat ((i + 1) * 1))), (.ref bc9), (.int (Int32.ofNat (i * 1))), (.ref bc9)]))
    rw [show ((Int32.ofNat (sz - i)) * (1 : Int32)) = (Int32.ofNat ((sz - i) * 1)) from own_onmul (sz - i) 1]
    show G (T24.setTop (mkF m 58 #[.val (.ref a1), .val (.int (Int32.ofNat i)), .val (.int (1 : Int32))] [(.int (Int32.ofNat ((sz - i) * 1))), (.int (Int32.ofNat ((i + 1) * 1))), (.ref bc9), (.int (Int32.ofNat (i * 1))), (.ref bc9)]))
    obtain ⟨va25, la25, VA25⟩ := id f20
    obtain ⟨vb25, lb25, VB25⟩ := id f20
    have qN25 : (Int32.ofNat ((sz - i) * 1)).toNatClampNeg = ((sz - i) * 1) := own_onnat _ (by omega)
    have qD25 : (Int32.ofNat ((i + 1) * 1)).toNatClampNeg = ((i + 1) * 1) := own_onnat _ (by omega)
    have qS25 : (Int32.ofNat (i * 1)).toNatClampNeg = (i * 1) := own_onnat _ (by omega)
    have qA25 : (Int32.ofNat ((sz + 2) * 1)).toNatClampNeg = ((sz + 2) * 1) := own_onnat _ (by omega)
    have qB25 : (Int32.ofNat ((sz + 2) * 1)).toNatClampNeg = ((sz + 2) * 1) := own_onnat _ (by omega)
    have i425 : (Int32.ofNat (i * 1)).toNatClampNeg + (Int32.ofNat ((sz - i) * 1)).toNatClampNeg ≤ (Int32.ofNat ((sz + 2) * 1)).toNatClampNeg := by omega
    have i525 : (Int32.ofNat ((i + 1) * 1)).toNatClampNeg + (Int32.ofNat ((sz - i) * 1)).toNatClampNeg ≤ (Int32.ofNat ((sz + 2) * 1)).toNatClampNeg := by omega
    have i625 : (Int32.ofNat ((i + 1) * 1)).toNatClampNeg + (Int32.ofNat ((sz - i) * 1)).toNatClampNeg ≤ vb25.length := by omega
    obtain ⟨T25, h25, Lx25, X25, e25, N25, Kp25, Vc25, st25⟩ := cpA X24 hx hZ hown (hw _ (List.mem_of_getElem? (i := 84) rfl)) (hw _ (List.mem_of_getElem? (i := 44) rfl)) (hw _ (List.mem_of_getElem? (i := 42) rfl)) (hw _ (List.mem_of_getElem? (i := 43) rfl)) e24 VA25 VB25 (sp := Int32.ofNat (i * 1)) (dp := Int32.ofNat ((i + 1) * 1)) (nn := Int32.ofNat ((sz - i) * 1)) (Or.inl ⟨rfl, rfl⟩) (own_onnn _ (by omega)) (own_onnn _ (by omega)) (own_onnn _ (by omega)) i425 i525 rfl i625 N15 g_bc9 (g := (mkF m 58 #[.val (.ref a1), .val (.int (Int32.ofNat i)), .val (.int (1 : Int32))] [(.int (Int32.ofNat ((sz - i) * 1))), (.int (Int32.ofNat ((i + 1) * 1))), (.ref bc9), (.int (Int32.ofNat (i * 1))), (.ref bc9)])) rfl (by rw [hml]; rfl) rfl (hb hby d13_58) (by decide) (W := 0) (by show 2 * 0 + _ ≤ _; exact Nat.le_of_eq rfl) (by decide)
    have f26 := f16.keep Kp25
    have f27 := Fw15.keep Kp25 (ninS ne_a1_bc9 nin0)
    have f28 := f17.keep Kp25 (ninS ne_a1_bc9 nin0)
    have f29 := f18.keep Kp25 (ninS ne_wa_bc9 nin0)
    have f30 := f19.keep Kp25
    have f31 := f21.keep Kp25
    have K25 : Keep h0 h25 [a1, wa] := K15.trans Kp25 (allS (P := fun x => x ∈ [a1, wa] ∨ h0.size ≤ x) (Or.inr sz_bc9) all0)
    have Zs25 : n0 ≤ h25.size := Nat.le_trans Zs15 Kp25.1
    have V25 : LA Z h25 bc9 kc9 ((sz + 2) * 1) := ⟨_, own_cplen _ _ _ _ _ lb25 (by rw [List.length_map, List.length_range]) (by omega), Vc25⟩
    refine go st25 ?_
    show G (T25.setTop (mkF m 61 #[.val (.ref a1), .val (.int (Int32.ofNat i)), .val (.int (1 : Int32))] []))
    refine go (fun _ k => XS.aloadN X25.here hx rfl (hb hby d13_61) rfl rfl k) ?_
    show G (T25.setTop (mkF m 62 #[.val (.ref a1), .val (.int (Int32.ofNat i)), .val (.int (1 : Int32))] [(.ref a1)]))
    refine go (fun _ k => XS.dup X25.here hx rfl (hb hby d13_62) rfl rfl k) ?_
    show G (T25.setTop (mkF m 63 #[.val (.ref a1), .val (.int (Int32.ofNat i)), .val (.int (1 : Int32))] [(.ref a1), (.ref a1)]))
    obtain ⟨T32, X32, e32, st32⟩ := getF X25 hx hZ hown (host := "") (Or.inl (hw _ (List.mem_of_getElem? (i := 51) rfl))) Via.refl e25 f28 (g := (mkF m 63 #[.val (.ref a1), .val (.int (Int32.ofNat i)), .val (.int (1 : Int32))] [(.ref a1), (.ref a1)])) rfl rfl (hb hby d13_63)
    refine go st32 ?_
    show G (T32.setTop (mkF m 66 #[.val (.ref a1), .val (.int (Int32.ofNat i)), .val (.int (1 : Int32))] [(.int (Int32.ofNat sz)), (.ref a1)]))
    refine go (fun _ k => XS.iconst X32.here hx rfl (hb hby d13_66) k) ?_
    show G (T32.setTop (mkF m 67 #[.val (.ref a1), .val (.int (Int32.ofNat i)), .val (.int (1 : Int32))] [(.int (1 : Int32)), (.int (Int32.ofNat sz)), (.ref a1)]))
    refine go (fun _ k => XS.iadd X32.here hx rfl (hb hby d13_67) rfl k) ?_
    show G (T32.setTop (mkF m 68 #[.val (.ref a1), .val (.int (Int32.ofNat i)), .val (.int (1 : Int32))] [(.int ((Int32.ofNat sz) + (1 : Int32))), (.ref a1)]))
    rw [show ((Int32.ofNat sz) + (1 : Int32)) = (Int32.ofNat (sz + 1)) from own_onadd sz 1]
    show G (T32.setTop (mkF m 68 #[.val (.ref a1), .val (.int (Int32.ofNat i)), .val (.int (1 : Int32))] [(.int (Int32.ofNat (sz + 1))), (.ref a1)]))
    obtain ⟨T33, h33, X33, e33, W33, st33⟩ := putF X32 hx hZ hown (host := "") (Or.inl (hw _ (List.mem_of_getElem? (i := 51) rfl))) Via.refl e32 f28 f26 (Or.inl (hw _ (List.mem_of_getElem? (i := 52) rfl))) (hw _ (List.mem_of_getElem? (i := 28) rfl)) (ty := .int) (by decide) rfl rfl (g := (mkF m 68 #[.val (.ref a1), .val (.int (Int32.ofNat i)), .val (.int (1 : Int32))] [(.int (Int32.ofNat (sz + 1))), (.ref a1)])) rfl rfl (hb hby d13_68)
    have f34 := f26.wr W33
    have f35 := f27.other W33 (Or.inr (slot_ne (Or.inl (hw _ (List.mem_of_getElem? (i := 50) rfl))) (Or.inl (hw _ (List.mem_of_getElem? (i := 52) rfl))) (by decide) (t := (.array .long)) (t' := .int) (by decide) (by decide)))
    have f36 := f29.other W33 (Ne.symm hne)
    have f37 := f30.wr W33
    have f38 := f31.wr W33
    have f39 := V25.other W33 (Ne.symm ne_a1_bc9)
    have K33 : Keep h0 h33 [a1, wa] := K25.wr W33 (Or.inl (List.mem_of_getElem? (i := 0) rfl))
    have Zs33 : n0 ≤ h33.size := Nat.le_trans Zs25 (Keep.of_wr W33).1
    have N33 := Fr.snoc X33 N25 g_a1
    have Fw33 := f28.same W33
    refine go st33 ?_
    show G (T33.setTop (mkF m 71 #[.val (.ref a1), .val (.int (Int32.ofNat i)), .val (.int (1 : Int32))] []))
    rw [hG]
    refine own_fin X33 Bd.notSynchronized (v := none) (fun _ => rfl) (fun fs hr => X33.returnOut hx Bd.returns (hb hby d13_71) hr) ?_ (by decide) (by decide)
    show Q13w1 Z a1 wa kw sz cb i h0 n0 (none) T33.heap _
    rw [e33]
    exact ⟨bc9, kc9, (sz + 2), rfl, N33, K33, Or.inr sz_bc9, f35, Fw33, f39, f38, by omega, by omega⟩
  · show G (T2.setTop (mkF m 11 #[.val (.ref a1), .val (.int (Int32.ofNat i)), .val (.int (1 : Int32))] [(.int (Int32.ofNat (cb * 1))), (.int (Int32.ofNat (sz * 1)))]))
    have hc40 : ¬ ((Int32.ofNat (sz * 1)) = (Int32.ofNat (cb * 1))) := fun q => hN (by have := own_oninj (by omega) (by omega) q; omega)
    refine go (fun _ k => XS.icmpYes X2.here hx rfl (pc0 := 11) (pc' := 34) rfl (hb hby d13_11) rfl (feq hc40).2 (by decide) (by decide) k) ?_
    show G (T2.setTop (mkF m 34 #[.val (.ref a1), .val (.int (Int32.ofNat i)), .val (.int (1 : Int32))] []))
    refine go (fun _ k => XS.aloadN X2.here hx rfl (hb hby d13_34) rfl rfl k) ?_
    show G (T2.setTop (mkF m 35 #[.val (.ref a1), .val (.int (Int32.ofNat i)), .val (.int (1 : Int32))] [(.ref a1)]))
    obtain ⟨T41, X41, e41, st41⟩ := getF X2 hx hZ hown (host := "") (Or.inl (hw _ (List.mem_of_getElem? (i := 49) rfl))) Via.refl e2 F1 (g := (mkF m 35 #[.val (.ref a1), .val (.int (Int32.ofNat i)), .val (.int (1 : Int32))] [(.ref a1)])) rfl rfl (hb hby d13_35)
    refine go st41 ?_
    show G (T41.setTop (mkF m 38 #[.val (.ref a1), .val (.int (Int32.ofNat i)), .val (.int (1 : Int32))] [(.ref wa)]))
    refine go (fun _ k => XS.iloadN X41.here hx rfl (hb hby d13_38) rfl k) ?_
    show G (T41.setTop (mkF m 39 #[.val (.ref a1), .val (.int (Int32.ofNat i)), .val (.int (1 : Int32))] [(.int (Int32.ofNat i)), (.ref wa)]))
    refine go (fun _ k => XS.iloadN X41.here hx rfl (hb hby d13_39) rfl k) ?_
    show G (T41.setTop (mkF m 40 #[.val (.ref a1), .val (.int (Int32.ofNat i)), .val (.int (1 : Int32))] [(.int (1 : Int32)), (.int (Int32.ofNat i)), (.ref wa)]))
    refine go (fun _ k => XS.imul X41.here hx rfl (hb hby d13_40) rfl k) ?_
    show G (T41.setTop (mkF m 41 #[.val (.ref a1), .val (.int (Int32.ofNat i)), .val (.int (1 : Int32))] [(.int ((Int32.ofNat i) * (1 : Int32))), (.ref wa)]))
    rw [show ((Int32.ofNat i) * (1 : Int32)) = (Int32.ofNat (i * 1)) from own_onmul i 1]
    show G (T41.setTop (mkF m 41 #[.val (.ref a1), .val (.int (Int32.ofNat i)), .val (.int (1 : Int32))] [(.int (Int32.ofNat (i * 1))), (.ref wa)]))
    refine go (fun _ k => XS.aloadN X41.here hx rfl (hb hby d13_41) rfl rfl k) ?_
    show G (T41.setTop (mkF m 42 #[.val (.ref a1), .val (.int (Int32.ofNat i)), .val (.int (1 : Int32))] [(.ref a1), (.int (Int32.ofNat (i * 1))), (.ref wa)]))
    obtain ⟨T42, X42, e42, st42⟩ := getF X41 hx hZ hown (host := "") (Or.inl (hw _ (List.mem_of_getElem? (i := 49) rfl))) Via.refl e41 F1 (g := (mkF m 42 #[.val (.ref a1), .val (.int (Int32.ofNat i)), .val (.int (1 : Int32))] [(.ref a1), (.int (Int32.ofNat (i * 1))), (.ref wa)])) rfl rfl (hb hby d13_42)
    refine go st42 ?_
    show G (T42.setTop (mkF m 45 #[.val (.ref a1), .val (.int (Int32.ofNat i)), .val (.int (1 : Int32))] [(.ref wa), (.int (Int32.ofNat (i * 1))), (.ref wa)]))
    refine go (fun _ k => XS.iloadN X42.here hx rfl (hb hby d13_45) rfl k) ?_
    show G (T42.setTop (mkF m 46 #[.val (.ref a1), .val (.int (Int32.ofNat i)), .val (.int (1 : Int32))] [(.int (Int32.ofNat i)), (.ref wa), (.int (Int32.ofNat (i * 1))), (.ref wa)]))
    refine go (fun _ k => XS.iconst X42.here hx rfl (hb hby d13_46) k) ?_
    show G (T42.setTop (mkF m 47 #[.val (.ref a1), .val (.int (Int32.ofNat i)), .val (.int (1 : Int32))] [(.int (1 : Int32)), (.int (Int32.ofNat i)), (.ref wa), (.int (Int32.ofNat (i * 1))), (.ref wa)]))
    refine go (fun _ k => XS.iadd X42.here hx rfl (hb hby d13_47) rfl k) ?_
    show G (T42.setTop (mkF m 48 #[.val (.ref a1), .val (.int (Int32.ofNat i)), .val (.int (1 : Int32))] [(.int ((Int32.ofNat i) + (1 : Int32))), (.ref wa), (.int (Int32.ofNat (i * 1))), (.ref wa)]))
    rw [show ((Int32.ofNat i) + (1 : Int32)) = (Int32.ofNat (i + 1)) from own_onadd i 1]
    show G (T42.setTop (mkF m 48 #[.val (.ref a1), .val (.int (Int32.ofNat i)), .val (.int (1 : Int32))] [(.int (Int32.ofNat (i + 1))), (.ref wa), (.int (Int32.ofNat (i * 1))), (.ref wa)]))
    refine go (fun _ k => XS.iloadN X42.here hx rfl (hb hby d13_48) rfl k) ?_
    show G (T42.setTop (mkF m 49 #[.val (.ref a1), .val (.int (Int32.ofNat i)), .val (.int (1 : Int32))] [(.int (1 : Int32)), (.int (Int32.ofNat (i + 1))), (.ref wa), (.int (Int32.ofNat (i * 1))), (.ref wa)]))
    refine go (fun _ k => XS.imul X42.here hx rfl (hb hby d13_49) rfl k) ?_
    show G (T42.setTop (mkF m 50 #[.val (.ref a1), .val (.int (Int32.ofNat i)), .val (.int (1 : Int32))] [(.int ((Int32.ofNat (i + 1)) * (1 : Int32))), (.ref wa), (.int (Int32.ofNat (i * 1))), (.ref wa)]))
    rw [show ((Int32.ofNat (i + 1)) * (1 : Int32)) = (Int32.ofNat ((i + 1) * 1)) from own_onmul (i + 1) 1]
    show G (T42.setTop (mkF m 50 #[.val (.ref a1), .val (.int (Int32.ofNat i)), .val (.int (1 : Int32))] [(.int (Int32.ofNat ((i + 1) * 1))), (.ref wa), (.int (Int32.ofNat (i * 1))), (.ref wa)]))
    refine go (fun _ k => XS.aloadN X42.here hx rfl (hb hby d13_50) rfl rfl k) ?_
    show G (T42.setTop (mkF m 51 #[.val (.ref a1), .val (.int (Int32.ofNat i)), .val (.int (1 : Int32))] [(.ref a1), (.int (Int32.ofNat ((i + 1) * 1))), (.ref wa), (.int (Int32.ofNat (i * 1))), (.ref wa)]))
    obtain ⟨T43, X43, e43, st43⟩ := getF X42 hx hZ hown (host := "") (Or.inl (hw _ (List.mem_of_getElem? (i := 51) rfl))) Via.refl e42 F2 (g := (mkF m 51 #[.val (.ref a1), .val (.int (Int32.ofNat i)), .val (.int (1 : Int32))] [(.ref a1), (.int (Int32.ofNat ((i + 1) * 1))), (.ref wa), (.int (Int32.ofNat (i * 1))), (.ref wa)])) rfl rfl (hb hby d13_51)
    refine go st43 ?_
    show G (T43.setTop (mkF m 54 #[.val (.ref a1), .val (.int (Int32.ofNat i)), .val (.int (1 : Int32))] [(.int (Int32.ofNat sz)), (.int (Int32.ofNat ((i + 1) * 1))), (.ref wa), (.int (Int32.ofNat (i * 1))), (.ref wa)]))
    refine go (fun _ k => XS.iloadN X43.here hx rfl (hb hby d13_54) rfl k) ?_
    show G (T43.setTop (mkF m 55 #[.val (.ref a1), .val (.int (Int32.ofNat i)), .val (.int (1 : Int32))] [(.int (Int32.ofNat i)), (.int (Int32.ofNat sz)), (.int (Int32.ofNat ((i + 1) * 1))), (.ref wa), (.int (Int32.ofNat (i * 1))), (.ref wa)]))
    refine go (fun _ k => XS.isub X43.here hx rfl (hb hby d13_55) rfl k) ?_
    show G (T43.setTop (mkF m 56 #[.val (.ref a1), .val (.int (Int32.ofNat i)), .val (.int (1 : Int32))] [(.int ((Int32.ofNat sz) - (Int32.ofNat i))), (.int (Int32.ofNat ((i + 1) * 1))), (.ref wa), (.int (Int32.ofNat (i * 1))), (.ref wa)]))
    rw [show ((Int32.ofNat sz) - (Int32.ofNat i)) = (Int32.ofNat (sz - i)) from own_onsub sz i (by omega)]
    show G (T43.setTop (mkF m 56 #[.val (.ref a1), .val (.int (Int32.ofNat i)), .val (.int (1 : Int32))] [(.int (Int32.ofNat (sz - i))), (.int (Int32.ofNat ((i + 1) * 1))), (.ref wa), (.int (Int32.ofNat (i * 1))), (.ref wa)]))
    refine go (fun _ k => XS.iloadN X43.here hx rfl (hb hby d13_56) rfl k) ?_
    show G (T43.setTop (mkF m 57 #[.val (.ref a1), .val (.int (Int32.ofNat i)), .val (.int (1 : Int32))] [(.int (1 : Int32)), (.int (Int32.ofNat (sz - i))), (.int (Int32.ofNat ((i + 1) * 1))), (.ref wa), (.int (Int32.ofNat (i * 1))), (.ref wa)]))
    refine go (fun _ k => XS.imul X43.here hx rfl (hb hby d13_57) rfl k) ?_
    show G (T43.setTop (mkF m 58 #[.val (.ref a1), .val (.int (Int32.ofNat i)), .val (.int (1 : Int32))] [(.int ((Int32.ofNat (sz - i)) * (1 : Int32))), (.int (Int32.ofNat ((i + 1) * 1))), (.ref wa), (.int (Int32.ofNat (i * 1))), (.ref wa)]))
    rw [show ((Int32.ofNat (sz - i)) * (1 : Int32)) = (Int32.ofNat ((sz - i) * 1)) from own_onmul (sz - i) 1]
    show G (T43.setTop (mkF m 58 #[.val (.ref a1), .val (.int (Int32.ofNat i)), .val (.int (1 : Int32))] [(.int (Int32.ofNat ((sz - i) * 1))), (.int (Int32.ofNat ((i + 1) * 1))), (.ref wa), (.int (Int32.ofNat (i * 1))), (.ref wa)]))
    obtain ⟨va44, la44, VA44⟩ := id VL
    obtain ⟨vb44, lb44, VB44⟩ := id VL
    have qN44 : (Int32.ofNat ((sz - i) * 1)).toNatClampNeg = ((sz - i) * 1) := own_onnat _ (by omega)
    have qD44 : (Int32.ofNat ((i + 1) * 1)).toNatClampNeg = ((i + 1) * 1) := own_onnat _ (by omega)
    have qS44 : (Int32.ofNat (i * 1)).toNatClampNeg = (i * 1) := own_onnat _ (by omega)
    have qA44 : (Int32.ofNat (cb * 1)).toNatClampNeg = (cb * 1) := own_onnat _ (by omega)
    have qB44 : (Int32.ofNat (cb * 1)).toNatClampNeg = (cb * 1) := own_onnat _ (by omega)
    have i444 : (Int32.ofNat (i * 1)).toNatClampNeg + (Int32.ofNat ((sz - i) * 1)).toNatClampNeg ≤ (Int32.ofNat (cb * 1)).toNatClampNeg := by omega
    have i544 : (Int32.ofNat ((i + 1) * 1)).toNatClampNeg + (Int32.ofNat ((sz - i) * 1)).toNatClampNeg ≤ (Int32.ofNat (cb * 1)).toNatClampNeg := by omega
    have i644 : (Int32.ofNat ((i + 1) * 1)).toNatClampNeg + (Int32.ofNat ((sz - i) * 1)).toNatClampNeg ≤ vb44.length := by omega
    obtain ⟨T44, h44, Lx44, X44, e44, N44, Kp44, Vc44, st44⟩ := cpA X43 hx hZ hown (hw _ (List.mem_of_getElem? (i := 84) rfl)) (hw _ (List.mem_of_getElem? (i := 44) rfl)) (hw _ (List.mem_of_getElem? (i := 42) rfl)) (hw _ (List.mem_of_getElem? (i := 43) rfl)) e43 VA44 VB44 (sp := Int32.ofNat (i * 1)) (dp := Int32.ofNat ((i + 1) * 1)) (nn := Int32.ofNat ((sz - i) * 1)) (Or.inl ⟨rfl, rfl⟩) (own_onnn _ (by omega)) (own_onnn _ (by omega)) (own_onnn _ (by omega)) i444 i544 rfl i644 N0 g_wa (g := (mkF m 58 #[.val (.ref a1), .val (.int (Int32.ofNat i)), .val (.int (1 : Int32))] [(.int (Int32.ofNat ((sz - i) * 1))), (.int (Int32.ofNat ((i + 1) * 1))), (.ref wa), (.int (Int32.ofNat (i * 1))), (.ref wa)])) rfl (by rw [hml]; rfl) rfl (hb hby d13_58) (by decide) (W := 0) (by show 2 * 0 + _ ≤ _; exact Nat.le_of_eq rfl) (by decide)
    have f45 := E.keep Kp44
    have f46 := F1.keep Kp44 (ninS hne nin0)
    have f47 := F2.keep Kp44 (ninS hne nin0)
    have f48 := EL.keep Kp44
    have K44 : Keep h0 h44 [a1, wa] := K0.trans Kp44 (allS (P := fun x => x ∈ [a1, wa] ∨ h0.size ≤ x) (Or.inl (List.mem_of_getElem? (i := 1) rfl)) all0)
    have Zs44 : n0 ≤ h44.size := Nat.le_trans Z0 Kp44.1
    have V44 : LA Z h44 wa kw (cb * 1) := ⟨_, own_cplen _ _ _ _ _ lb44 (by rw [List.length_map, List.length_range]) (by omega), Vc44⟩
    refine go st44 ?_
    show G (T44.setTop (mkF m 61 #[.val (.ref a1), .val (.int (Int32.ofNat i)), .val (.int (1 : Int32))] []))
    refine go (fun _ k => XS.aloadN X44.here hx rfl (hb hby d13_61) rfl rfl k) ?_
    show G (T44.setTop (mkF m 62 #[.val (.ref a1), .val (.int (Int32.ofNat i)), .val (.int (1 : Int32))] [(.ref a1)]))
    refine go (fun _ k => XS.dup X44.here hx rfl (hb hby d13_62) rfl rfl k) ?_
    show G (T44.setTop (mkF m 63 #[.val (.ref a1), .val (.int (Int32.ofNat i)), .val (.int (1 : Int32))] [(.ref a1), (.ref a1)]))
    obtain ⟨T49, X49, e49, st49⟩ := getF X44 hx hZ hown (host := "") (Or.inl (hw _ (List.mem_of_getElem? (i := 51) rfl))) Via.refl e44 f47 (g := (mkF m 63 #[.val (.ref a1), .val (.int (Int32.ofNat i)), .val (.int (1 : Int32))] [(.ref a1), (.ref a1)])) rfl rfl (hb hby d13_63)
    refine go st49 ?_
    show G (T49.setTop (mkF m 66 #[.val (.ref a1), .val (.int (Int32.ofNat i)), .val (.int (1 : Int32))] [(.int (Int32.ofNat sz)), (.ref a1)]))
    refine go (fun _ k => XS.iconst X49.here hx rfl (hb hby d13_66) k) ?_
    show G (T49.setTop (mkF m 67 #[.val (.ref a1), .val (.int (Int32.ofNat i)), .val (.int (1 : Int32))] [(.int (1 : Int32)), (.int (Int32.ofNat sz)), (.ref a1)]))
    refine go (fun _ k => XS.iadd X49.here hx rfl (hb hby d13_67) rfl k) ?_
    show G (T49.setTop (mkF m 68 #[.val (.ref a1), .val (.int (Int32.ofNat i)), .val (.int (1 : Int32))] [(.int ((Int32.ofNat sz) + (1 : Int32))), (.ref a1)]))
    rw [show ((Int32.ofNat sz) + (1 : Int32)) = (Int32.ofNat (sz + 1)) from own_onadd sz 1]
    show G (T49.setTop (mkF m 68 #[.val (.ref a1), .val (.int (Int32.ofNat i)), .val (.int (1 : Int32))] [(.int (Int32.ofNat (sz + 1))), (.ref a1)]))
    obtain ⟨T50, h50, X50, e50, W50, st50⟩ := putF X49 hx hZ hown (host := "") (Or.inl (hw _ (List.mem_of_getElem? (i := 51) rfl))) Via.refl e49 f47 f45 (Or.inl (hw _ (List.mem_of_getElem? (i := 52) rfl))) (hw _ (List.mem_of_getElem? (i := 28) rfl)) (ty := .int) (by decide) rfl rfl (g := (mkF m 68 #[.val (.ref a1), .val (.int (Int32.ofNat i)), .val (.int (1 : Int32))] [(.int (Int32.ofNat (sz + 1))), (.ref a1)])) rfl rfl (hb hby d13_68)
    have f51 := f45.wr W50
    have f52 := f46.other W50 (Or.inr (slot_ne (Or.inl (hw _ (List.mem_of_getElem? (i := 50) rfl))) (Or.inl (hw _ (List.mem_of_getElem? (i := 52) rfl))) (by decide) (t := (.array .long)) (t' := .int) (by decide) (by decide)))
    have f53 := f48.wr W50
    have f54 := V44.other W50 (Ne.symm hne)
    have K50 : Keep h0 h50 [a1, wa] := K44.wr W50 (Or.inl (List.mem_of_getElem? (i := 0) rfl))
    have Zs50 : n0 ≤ h50.size := Nat.le_trans Zs44 (Keep.of_wr W50).1
    have N50 := Fr.snoc X50 N44 g_a1
    have Fw50 := f47.same W50
    refine go st50 ?_
    show G (T50.setTop (mkF m 71 #[.val (.ref a1), .val (.int (Int32.ofNat i)), .val (.int (1 : Int32))] []))
    rw [hG]
    refine own_fin X50 Bd.notSynchronized (v := none) (fun _ => rfl) (fun fs hr => X50.returnOut hx Bd.returns (hb hby d13_71) hr) ?_ (by decide) (by decide)
    show Q13w1 Z a1 wa kw sz cb i h0 n0 (none) T50.heap _
    rw [e50]
    exact ⟨wa, kw, cb, rfl, N50, K50, Or.inl rfl, f52, Fw50, f54, f53, by omega, by omega⟩

theorem d17_0 : decode prog_86_method_11_code 0 = .ok (.lload_n 1, 1) := by decide +kernel
theorem d17_1 : decode prog_86_method_11_code 1 = .ok (.invokestatic 57, 3) := by decide +kernel
theorem d17_4 : decode prog_86_method_11_code 4 = .ok (.istore_n 3, 1) := by decide +kernel
theorem d17_5 : decode prog_86_method_11_code 5 = .ok (.aload_n 0, 1) := by decide +kernel
theorem d17_6 : decode prog_86_method_11_code 6 = .ok (.getfield 27, 3) := by decide +kernel
theorem d17_9 : decode prog_86_method_11_code 9 = .ok (.iload_n 3, 1) := by decide +kernel
theorem d17_10 : decode prog_86_method_11_code 10 = .ok (.aaload, 1) := by decide +kernel
theorem d17_11 : decode prog_86_method_11_code 11 = .ok (.lload_n 1, 1) := by decide +kernel
theorem d17_12 : decode prog_86_method_11_code 12 = .ok (.invokestatic 72, 3) := by decide +kernel
theorem d17_15 : decode prog_86_method_11_code 15 = .ok (.aload_n 0, 1) := by decide +kernel
theorem d17_16 : decode prog_86_method_11_code 16 = .ok (.getfield 12, 3) := by decide +kernel
theorem d17_19 : decode prog_86_method_11_code 19 = .ok (.invokevirtual 90, 3) := by decide +kernel
theorem d17_22 : decode prog_86_method_11_code 22 = .ok (.aload_n 0, 1) := by decide +kernel
theorem d17_23 : decode prog_86_method_11_code 23 = .ok (.getfield 22, 3) := by decide +kernel
theorem d17_26 : decode prog_86_method_11_code 26 = .ok (.iconst 1, 1) := by decide +kernel
theorem d17_27 : decode prog_86_method_11_code 27 = .ok (.if_icmp .le 8, 3) := by decide +kernel
theorem d17_35 : decode prog_86_method_11_code 35 = .ok (.return_, 1) := by decide +kernel
theorem pn_17 : plainName "com/example/kerros/kerros/store/SortedChunks" = true := by first | (simp [plainName, overriddenIn]; done) | decide +kernel
theorem pd_17_0 : parseMethodDescriptor "(J)I" = some ⟨[.long], some .int⟩ := by decide +kernel
theorem pd_17_1 : parseMethodDescriptor "(II)V" = some ⟨[.int, .int], none⟩ := by decide +kernel
theorem ef_rm17w1 (m : MethodId) (a1 : Addr) (i : Nat) : entryFrame m #[(.ref a1), (.long (Int64.ofNat i))] 4 = mkF m 0 #[.val (.ref a1), .val (.long (Int64.ofNat i)), .second, .unset] [] := by first | (simp [entryFrame, mkF, argsToLocals, Value.category]; done) | rfl
def Q17w1 (Z : State) (a1 : Addr) (i : Nat) (ca ck wa : Addr) (kc kw : ClassId) (sz cb : Nat) (h0 : Heap) (n0 : Nat) (v : Option Value) (h : Heap) (L : List Loc) : Prop := v = none ∧ Fr n0 L ∧ Keep h0 h [ck, wa] ∧ Fld Z h ck "com/example/kerros/kerros/store/SortedChunks$Chunk" "words" "[J" (.ref wa) ∧ Fld Z h ck "com/example/kerros/kerros/store/SortedChunks$Chunk" "size" "I" (.int (Int32.ofNat (sz - 1))) ∧ LA Z h wa kw (cb * 1)
set_option maxRecDepth 65536 in
set_option maxHeartbeats 40000000 in
theorem rm17w1 (l : Launch) (Z : State) (a0 : Array Value) (hw : ∀ d ∈ tables_1, d.before a0 Z = true) (ws : List Jvm.Cond) (a1 : Addr) (i : Nat) (ca ck wa : Addr) (kc kw : ClassId) (sz cb : Nat) (h0 : Heap) (n0 : Nat) (Z0 : n0 ≤ h0.size) (F1 : Fld Z h0 a1 "com/example/kerros/kerros/store/SortedChunks" "width" "I" (.int (1 : Int32))) (F2 : Fld Z h0 a1 "com/example/kerros/kerros/store/SortedChunks" "used" "I" (.int (1 : Int32))) (F3 : Fld Z h0 a1 "com/example/kerros/kerros/store/SortedChunks" "chunks" "[Lcom/example/kerros/kerros/store/SortedChunks$Chunk;" (.ref ca)) (VC : Arv Z h0 ca kc (.object "com/example/kerros/kerros/store/SortedChunks$Chunk") (1 : Int32) [(.ref ck)] .null) (E : Exa Z h0 ck "com/example/kerros/kerros/store/SortedChunks$Chunk") (F4 : Fld Z h0 ck "com/example/kerros/kerros/store/SortedChunks$Chunk" "words" "[J" (.ref wa)) (F5 : Fld Z h0 ck "com/example/kerros/kerros/store/SortedChunks$Chunk" "size" "I" (.int (Int32.ofNat sz))) (VL : LA Z h0 wa kw (cb * 1)) (EL : Exa Z h0 wa "[J") (ne1 : a1 ≠ ck) (ne2 : a1 ≠ wa) (ne3 : ca ≠ ck) (ne4 : ca ≠ wa) (ne5 : ck ≠ wa) (g_ck : n0 ≤ ck) (g_wa : n0 ≤ wa) (hsc : sz ≤ cb) (hc5 : cb ≤ 5) (hi : i < sz) :
    MetFree l (⟨"com/example/kerros/kerros/store/SortedChunks", "remove", "(J)V"⟩ : MethodName) (head1 (Jvm.Cond.code (⟨"com/example/kerros/kerros/store/SortedChunks", "remove", "(J)V"⟩ : MethodName) prog_86_method_11_code 4 none :: ws) ({ frames := 2, cells := 0, slots := 0, locals := 60 } : Room)) (fun a U => a = #[(.ref a1), (.long (Int64.ofNat i))] ∧ Z.Warmed39 U.vm ∧ U.heap = h0) (fun _ _ _ _ _ => True) (fun _ U o U' => ∃ v L, o = .returned v ∧ Q17w1 Z a1 i ca ck wa kc kw sz cb h0 n0 v U'.heap L ∧ FrameEnd U o U' L ({ frames := 2, cells := 0, slots := 0, locals := 60 } : Room).cells ({ frames := 2, cells := 0, slots := 0, locals := 60 } : Room).slots) := by
  refine MetFree.of_bodySF (plainFor_of_name pn_17) hisR ?_
  intro p e s m args below meth c s₁ Bd hml0 hP hK
  obtain ⟨rfl, hZ, hh⟩ := hP
  have hx := Bd.exec
  have hby := Bd.bytes
  have hml : c.maxLocals = 4 := hml0
  have hown : s.vm.findClass "com/example/kerros/kerros/store/SortedChunks" = some m.cls := findClass_of_methodNamed Bd.named
  have hnm := (name_of_methodNamed Bd.named Bd.method).1
  have X0 : Stand p l e ({ frames := 2, cells := 0, slots := 0, locals := 60 } : Room) s m #[(.ref a1), (.long (Int64.ofNat i))] below meth c s₁ [] 0 0 := Stand.of_body Bd
  have e0 : s₁.heap = h0 := by rw [← hh, Bd.state]; rfl
  have N0 := Fr.nil n0
  obtain ⟨G, hG⟩ : ∃ G : State → Prop, G = OwnG p e below s ({ frames := 2, cells := 0, slots := 0, locals := 60 } : Room).cells ({ frames := 2, cells := 0, slots := 0, locals := 60 } : Room).slots (Q17w1 Z a1 i ca ck wa kc kw sz cb h0 n0) := ⟨_, rfl⟩
  have go : ∀ {A B : State}, (∀ t, Steps p.tables e below A t → Steps p.tables e below B t) → G A → G B := fun h k => by rw [hG] at k ⊢; exact OwnG.go h k
  suffices k0 : G (s₁.setTop (mkF m 0 #[.val (.ref a1), .val (.long (Int64.ofNat i)), .second, .unset] [])) by
    rw [hG] at k0; exact OwnG.go (fun t k => castTop (ef_rm17w1 m a1 i) k) k0
  have K0 : Keep h0 h0 [ck, wa] := Keep.refl _ _
  refine go (fun _ k => XS.lloadN X0.here hx rfl (hb hby d17_0) rfl k) ?_
  show G (s₁.setTop (mkF m 1 #[.val (.ref a1), .val (.long (Int64.ofNat i)), .second, .unset] [(.long (Int64.ofNat i))]))
  obtain ⟨_, _, ⟨T1, L1, k1, n1⟩, -, X1, ⟨Lc1, hQ1, l1, y1, z1⟩, st1⟩ := Jvm.LawKit.callS X0 hx (y := (⟨"com/example/kerros/kerros/store/SortedChunks", "chunkOf", "(J)I"⟩ : MethodName)) hown (mvT hZ (hw _ (List.mem_of_getElem? (i := 65) rfl))) (mvT hZ (hw _ (List.mem_of_getElem? (i := 66) rfl))) (mvT hZ (hw _ (List.mem_of_getElem? (i := 6) rfl))) (mvT hZ (hw _ (List.mem_of_getElem? (i := 67) rfl))) (by decide) (backOf (W := 0) (rm11 l Z a0 hw [] i h0 n0 Z0 (by omega)) hZ (hw _ (List.mem_of_getElem? (i := 67) rfl)) (hw _ (List.mem_of_getElem? (i := 6) rfl)) (by decide) (by decide)) (g := (mkF m 1 #[.val (.ref a1), .val (.long (Int64.ofNat i)), .second, .unset] [(.long (Int64.ofNat i))])) rfl (by rw [hml]; rfl) (argsL := [(.long (Int64.ofNat i))]) (rest := []) (lenOf pd_17_0 rfl) rfl (by show 2 * 0 + _ ≤ _; exact Nat.le_of_eq rfl) (hb hby d17_1) (fun _ _ => ⟨rfl, e0, (by decide : 0 + 0 ≤ _), (by decide : 0 + 0 ≤ _)⟩)
  dsimp only [Pt.U, Pt.locs, Pt.cells, Pt.slots] at X1 l1 y1 z1 st1 hQ1
  subst l1 y1 z1
  obtain ⟨rfl, N1q, e1⟩ := hQ1
  have N1 := Fr.app N0 N1q
  refine go st1 ?_
  show G (T1.setTop (mkF m 4 #[.val (.ref a1), .val (.long (Int64.ofNat i)), .second, .unset] [(.int (0 : Int32))]))
  refine go (fun _ k => XS.istoreN X1.here hx rfl (hb hby d17_4) rfl (l' := #[.val (.ref a1), .val (.long (Int64.ofNat i)), .second, .val (.int (0 : Int32))]) rfl k) ?_
  show G (T1.setTop (mkF m 5 #[.val (.ref a1), .val (.long (Int64.ofNat i)), .second, .val (.int (0 : Int32))] []))
  refine go (fun _ k => XS.aloadN X1.here hx rfl (hb hby d17_5) rfl rfl k) ?_
  show G (T1.setTop (mkF m 6 #[.val (.ref a1), .val (.long (Int64.ofNat i)), .second, .val (.int (0 : Int32))] [(.ref a1)]))
  obtain ⟨T2, X2, e2, st2⟩ := getF X1 hx hZ hown (host := "") (Or.inl (hw _ (List.mem_of_getElem? (i := 23) rfl))) Via.refl e1 F3 (g := (mkF m 6 #[.val (.ref a1), .val (.long (Int64.ofNat i)), .second, .val (.int (0 : Int32))] [(.ref a1)])) rfl rfl (hb hby d17_6)
  refine go st2 ?_
  show G (T2.setTop (mkF m 9 #[.val (.ref a1), .val (.long (Int64.ofNat i)), .second, .val (.int (0 : Int32))] [(.ref ca)]))
  refine go (fun _ k => XS.iloadN X2.here hx rfl (hb hby d17_9) rfl k) ?_
  show G (T2.setTop (mkF m 10 #[.val (.ref a1), .val (.long (Int64.ofNat i)), .second, .val (.int (0 : Int32))] [(.int (0 : Int32)), (.ref ca)]))
  obtain ⟨cl3, Ar3, qk3, qs3, qn3, qh3, qg3⟩ := id VC
  refine go (X2.aaload hx (j := (0 : Int32)) (v := (.ref ck)) (by rw [e2]; exact Ar3.1) (State.isArrayOf_alike hZ.alike Ar3.2.1) rfl Ar3.2.2 (inb_of qs3 ⟨by decide, by decide⟩) (Has.at qh3 (inb_of qs3 ⟨by decide, by decide⟩) rfl) (g := (mkF m 10 #[.val (.ref a1), .val (.long (Int64.ofNat i)), .second, .val (.int (0 : Int32))] [(.int (0 : Int32)), (.ref ca)])) rfl rfl (hb hby d17_10)) ?_
  show G (T2.setTop (mkF m 11 #[.val (.ref a1), .val (.long (Int64.ofNat i)), .second, .val (.int (0 : Int32))] [(.ref ck)]))
  refine go (fun _ k => XS.lloadN X2.here hx rfl (hb hby d17_11) rfl k) ?_
  show G (T2.setTop (mkF m 12 #[.val (.ref a1), .val (.long (Int64.ofNat i)), .second, .val (.int (0 : Int32))] [(.long (Int64.ofNat i)), (.ref ck)]))
  obtain ⟨_, _, ⟨T4, L4, k4, n4⟩, -, X4, ⟨Lc4, hQ4, l4, y4, z4⟩, st4⟩ := Jvm.LawKit.callS X2 hx (y := (⟨"com/example/kerros/kerros/store/SortedChunks", "indexOf", "(J)I"⟩ : MethodName)) hown (mvT hZ (hw _ (List.mem_of_getElem? (i := 68) rfl))) (mvT hZ (hw _ (List.mem_of_getElem? (i := 69) rfl))) (mvT hZ (hw _ (List.mem_of_getElem? (i := 6) rfl))) (mvT hZ (hw _ (List.mem_of_getElem? (i := 70) rfl))) (by decide) (backOf (W := 1) (rm12 l Z a0 hw [] i h0 n0 Z0 (by omega)) hZ (hw _ (List.mem_of_getElem? (i := 70) rfl)) (hw _ (List.mem_of_getElem? (i := 6) rfl)) (by decide) (by decide)) (g := (mkF m 12 #[.val (.ref a1), .val (.long (Int64.ofNat i)), .second, .val (.int (0 : Int32))] [(.long (Int64.ofNat i)), (.ref ck)])) rfl (by rw [hml]; rfl) (argsL := [(.long (Int64.ofNat i))]) (rest := [(.ref ck)]) (lenOf pd_17_0 rfl) rfl (by show 2 * 0 + _ ≤ _; exact Nat.le_of_eq rfl) (hb hby d17_12) (fun _ _ => ⟨rfl, e2, (by decide : 0 + 0 ≤ _), (by decide : 0 + 0 ≤ _)⟩)
  dsimp only [Pt.U, Pt.locs, Pt.cells, Pt.slots] at X4 l4 y4 z4 st4 hQ4
  subst l4 y4 z4
  obtain ⟨rfl, N4q, e4⟩ := hQ4
  have N4 := Fr.app N1 N4q
  refine go st4 ?_
  show G (T4.setTop (mkF m 15 #[.val (.ref a1), .val (.long (Int64.ofNat i)), .second, .val (.int (0 : Int32))] [(.int (Int32.ofNat i)), (.ref ck)]))
  refine go (fun _ k => XS.aloadN X4.here hx rfl (hb hby d17_15) rfl rfl k) ?_
  show G (T4.setTop (mkF m 16 #[.val (.ref a1), .val (.long (Int64.ofNat i)), .second, .val (.int (0 : Int32))] [(.ref a1), (.int (Int32.ofNat i)), (.ref ck)]))
  obtain ⟨T5, X5, e5, st5⟩ := getF X4 hx hZ hown (host := "") (Or.inl (hw _ (List.mem_of_getElem? (i := 13) rfl))) Via.refl e4 F1 (g := (mkF m 16 #[.val (.ref a1), .val (.long (Int64.ofNat i)), .second, .val (.int (0 : Int32))] [(.ref a1), (.int (Int32.ofNat i)), (.ref ck)])) rfl rfl (hb hby d17_16)
  refine go st5 ?_
  show G (T5.setTop (mkF m 19 #[.val (.ref a1), .val (.long (Int64.ofNat i)), .second, .val (.int (0 : Int32))] [(.int (1 : Int32)), (.int (Int32.ofNat i)), (.ref ck)]))
  obtain ⟨cq6, qa6, qc6⟩ := E.cell
  obtain ⟨_, ⟨T6, L6, k6, n6⟩, X6, ⟨Lc6, hQ6, l6, y6, z6⟩, st6⟩ := own_privR X5 hx hZ (y := (⟨"com/example/kerros/kerros/store/SortedChunks$Chunk", "remove", "(II)V"⟩ : MethodName)) hown (hw _ (List.mem_of_getElem? (i := 106) rfl)) (hw _ (List.mem_of_getElem? (i := 107) rfl)) (hw _ (List.mem_of_getElem? (i := 108) rfl)) (hw _ (List.mem_of_getElem? (i := 28) rfl)) (hw _ (List.mem_of_getElem? (i := 109) rfl)) (by decide) (backOf (W := 0) (rm18w1 l Z a0 hw [] ck wa kw sz cb i h0 n0 Z0 E F4 F5 VL EL ne5 g_ck g_wa hsc hc5 (by omega)) hZ (hw _ (List.mem_of_getElem? (i := 109) rfl)) (hw _ (List.mem_of_getElem? (i := 29) rfl)) (by decide) (by decide)) (g := (mkF m 19 #[.val (.ref a1), .val (.long (Int64.ofNat i)), .second, .val (.int (0 : Int32))] [(.int (1 : Int32)), (.int (Int32.ofNat i)), (.ref ck)])) rfl (by rw [hml]; rfl) (a := ck) (by rw [e5]; exact qa6) qc6 (argsL := [(.int (Int32.ofNat i)), (.int (1 : Int32))]) (rest := []) (lenOf pd_17_1 rfl) rfl (by show 2 * 0 + _ ≤ _; exact Nat.le_of_eq rfl) (hb hby d17_19) ⟨rfl, e5, (by decide : 0 + 0 ≤ _), (by decide : 0 + 0 ≤ _)⟩
  dsimp only [Pt.U, Pt.locs, Pt.cells, Pt.slots] at X6 l6 y6 z6 st6 hQ6
  subst l6 y6 z6
  obtain ⟨rfl, N6q, Kc6, c6_0, c6_1, c6_2⟩ := hQ6
  have f7 := F1.keep Kc6 (ninS ne1 (ninS ne2 nin0))
  have f8 := F2.keep Kc6 (ninS ne1 (ninS ne2 nin0))
  have f9 := F3.keep Kc6 (ninS ne1 (ninS ne2 nin0))
  have f10 := VC.keep Kc6 (ninS ne3 (ninS ne4 nin0))
  have f11 := E.keep Kc6
  have f12 := EL.keep Kc6
  have K6 : Keep h0 T6.heap [ck, wa] := K0.trans Kc6 (allS (P := fun x => x ∈ [ck, wa] ∨ h0.size ≤ x) (Or.inl (List.mem_of_getElem? (i := 0) rfl)) (allS (P := fun x => x ∈ [ck, wa] ∨ h0.size ≤ x) (Or.inl (List.mem_of_getElem? (i := 1) rfl)) all0))
  have Zs6 : n0 ≤ T6.heap.size := Nat.le_trans Z0 Kc6.1
  have N6 := Fr.app N4 N6q
  refine go (fun _ k => st6.trans k) ?_
  show G (T6.setTop (mkF m 22 #[.val (.ref a1), .val (.long (Int64.ofNat i)), .second, .val (.int (0 : Int32))] []))
  refine go (fun _ k => XS.aloadN X6.here hx rfl (hb hby d17_22) rfl rfl k) ?_
  show G (T6.setTop (mkF m 23 #[.val (.ref a1), .val (.long (Int64.ofNat i)), .second, .val (.int (0 : Int32))] [(.ref a1)]))
  obtain ⟨T13, X13, e13, st13⟩ := getF X6 hx hZ hown (host := "") (Or.inl (hw _ (List.mem_of_getElem? (i := 19) rfl))) Via.refl rfl f8 (g := (mkF m 23 #[.val (.ref a1), .val (.long (Int64.ofNat i)), .second, .val (.int (0 : Int32))] [(.ref a1)])) rfl rfl (hb hby d17_23)
  refine go st13 ?_
  show G (T13.setTop (mkF m 26 #[.val (.ref a1), .val (.long (Int64.ofNat i)), .second, .val (.int (0 : Int32))] [(.int (1 : Int32))]))
  refine go (fun _ k => XS.iconst X13.here hx rfl (hb hby d17_26) k) ?_
  show G (T13.setTop (mkF m 27 #[.val (.ref a1), .val (.long (Int64.ofNat i)), .second, .val (.int (0 : Int32))] [(.int (1 : Int32)), (.int (1 : Int32))]))
  have hc14 : ¬ ((1 : Int32) < (1 : Int32)) := (by decide)
  refine go (fun _ k => XS.icmpYes X13.here hx rfl (pc0 := 27) (pc' := 35) rfl (hb hby d17_27) rfl (flt hc14).2.2.2 (by decide) (by decide) k) ?_
  show G (T13.setTop (mkF m 35 #[.val (.ref a1), .val (.long (Int64.ofNat i)), .second, .val (.int (0 : Int32))] []))
  rw [hG]
  refine own_fin X13 Bd.notSynchronized (v := none) (fun _ => rfl) (fun fs hr => X13.returnOut hx Bd.returns (hb hby d17_35) hr) ?_ (by decide) (by decide)
  show Q17w1 Z a1 i ca ck wa kc kw sz cb h0 n0 (none) T13.heap _
  rw [e13]
  exact ⟨rfl, N6, K6, c6_0, c6_1, c6_2⟩

theorem d10_0 : decode prog_86_method_10_code 0 = .ok (.lload_n 1, 1) := by decide +kernel
theorem d10_1 : decode prog_86_method_10_code 1 = .ok (.invokestatic 57, 3) := by decide +kernel
theorem d10_4 : decode prog_86_method_10_code 4 = .ok (.istore_n 3, 1) := by decide +kernel
theorem d10_5 : decode prog_86_method_10_code 5 = .ok (.lload_n 1, 1) := by decide +kernel
theorem d10_6 : decode prog_86_method_10_code 6 = .ok (.invokestatic 72, 3) := by decide +kernel
theorem d10_9 : decode prog_86_method_10_code 9 = .ok (.istore 4, 2) := by decide +kernel
theorem d10_11 : decode prog_86_method_10_code 11 = .ok (.aload_n 0, 1) := by decide +kernel
theorem d10_12 : decode prog_86_method_10_code 12 = .ok (.getfield 27, 3) := by decide +kernel
theorem d10_15 : decode prog_86_method_10_code 15 = .ok (.iload_n 3, 1) := by decide +kernel
theorem d10_16 : decode prog_86_method_10_code 16 = .ok (.aaload, 1) := by decide +kernel
theorem d10_17 : decode prog_86_method_10_code 17 = .ok (.astore 5, 2) := by decide +kernel
theorem d10_19 : decode prog_86_method_10_code 19 = .ok (.aload 5, 2) := by decide +kernel
theorem d10_21 : decode prog_86_method_10_code 21 = .ok (.getfield 61, 3) := by decide +kernel
theorem d10_24 : decode prog_86_method_10_code 24 = .ok (.sipush 128, 3) := by decide +kernel
theorem d10_27 : decode prog_86_method_10_code 27 = .ok (.if_icmp .ge 20, 3) := by decide +kernel
theorem d10_30 : decode prog_86_method_10_code 30 = .ok (.aload 5, 2) := by decide +kernel
theorem d10_32 : decode prog_86_method_10_code 32 = .ok (.iload 4, 2) := by decide +kernel
theorem d10_34 : decode prog_86_method_10_code 34 = .ok (.aload_n 0, 1) := by decide +kernel
theorem d10_35 : decode prog_86_method_10_code 35 = .ok (.getfield 12, 3) := by decide +kernel
theorem d10_38 : decode prog_86_method_10_code 38 = .ok (.invokevirtual 75, 3) := by decide +kernel
theorem d10_41 : decode prog_86_method_10_code 41 = .ok (.lload_n 1, 1) := by decide +kernel
theorem d10_42 : decode prog_86_method_10_code 42 = .ok (.lstore 6, 2) := by decide +kernel
theorem d10_44 : decode prog_86_method_10_code 44 = .ok (.goto 190, 3) := by decide +kernel
theorem d10_234 : decode prog_86_method_10_code 234 = .ok (.lload 6, 2) := by decide +kernel
theorem d10_236 : decode prog_86_method_10_code 236 = .ok (.lreturn, 1) := by decide +kernel
theorem pn_10 : plainName "com/example/kerros/kerros/store/SortedChunks" = true := by first | (simp [plainName, overriddenIn]; done) | decide +kernel
theorem pd_10_0 : parseMethodDescriptor "(J)I" = some ⟨[.long], some .int⟩ := by decide +kernel
theorem pd_10_1 : parseMethodDescriptor "(II)V" = some ⟨[.int, .int], none⟩ := by decide +kernel
theorem ef_rm10w1 (m : MethodId) (a1 : Addr) (i : Nat) : entryFrame m #[(.ref a1), (.long (Int64.ofNat i))] 9 = mkF m 0 #[.val (.ref a1), .val (.long (Int64.ofNat i)), .second, .unset, .unset, .unset, .unset, .unset, .unset] [] := by first | (simp [entryFrame, mkF, argsToLocals, Value.category]; done) | rfl
def Q10w1 (Z : State) (a1 : Addr) (i : Nat) (ca ck wa : Addr) (kc kw : ClassId) (sz cb : Nat) (h0 : Heap) (n0 : Nat) (v : Option Value) (h : Heap) (L : List Loc) : Prop := ∃ (wa' : Addr) (kw' : ClassId) (d' : Nat), v = some (.long (Int64.ofNat i)) ∧ Fr n0 L ∧ Keep h0 h [ck, wa] ∧ (wa' = wa ∨ h0.size ≤ wa') ∧ Fld Z h ck "com/example/kerros/kerros/store/SortedChunks$Chunk" "words" "[J" (.ref wa') ∧ Fld Z h ck "com/example/kerros/kerros/store/SortedChunks$Chunk" "size" "I" (.int (Int32.ofNat (sz + 1))) ∧ LA Z h wa' kw' (d' * 1) ∧ Exa Z h wa' "[J" ∧ sz + 1 ≤ d' ∧ d' ≤ 5
set_option maxRecDepth 65536 in
set_option maxHeartbeats 40000000 in
theorem rm10w1 (l : Launch) (Z : State) (a0 : Array Value) (hw : ∀ d ∈ tables_1, d.before a0 Z = true) (ws : List Jvm.Cond) (a1 : Addr) (i : Nat) (ca ck wa : Addr) (kc kw : ClassId) (sz cb : Nat) (h0 : Heap) (n0 : Nat) (Z0 : n0 ≤ h0.size) (F1 : Fld Z h0 a1 "com/example/kerros/kerros/store/SortedChunks" "width" "I" (.int (1 : Int32))) (F2 : Fld Z h0 a1 "com/example/kerros/kerros/store/SortedChunks" "used" "I" (.int (1 : Int32))) (F3 : Fld Z h0 a1 "com/example/kerros/kerros/store/SortedChunks" "chunks" "[Lcom/example/kerros/kerros/store/SortedChunks$Chunk;" (.ref ca)) (VC : Arv Z h0 ca kc (.object "com/example/kerros/kerros/store/SortedChunks$Chunk") (1 : Int32) [(.ref ck)] .null) (E : Exa Z h0 ck "com/example/kerros/kerros/store/SortedChunks$Chunk") (F4 : Fld Z h0 ck "com/example/kerros/kerros/store/SortedChunks$Chunk" "words" "[J" (.ref wa)) (F5 : Fld Z h0 ck "com/example/kerros/kerros/store/SortedChunks$Chunk" "size" "I" (.int (Int32.ofNat sz))) (VL : LA Z h0 wa kw (cb * 1)) (EL : Exa Z h0 wa "[J") (ne1 : a1 ≠ ck) (ne2 : a1 ≠ wa) (ne3 : ca ≠ ck) (ne4 : ca ≠ wa) (ne5 : ck ≠ wa) (g_ck : n0 ≤ ck) (g_wa : n0 ≤ wa) (hsc : sz ≤ cb) (hc5 : cb ≤ 5) (hi : i ≤ sz) (hs3 : sz ≤ 3) :
    MetFree l (⟨"com/example/kerros/kerros/store/SortedChunks", "insert", "(J)J"⟩ : MethodName) (head1 (Jvm.Cond.code (⟨"com/example/kerros/kerros/store/SortedChunks", "insert", "(J)J"⟩ : MethodName) prog_86_method_10_code 9 (some .long) :: ws) ({ frames := 3, cells := 1, slots := 12, locals := 90 } : Room)) (fun a U => a = #[(.ref a1), (.long (Int64.ofNat i))] ∧ Z.Warmed39 U.vm ∧ U.heap = h0) (fun _ _ _ _ _ => True) (fun _ U o U' => ∃ v L, o = .returned v ∧ Q10w1 Z a1 i ca ck wa kc kw sz cb h0 n0 v U'.heap L ∧ FrameEnd U o U' L ({ frames := 3, cells := 1, slots := 12, locals := 90 } : Room).cells ({ frames := 3, cells := 1, slots := 12, locals := 90 } : Room).slots) := by
  refine MetFree.of_bodySF (plainFor_of_name pn_10) hisR ?_
  intro p e s m args below meth c s₁ Bd hml0 hP hK
  obtain ⟨rfl, hZ, hh⟩ := hP
  have hx := Bd.exec
  have hby := Bd.bytes
  have hml : c.maxLocals = 9 := hml0
  have hown : s.vm.findClass "com/example/kerros/kerros/store/SortedChunks" = some m.cls := findClass_of_methodNamed Bd.named
  have hnm := (name_of_methodNamed Bd.named Bd.method).1
  have X0 : Stand p l e ({ frames := 3, cells := 1, slots := 12, locals := 90 } : Room) s m #[(.ref a1), (.long (Int64.ofNat i))] below meth c s₁ [] 0 0 := Stand.of_body Bd
  have e0 : s₁.heap = h0 := by rw [← hh, Bd.state]; rfl
  have N0 := Fr.nil n0
  obtain ⟨G, hG⟩ : ∃ G : State → Prop, G = OwnG p e below s ({ frames := 3, cells := 1, slots := 12, locals := 90 } : Room).cells ({ frames := 3, cells := 1, slots := 12, locals := 90 } : Room).slots (Q10w1 Z a1 i ca ck wa kc kw sz cb h0 n0) := ⟨_, rfl⟩
  have go : ∀ {A B : State}, (∀ t, Steps p.tables e below A t → Steps p.tables e below B t) → G A → G B := fun h k => by rw [hG] at k ⊢; exact OwnG.go h k
  suffices k0 : G (s₁.setTop (mkF m 0 #[.val (.ref a1), .val (.long (Int64.ofNat i)), .second, .unset, .unset, .unset, .unset, .unset, .unset] [])) by
    rw [hG] at k0; exact OwnG.go (fun t k => castTop (ef_rm10w1 m a1 i) k) k0
  have K0 : Keep h0 h0 [ck, wa] := Keep.refl _ _
  refine go (fun _ k => XS.lloadN X0.here hx rfl (hb hby d10_0) rfl k) ?_
  show G (s₁.setTop (mkF m 1 #[.val (.ref a1), .val (.long (Int64.ofNat i)), .second, .unset, .unset, .unset, .unset, .unset, .unset] [(.long (Int64.ofNat i))]))
  obtain ⟨_, _, ⟨T1, L1, k1, n1⟩, -, X1, ⟨Lc1, hQ1, l1, y1, z1⟩, st1⟩ := Jvm.LawKit.callS X0 hx (y := (⟨"com/example/kerros/kerros/store/SortedChunks", "chunkOf", "(J)I"⟩ : MethodName)) hown (mvT hZ (hw _ (List.mem_of_getElem? (i := 65) rfl))) (mvT hZ (hw _ (List.mem_of_getElem? (i := 66) rfl))) (mvT hZ (hw _ (List.mem_of_getElem? (i := 6) rfl))) (mvT hZ (hw _ (List.mem_of_getElem? (i := 67) rfl))) (by decide) (backOf (W := 0) (rm11 l Z a0 hw [] i h0 n0 Z0 (by omega)) hZ (hw _ (List.mem_of_getElem? (i := 67) rfl)) (hw _ (List.mem_of_getElem? (i := 6) rfl)) (by decide) (by decide)) (g := (mkF m 1 #[.val (.ref a1), .val (.long (Int64.ofNat i)), .second, .unset, .unset, .unset, .unset, .unset, .unset] [(.long (Int64.ofNat i))])) rfl (by rw [hml]; rfl) (argsL := [(.long (Int64.ofNat i))]) (rest := []) (lenOf pd_10_0 rfl) rfl (by show 2 * 0 + _ ≤ _; exact Nat.le_of_eq rfl) (hb hby d10_1) (fun _ _ => ⟨rfl, e0, (by decide : 0 + 0 ≤ _), (by decide : 0 + 0 ≤ _)⟩)
  dsimp only [Pt.U, Pt.locs, Pt.cells, Pt.slots] at X1 l1 y1 z1 st1 hQ1
  subst l1 y1 z1
  obtain ⟨rfl, N1q, e1⟩ := hQ1
  have N1 := Fr.app N0 N1q
  refine go st1 ?_
  show G (T1.setTop (mkF m 4 #[.val (.ref a1), .val (.long (Int64.ofNat i)), .second, .unset, .unset, .unset, .unset, .unset, .unset] [(.int (0 : Int32))]))
  refine go (fun _ k => XS.istoreN X1.here hx rfl (hb hby d10_4) rfl (l' := #[.val (.ref a1), .val (.long (Int64.ofNat i)), .second, .val (.int (0 : Int32)), .unset, .unset, .unset, .unset, .unset]) rfl k) ?_
  show G (T1.setTop (mkF m 5 #[.val (.ref a1), .val (.long (Int64.ofNat i)), .second, .val (.int (0 : Int32)), .unset, .unset, .unset, .unset, .unset] []))
  refine go (fun _ k => XS.lloadN X1.here hx rfl (hb hby d10_5) rfl k) ?_
  show G (T1.setTop (mkF m 6 #[.val (.ref a1), .val (.long (Int64.ofNat i)), .second, .val (.int (0 : Int32)), .unset, .unset, .unset, .unset, .unset] [(.long (Int64.ofNat i))]))
  obtain ⟨_, _, ⟨T2, L2, k2, n2⟩, -, X2, ⟨Lc2, hQ2, l2, y2, z2⟩, st2⟩ := Jvm.LawKit.callS X1 hx (y := (⟨"com/example/kerros/kerros/store/SortedChunks", "indexOf", "(J)I"⟩ : MethodName)) hown (mvT hZ (hw _ (List.mem_of_getElem? (i := 68) rfl))) (mvT hZ (hw _ (List.mem_of_getElem? (i := 69) rfl))) (mvT hZ (hw _ (List.mem_of_getElem? (i := 6) rfl))) (mvT hZ (hw _ (List.mem_of_getElem? (i := 70) rfl))) (by decide) (backOf (W := 0) (rm12 l Z a0 hw [] i h0 n0 Z0 (by omega)) hZ (hw _ (List.mem_of_getElem? (i := 70) rfl)) (hw _ (List.mem_of_getElem? (i := 6) rfl)) (by decide) (by decide)) (g := (mkF m 6 #[.val (.ref a1), .val (.long (Int64.ofNat i)), .second, .val (.int (0 : Int32)), .unset, .unset, .unset, .unset, .unset] [(.long (Int64.ofNat i))])) rfl (by rw [hml]; rfl) (argsL := [(.long (Int64.ofNat i))]) (rest := []) (lenOf pd_10_0 rfl) rfl (by show 2 * 0 + _ ≤ _; exact Nat.le_of_eq rfl) (hb hby d10_6) (fun _ _ => ⟨rfl, e1, (by decide : 0 + 0 ≤ _), (by decide : 0 + 0 ≤ _)⟩)
  dsimp only [Pt.U, Pt.locs, Pt.cells, Pt.slots] at X2 l2 y2 z2 st2 hQ2
  subst l2 y2 z2
  obtain ⟨rfl, N2q, e2⟩ := hQ2
  have N2 := Fr.app N1 N2q
  refine go st2 ?_
  show G (T2.setTop (mkF m 9 #[.val (.ref a1), .val (.long (Int64.ofNat i)), .second, .val (.int (0 : Int32)), .unset, .unset, .unset, .unset, .unset] [(.int (Int32.ofNat i))]))
  refine go (fun _ k => XS.istore X2.here hx rfl (hb hby d10_9) rfl (l' := #[.val (.ref a1), .val (.long (Int64.ofNat i)), .second, .val (.int (0 : Int32)), .val (.int (Int32.ofNat i)), .unset, .unset, .unset, .unset]) rfl k) ?_
  show G (T2.setTop (mkF m 11 #[.val (.ref a1), .val (.long (Int64.ofNat i)), .second, .val (.int (0 : Int32)), .val (.int (Int32.ofNat i)), .unset, .unset, .unset, .unset] []))
  refine go (fun _ k => XS.aloadN X2.here hx rfl (hb hby d10_11) rfl rfl k) ?_
  show G (T2.setTop (mkF m 12 #[.val (.ref a1), .val (.long (Int64.ofNat i)), .second, .val (.int (0 : Int32)), .val (.int (Int32.ofNat i)), .unset, .unset, .unset, .unset] [(.ref a1)]))
  obtain ⟨T3, X3, e3, st3⟩ := getF X2 hx hZ hown (host := "") (Or.inl (hw _ (List.mem_of_getElem? (i := 23) rfl))) Via.refl e2 F3 (g := (mkF m 12 #[.val (.ref a1), .val (.long (Int64.ofNat i)), .second, .val (.int (0 : Int32)), .val (.int (Int32.ofNat i)), .unset, .unset, .unset, .unset] [(.ref a1)])) rfl rfl (hb hby d10_12)
  refine go st3 ?_
  show G (T3.setTop (mkF m 15 #[.val (.ref a1), .val (.long (Int64.ofNat i)), .second, .val (.int (0 : Int32)), .val (.int (Int32.ofNat i)), .unset, .unset, .unset, .unset] [(.ref ca)]))
  refine go (fun _ k => XS.iloadN X3.here hx rfl (hb hby d10_15) rfl k) ?_
  show G (T3.setTop (mkF m 16 #[.val (.ref a1), .val (.long (Int64.ofNat i)), .second, .val (.int (0 : Int32)), .val (.int (Int32.ofNat i)), .unset, .unset, .unset, .unset] [(.int (0 : Int32)), (.ref ca)]))
  obtain ⟨cl4, Ar4, qk4, qs4, qn4, qh4, qg4⟩ := id VC
  refine go (X3.aaload hx (j := (0 : Int32)) (v := (.ref ck)) (by rw [e3]; exact Ar4.1) (State.isArrayOf_alike hZ.alike Ar4.2.1) rfl Ar4.2.2 (inb_of qs4 ⟨by decide, by decide⟩) (Has.at qh4 (inb_of qs4 ⟨by decide, by decide⟩) rfl) (g := (mkF m 16 #[.val (.ref a1), .val (.long (Int64.ofNat i)), .second, .val (.int (0 : Int32)), .val (.int (Int32.ofNat i)), .unset, .unset, .unset, .unset] [(.int (0 : Int32)), (.ref ca)])) rfl rfl (hb hby d10_16)) ?_
  show G (T3.setTop (mkF m 17 #[.val (.ref a1), .val (.long (Int64.ofNat i)), .second, .val (.int (0 : Int32)), .val (.int (Int32.ofNat i)), .unset, .unset, .unset, .unset] [(.ref ck)]))
  refine go (fun _ k => XS.astore X3.here hx rfl (hb hby d10_17) rfl rfl (l' := #[.val (.ref a1), .val (.long (Int64.ofNat i)), .second, .val (.int (0 : Int32)), .val (.int (Int32.ofNat i)), .val (.ref ck), .unset, .unset, .unset]) rfl k) ?_
  show G (T3.setTop (mkF m 19 #[.val (.ref a1), .val (.long (Int64.ofNat i)), .second, .val (.int (0 : Int32)), .val (.int (Int32.ofNat i)), .val (.ref ck), .unset, .unset, .unset] []))
  refine go (fun _ k => XS.aload X3.here hx rfl (hb hby d10_19) rfl rfl k) ?_
  show G (T3.setTop (mkF m 21 #[.val (.ref a1), .val (.long (Int64.ofNat i)), .second, .val (.int (0 : Int32)), .val (.int (Int32.ofNat i)), .val (.ref ck), .unset, .unset, .unset] [(.ref ck)]))
  refine go (own_getR X3 hx hZ hown (hw _ (List.mem_of_getElem? (i := 59) rfl)) e3 F5 (g := (mkF m 21 #[.val (.ref a1), .val (.long (Int64.ofNat i)), .second, .val (.int (0 : Int32)), .val (.int (Int32.ofNat i)), .val (.ref ck), .unset, .unset, .unset] [(.ref ck)])) rfl rfl (hb hby d10_21)) ?_
  show G (T3.setTop (mkF m 24 #[.val (.ref a1), .val (.long (Int64.ofNat i)), .second, .val (.int (0 : Int32)), .val (.int (Int32.ofNat i)), .val (.ref ck), .unset, .unset, .unset] [(.int (Int32.ofNat sz))]))
  refine go (fun _ k => XS.sipush X3.here hx rfl (hb hby d10_24) k) ?_
  show G (T3.setTop (mkF m 27 #[.val (.ref a1), .val (.long (Int64.ofNat i)), .second, .val (.int (0 : Int32)), .val (.int (Int32.ofNat i)), .val (.ref ck), .unset, .unset, .unset] [(.int (128 : Int32)), (.int (Int32.ofNat sz))]))
  have hc6 : (Int32.ofNat sz) < (128 : Int32) := (own_onlt (x := sz) (y := 128) (by omega) (by omega)).mpr (by omega)
  refine go (fun _ k => XS.icmpNo X3.here hx rfl (hb hby d10_27) rfl (tlt hc6).2.1 k) ?_
  show G (T3.setTop (mkF m 30 #[.val (.ref a1), .val (.long (Int64.ofNat i)), .second, .val (.int (0 : Int32)), .val (.int (Int32.ofNat i)), .val (.ref ck), .unset, .unset, .unset] []))
  refine go (fun _ k => XS.aload X3.here hx rfl (hb hby d10_30) rfl rfl k) ?_
  show G (T3.setTop (mkF m 32 #[.val (.ref a1), .val (.long (Int64.ofNat i)), .second, .val (.int (0 : Int32)), .val (.int (Int32.ofNat i)), .val (.ref ck), .unset, .unset, .unset] [(.ref ck)]))
  refine go (fun _ k => XS.iload X3.here hx rfl (hb hby d10_32) rfl k) ?_
  show G (T3.setTop (mkF m 34 #[.val (.ref a1), .val (.long (Int64.ofNat i)), .second, .val (.int (0 : Int32)), .val (.int (Int32.ofNat i)), .val (.ref ck), .unset, .unset, .unset] [(.int (Int32.ofNat i)), (.ref ck)]))
  refine go (fun _ k => XS.aloadN X3.here hx rfl (hb hby d10_34) rfl rfl k) ?_
  show G (T3.setTop (mkF m 35 #[.val (.ref a1), .val (.long (Int64.ofNat i)), .second, .val (.int (0 : Int32)), .val (.int (Int32.ofNat i)), .val (.ref ck), .unset, .unset, .unset] [(.ref a1), (.int (Int32.ofNat i)), (.ref ck)]))
  obtain ⟨T7, X7, e7, st7⟩ := getF X3 hx hZ hown (host := "") (Or.inl (hw _ (List.mem_of_getElem? (i := 13) rfl))) Via.refl e3 F1 (g := (mkF m 35 #[.val (.ref a1), .val (.long (Int64.ofNat i)), .second, .val (.int (0 : Int32)), .val (.int (Int32.ofNat i)), .val (.ref ck), .unset, .unset, .unset] [(.ref a1), (.int (Int32.ofNat i)), (.ref ck)])) rfl rfl (hb hby d10_35)
  refine go st7 ?_
  show G (T7.setTop (mkF m 38 #[.val (.ref a1), .val (.long (Int64.ofNat i)), .second, .val (.int (0 : Int32)), .val (.int (Int32.ofNat i)), .val (.ref ck), .unset, .unset, .unset] [(.int (1 : Int32)), (.int (Int32.ofNat i)), (.ref ck)]))
  obtain ⟨cq8, qa8, qc8⟩ := E.cell
  obtain ⟨_, ⟨T8, L8, k8, n8⟩, X8, ⟨Lc8, hQ8, l8, y8, z8⟩, st8⟩ := own_privR X7 hx hZ (y := (⟨"com/example/kerros/kerros/store/SortedChunks$Chunk", "insert", "(II)V"⟩ : MethodName)) hown (hw _ (List.mem_of_getElem? (i := 72) rfl)) (hw _ (List.mem_of_getElem? (i := 73) rfl)) (hw _ (List.mem_of_getElem? (i := 74) rfl)) (hw _ (List.mem_of_getElem? (i := 28) rfl)) (hw _ (List.mem_of_getElem? (i := 75) rfl)) (by decide) (backOf (W := 0) (rm13w1 l Z a0 hw [] ck wa kw sz cb i h0 n0 Z0 E F4 F5 VL EL ne5 g_ck g_wa hsc hc5 (by omega) hs3) hZ (hw _ (List.mem_of_getElem? (i := 75) rfl)) (hw _ (List.mem_of_getElem? (i := 29) rfl)) (by decide) (by decide)) (g := (mkF m 38 #[.val (.ref a1), .val (.long (Int64.ofNat i)), .second, .val (.int (0 : Int32)), .val (.int (Int32.ofNat i)), .val (.ref ck), .unset, .unset, .unset] [(.int (1 : Int32)), (.int (Int32.ofNat i)), (.ref ck)])) rfl (by rw [hml]; rfl) (a := ck) (by rw [e7]; exact qa8) qc8 (argsL := [(.int (Int32.ofNat i)), (.int (1 : Int32))]) (rest := []) (lenOf pd_10_1 rfl) rfl (by show 2 * 0 + _ ≤ _; exact Nat.le_of_eq rfl) (hb hby d10_38) ⟨rfl, e7, (by decide : 0 + 1 ≤ _), (by decide : 0 + 12 ≤ _)⟩
  dsimp only [Pt.U, Pt.locs, Pt.cells, Pt.slots] at X8 l8 y8 z8 st8 hQ8
  subst l8 y8 z8
  obtain ⟨wx8, kx8, dx8, rfl, N8q, Kc8, c8_0, c8_1, c8_2, c8_3, c8_4, c8_5, c8_6⟩ := hQ8
  have ne_a1_wx8 : a1 ≠ wx8 := c8_0.elim (fun q => by rw [q]; exact ne2) (fun q => Nat.ne_of_lt (Nat.lt_of_lt_of_le F1.lt q))
  have ne_ca_wx8 : ca ≠ wx8 := c8_0.elim (fun q => by rw [q]; exact ne4) (fun q => Nat.ne_of_lt (Nat.lt_of_lt_of_le VC.lt q))
  have ne_ck_wx8 : ck ≠ wx8 := c8_0.elim (fun q => by rw [q]; exact ne5) (fun q => Nat.ne_of_lt (Nat.lt_of_lt_of_le E.lt q))
  have g_wx8 : n0 ≤ wx8 := c8_0.elim (fun q => by rw [q]; exact g_wa) (fun q => Nat.le_trans Z0 q)
  have f9 := F1.keep Kc8 (ninS ne1 (ninS ne2 nin0))
  have f10 := F2.keep Kc8 (ninS ne1 (ninS ne2 nin0))
  have f11 := F3.keep Kc8 (ninS ne1 (ninS ne2 nin0))
  have f12 := VC.keep Kc8 (ninS ne3 (ninS ne4 nin0))
  have f13 := E.keep Kc8
  have f14 := EL.keep Kc8
  have K8 : Keep h0 T8.heap [ck, wa] := K0.trans Kc8 (allS (P := fun x => x ∈ [ck, wa] ∨ h0.size ≤ x) (Or.inl (List.mem_of_getElem? (i := 0) rfl)) (allS (P := fun x => x ∈ [ck, wa] ∨ h0.size ≤ x) (Or.inl (List.mem_of_getElem? (i := 1) rfl)) all0))
  have Zs8 : n0 ≤ T8.heap.size := Nat.le_trans Z0 Kc8.1
  have N8 := Fr.app N2 N8q
  refine go (fun _ k => st8.trans k) ?_
  show G (T8.setTop (mkF m 41 #[.val (.ref a1), .val (.long (Int64.ofNat i)), .second, .val (.int (0 : Int32)), .val (.int (Int32.ofNat i)), .val (.ref ck), .unset, .unset, .unset] []))
  refine go (fun _ k => XS.lloadN X8.here hx rfl (hb hby d10_41) rfl k) ?_
  show G (T8.setTop (mkF m 42 #[.val (.ref a1), .val (.long (Int64.ofNat i)), .second, .val (.int (0 : Int32)), .val (.int (Int32.ofNat i)), .val (.ref ck), .unset, .unset, .unset] [(.long (Int64.ofNat i))]))
  refine go (fun _ k => XS.lstore X8.here hx rfl (hb hby d10_42) rfl (l' := #[.val (.ref a1), .val (.long (Int64.ofNat i)), .second, .val (.int (0 : Int32)), .val (.int (Int32.ofNat i)), .val (.ref ck), .val (.long (Int64.ofNat i)), .second, .unset]) rfl k) ?_
  show G (T8.setTop (mkF m 44 #[.val (.ref a1), .val (.long (Int64.ofNat i)), .second, .val (.int (0 : Int32)), .val (.int (Int32.ofNat i)), .val (.ref ck), .val (.long (Int64.ofNat i)), .second, .unset] []))
  refine go (fun _ k => XS.goto X8.here hx rfl (pc0 := 44) (pc' := 234) rfl (hb hby d10_44) (by decide) (by decide) k) ?_
  show G (T8.setTop (mkF m 234 #[.val (.ref a1), .val (.long (Int64.ofNat i)), .second, .val (.int (0 : Int32)), .val (.int (Int32.ofNat i)), .val (.ref ck), .val (.long (Int64.ofNat i)), .second, .unset] []))
  refine go (fun _ k => XS.lload X8.here hx rfl (hb hby d10_234) rfl k) ?_
  show G (T8.setTop (mkF m 236 #[.val (.ref a1), .val (.long (Int64.ofNat i)), .second, .val (.int (0 : Int32)), .val (.int (Int32.ofNat i)), .val (.ref ck), .val (.long (Int64.ofNat i)), .second, .unset] [(.long (Int64.ofNat i))]))
  rw [hG]
  refine own_fin X8 Bd.notSynchronized (v := some (.long (Int64.ofNat i))) (fun h => by rw [Bd.returns] at h; cases h) (fun fs hr => retOut X8 hx Bd.returns rfl (by simp [FieldType.isReference, Value.isRef]) (hb hby d10_236) hr) ?_ (by decide) (by decide)
  show Q10w1 Z a1 i ca ck wa kc kw sz cb h0 n0 (some (.long (Int64.ofNat i))) T8.heap _
  exact ⟨wx8, kx8, dx8, rfl, N8, K8, c8_0, c8_1, c8_2, c8_3, c8_4, c8_5, c8_6⟩

theorem d16_0 : decode prog_86_method_9_code 0 = .ok (.aload_n 0, 1) := by decide +kernel
theorem d16_1 : decode prog_86_method_9_code 1 = .ok (.getfield 27, 3) := by decide +kernel
theorem d16_4 : decode prog_86_method_9_code 4 = .ok (.lload_n 1, 1) := by decide +kernel
theorem d16_5 : decode prog_86_method_9_code 5 = .ok (.invokestatic 57, 3) := by decide +kernel
theorem d16_8 : decode prog_86_method_9_code 8 = .ok (.aaload, 1) := by decide +kernel
theorem d16_9 : decode prog_86_method_9_code 9 = .ok (.getfield 43, 3) := by decide +kernel
theorem d16_12 : decode prog_86_method_9_code 12 = .ok (.lload_n 1, 1) := by decide +kernel
theorem d16_13 : decode prog_86_method_9_code 13 = .ok (.invokestatic 72, 3) := by decide +kernel
theorem d16_16 : decode prog_86_method_9_code 16 = .ok (.aload_n 0, 1) := by decide +kernel
theorem d16_17 : decode prog_86_method_9_code 17 = .ok (.getfield 12, 3) := by decide +kernel
theorem d16_20 : decode prog_86_method_9_code 20 = .ok (.imul, 1) := by decide +kernel
theorem d16_21 : decode prog_86_method_9_code 21 = .ok (.iload_n 3, 1) := by decide +kernel
theorem d16_22 : decode prog_86_method_9_code 22 = .ok (.iadd, 1) := by decide +kernel
theorem d16_23 : decode prog_86_method_9_code 23 = .ok (.lload 4, 2) := by decide +kernel
theorem d16_25 : decode prog_86_method_9_code 25 = .ok (.lastore, 1) := by decide +kernel
theorem d16_26 : decode prog_86_method_9_code 26 = .ok (.return_, 1) := by decide +kernel
theorem pn_16 : plainName "com/example/kerros/kerros/store/SortedChunks" = true := by first | (simp [plainName, overriddenIn]; done) | decide +kernel
theorem pd_16_0 : parseMethodDescriptor "(J)I" = some ⟨[.long], some .int⟩ := by decide +kernel
theorem ef_rm16w1 (m : MethodId) (a1 : Addr) (q4 : Int64) (i : Nat) : entryFrame m #[(.ref a1), (.long (Int64.ofNat i)), (.int (0 : Int32)), (.long q4)] 6 = mkF m 0 #[.val (.ref a1), .val (.long (Int64.ofNat i)), .second, .val (.int (0 : Int32)), .val (.long q4), .second] [] := by first | (simp [entryFrame, mkF, argsToLocals, Value.category]; done) | rfl
def Q16w1 (Z : State) (a1 : Addr) (q4 : Int64) (i : Nat) (ca ck wa : Addr) (kc kw : ClassId) (sz cb : Nat) (h0 : Heap) (n0 : Nat) (v : Option Value) (h : Heap) (L : List Loc) : Prop := v = none ∧ Fr n0 L ∧ Keep h0 h [wa] ∧ LA Z h wa kw (cb * 1)
set_option maxRecDepth 65536 in
set_option maxHeartbeats 40000000 in
theorem rm16w1 (l : Launch) (Z : State) (a0 : Array Value) (hw : ∀ d ∈ tables_1, d.before a0 Z = true) (ws : List Jvm.Cond) (a1 : Addr) (q4 : Int64) (i : Nat) (ca ck wa : Addr) (kc kw : ClassId) (sz cb : Nat) (h0 : Heap) (n0 : Nat) (Z0 : n0 ≤ h0.size) (F1 : Fld Z h0 a1 "com/example/kerros/kerros/store/SortedChunks" "width" "I" (.int (1 : Int32))) (F2 : Fld Z h0 a1 "com/example/kerros/kerros/store/SortedChunks" "used" "I" (.int (1 : Int32))) (F3 : Fld Z h0 a1 "com/example/kerros/kerros/store/SortedChunks" "chunks" "[Lcom/example/kerros/kerros/store/SortedChunks$Chunk;" (.ref ca)) (VC : Arv Z h0 ca kc (.object "com/example/kerros/kerros/store/SortedChunks$Chunk") (1 : Int32) [(.ref ck)] .null) (E : Exa Z h0 ck "com/example/kerros/kerros/store/SortedChunks$Chunk") (F4 : Fld Z h0 ck "com/example/kerros/kerros/store/SortedChunks$Chunk" "words" "[J" (.ref wa)) (F5 : Fld Z h0 ck "com/example/kerros/kerros/store/SortedChunks$Chunk" "size" "I" (.int (Int32.ofNat sz))) (VL : LA Z h0 wa kw (cb * 1)) (EL : Exa Z h0 wa "[J") (ne1 : a1 ≠ ck) (ne2 : a1 ≠ wa) (ne3 : ca ≠ ck) (ne4 : ca ≠ wa) (ne5 : ck ≠ wa) (g_ck : n0 ≤ ck) (g_wa : n0 ≤ wa) (hsc : sz ≤ cb) (hc5 : cb ≤ 5) (hi : i < sz) :
    MetFree l (⟨"com/example/kerros/kerros/store/SortedChunks", "setWord", "(JIJ)V"⟩ : MethodName) (head1 (Jvm.Cond.code (⟨"com/example/kerros/kerros/store/SortedChunks", "setWord", "(JIJ)V"⟩ : MethodName) prog_86_method_9_code 6 none :: ws) ({ frames := 1, cells := 0, slots := 0, locals := 30 } : Room)) (fun a U => a = #[(.ref a1), (.long (Int64.ofNat i)), (.int (0 : Int32)), (.long q4)] ∧ Z.Warmed39 U.vm ∧ U.heap = h0) (fun _ _ _ _ _ => True) (fun _ U o U' => ∃ v L, o = .returned v ∧ Q16w1 Z a1 q4 i ca ck wa kc kw sz cb h0 n0 v U'.heap L ∧ FrameEnd U o U' L ({ frames := 1, cells := 0, slots := 0, locals := 30 } : Room).cells ({ frames := 1, cells := 0, slots := 0, locals := 30 } : Room).slots) := by
  refine MetFree.of_bodySF (plainFor_of_name pn_16) hisR ?_
  intro p e s m args below meth c s₁ Bd hml0 hP hK
  obtain ⟨rfl, hZ, hh⟩ := hP
  have hx := Bd.exec
  have hby := Bd.bytes
  have hml : c.maxLocals = 6 := hml0
  have hown : s.vm.findClass "com/example/kerros/kerros/store/SortedChunks" = some m.cls := findClass_of_methodNamed Bd.named
  have hnm := (name_of_methodNamed Bd.named Bd.method).1
  have X0 : Stand p l e ({ frames := 1, cells := 0, slots := 0, locals := 30 } : Room) s m #[(.ref a1), (.long (Int64.ofNat i)), (.int (0 : Int32)), (.long q4)] below meth c s₁ [] 0 0 := Stand.of_body Bd
  have e0 : s₁.heap = h0 := by rw [← hh, Bd.state]; rfl
  have N0 := Fr.nil n0
  obtain ⟨G, hG⟩ : ∃ G : State → Prop, G = OwnG p e below s ({ frames := 1, cells := 0, slots := 0, locals := 30 } : Room).cells ({ frames := 1, cells := 0, slots := 0, locals := 30 } : Room).slots (Q16w1 Z a1 q4 i ca ck wa kc kw sz cb h0 n0) := ⟨_, rfl⟩
  have go : ∀ {A B : State}, (∀ t, Steps p.tables e below A t → Steps p.tables e below B t) → G A → G B := fun h k => by rw [hG] at k ⊢; exact OwnG.go h k
  suffices k0 : G (s₁.setTop (mkF m 0 #[.val (.ref a1), .val (.long (Int64.ofNat i)), .second, .val (.int (0 : Int32)), .val (.long q4), .second] [])) by
    rw [hG] at k0; exact OwnG.go (fun t k => castTop (ef_rm16w1 m a1 q4 i) k) k0
  have K0 : Keep h0 h0 [wa] := Keep.refl _ _
  refine go (fun _ k => XS.aloadN X0.here hx rfl (hb hby d16_0) rfl rfl k) ?_
  show G (s₁.setTop (mkF m 1 #[.val (.ref a1), .val (.long (Int64.ofNat i)), .second, .val (.int (0 : Int32)), .val (.long q4), .second] [(.ref a1)]))
  obtain ⟨T1, X1, e1, st1⟩ := getF X0 hx hZ hown (host := "") (Or.inl (hw _ (List.mem_of_getElem? (i := 23) rfl))) Via.refl e0 F3 (g := (mkF m 1 #[.val (.ref a1), .val (.long (Int64.ofNat i)), .second, .val (.int (0 : Int32)), .val (.long q4), .second] [(.ref a1)])) rfl rfl (hb hby d16_1)
  refine go st1 ?_
  show G (T1.setTop (mkF m 4 #[.val (.ref a1), .val (.long (Int64.ofNat i)), .second, .val (.int (0 : Int32)), .val (.long q4), .second] [(.ref ca)]))
  refine go (fun _ k => XS.lloadN X1.here hx rfl (hb hby d16_4) rfl k) ?_
  show G (T1.setTop (mkF m 5 #[.val (.ref a1), .val (.long (Int64.ofNat i)), .second, .val (.int (0 : Int32)), .val (.long q4), .second] [(.long (Int64.ofNat i)), (.ref ca)]))
  obtain ⟨_, _, ⟨T2, L2, k2, n2⟩, -, X2, ⟨Lc2, hQ2, l2, y2, z2⟩, st2⟩ := Jvm.LawKit.callS X1 hx (y := (⟨"com/example/kerros/kerros/store/SortedChunks", "chunkOf", "(J)I"⟩ : MethodName)) hown (mvT hZ (hw _ (List.mem_of_getElem? (i := 65) rfl))) (mvT hZ (hw _ (List.mem_of_getElem? (i := 66) rfl))) (mvT hZ (hw _ (List.mem_of_getElem? (i := 6) rfl))) (mvT hZ (hw _ (List.mem_of_getElem? (i := 67) rfl))) (by decide) (backOf (W := 1) (rm11 l Z a0 hw [] i h0 n0 Z0 (by omega)) hZ (hw _ (List.mem_of_getElem? (i := 67) rfl)) (hw _ (List.mem_of_getElem? (i := 6) rfl)) (by decide) (by decide)) (g := (mkF m 5 #[.val (.ref a1), .val (.long (Int64.ofNat i)), .second, .val (.int (0 : Int32)), .val (.long q4), .second] [(.long (Int64.ofNat i)), (.ref ca)])) rfl (by rw [hml]; rfl) (argsL := [(.long (Int64.ofNat i))]) (rest := [(.ref ca)]) (lenOf pd_16_0 rfl) rfl (by show 2 * 0 + _ ≤ _; exact Nat.le_of_eq rfl) (hb hby d16_5) (fun _ _ => ⟨rfl, e1, (by decide : 0 + 0 ≤ _), (by decide : 0 + 0 ≤ _)⟩)
  dsimp only [Pt.U, Pt.locs, Pt.cells, Pt.slots] at X2 l2 y2 z2 st2 hQ2
  subst l2 y2 z2
  obtain ⟨rfl, N2q, e2⟩ := hQ2
  have N2 := Fr.app N0 N2q
  refine go st2 ?_
  show G (T2.setTop (mkF m 8 #[.val (.ref a1), .val (.long (Int64.ofNat i)), .second, .val (.int (0 : Int32)), .val (.long q4), .second] [(.int (0 : Int32)), (.ref ca)]))
  obtain ⟨cl3, Ar3, qk3, qs3, qn3, qh3, qg3⟩ := id VC
  refine go (X2.aaload hx (j := (0 : Int32)) (v := (.ref ck)) (by rw [e2]; exact Ar3.1) (State.isArrayOf_alike hZ.alike Ar3.2.1) rfl Ar3.2.2 (inb_of qs3 ⟨by decide, by decide⟩) (Has.at qh3 (inb_of qs3 ⟨by decide, by decide⟩) rfl) (g := (mkF m 8 #[.val (.ref a1), .val (.long (Int64.ofNat i)), .second, .val (.int (0 : Int32)), .val (.long q4), .second] [(.int (0 : Int32)), (.ref ca)])) rfl rfl (hb hby d16_8)) ?_
  show G (T2.setTop (mkF m 9 #[.val (.ref a1), .val (.long (Int64.ofNat i)), .second, .val (.int (0 : Int32)), .val (.long q4), .second] [(.ref ck)]))
  refine go (own_getR X2 hx hZ hown (hw _ (List.mem_of_getElem? (i := 91) rfl)) e2 F4 (g := (mkF m 9 #[.val (.ref a1), .val (.long (Int64.ofNat i)), .second, .val (.int (0 : Int32)), .val (.long q4), .second] [(.ref ck)])) rfl rfl (hb hby d16_9)) ?_
  show G (T2.setTop (mkF m 12 #[.val (.ref a1), .val (.long (Int64.ofNat i)), .second, .val (.int (0 : Int32)), .val (.long q4), .second] [(.ref wa)]))
  refine go (fun _ k => XS.lloadN X2.here hx rfl (hb hby d16_12) rfl k) ?_
  show G (T2.setTop (mkF m 13 #[.val (.ref a1), .val (.long (Int64.ofNat i)), .second, .val (.int (0 : Int32)), .val (.long q4), .second] [(.long (Int64.ofNat i)), (.ref wa)]))
  obtain ⟨_, _, ⟨T5, L5, k5, n5⟩, -, X5, ⟨Lc5, hQ5, l5, y5, z5⟩, st5⟩ := Jvm.LawKit.callS X2 hx (y := (⟨"com/example/kerros/kerros/store/SortedChunks", "indexOf", "(J)I"⟩ : MethodName)) hown (mvT hZ (hw _ (List.mem_of_getElem? (i := 68) rfl))) (mvT hZ (hw _ (List.mem_of_getElem? (i := 69) rfl))) (mvT hZ (hw _ (List.mem_of_getElem? (i := 6) rfl))) (mvT hZ (hw _ (List.mem_of_getElem? (i := 70) rfl))) (by decide) (backOf (W := 1) (rm12 l Z a0 hw [] i h0 n0 Z0 (by omega)) hZ (hw _ (List.mem_of_getElem? (i := 70) rfl)) (hw _ (List.mem_of_getElem? (i := 6) rfl)) (by decide) (by decide)) (g := (mkF m 13 #[.val (.ref a1), .val (.long (Int64.ofNat i)), .second, .val (.int (0 : Int32)), .val (.long q4), .second] [(.long (Int64.ofNat i)), (.ref wa)])) rfl (by rw [hml]; rfl) (argsL := [(.long (Int64.ofNat i))]) (rest := [(.ref wa)]) (lenOf pd_16_0 rfl) rfl (by show 2 * 0 + _ ≤ _; exact Nat.le_of_eq rfl) (hb hby d16_13) (fun _ _ => ⟨rfl, e2, (by decide : 0 + 0 ≤ _), (by decide : 0 + 0 ≤ _)⟩)
  dsimp only [Pt.U, Pt.locs, Pt.cells, Pt.slots] at X5 l5 y5 z5 st5 hQ5
  subst l5 y5 z5
  obtain ⟨rfl, N5q, e5⟩ := hQ5
  have N5 := Fr.app N2 N5q
  refine go st5 ?_
  show G (T5.setTop (mkF m 16 #[.val (.ref a1), .val (.long (Int64.ofNat i)), .second, .val (.int (0 : Int32)), .val (.long q4), .second] [(.int (Int32.ofNat i)), (.ref wa)]))
  refine go (fun _ k => XS.aloadN X5.here hx rfl (hb hby d16_16) rfl rfl k) ?_
  show G (T5.setTop (mkF m 17 #[.val (.ref a1), .val (.long (Int64.ofNat i)), .second, .val (.int (0 : Int32)), .val (.long q4), .second] [(.ref a1), (.int (Int32.ofNat i)), (.ref wa)]))
  obtain ⟨T6, X6, e6, st6⟩ := getF X5 hx hZ hown (host := "") (Or.inl (hw _ (List.mem_of_getElem? (i := 13) rfl))) Via.refl e5 F1 (g := (mkF m 17 #[.val (.ref a1), .val (.long (Int64.ofNat i)), .second, .val (.int (0 : Int32)), .val (.long q4), .second] [(.ref a1), (.int (Int32.ofNat i)), (.ref wa)])) rfl rfl (hb hby d16_17)
  refine go st6 ?_
  show G (T6.setTop (mkF m 20 #[.val (.ref a1), .val (.long (Int64.ofNat i)), .second, .val (.int (0 : Int32)), .val (.long q4), .second] [(.int (1 : Int32)), (.int (Int32.ofNat i)), (.ref wa)]))
  refine go (fun _ k => XS.imul X6.here hx rfl (hb hby d16_20) rfl k) ?_
  show G (T6.setTop (mkF m 21 #[.val (.ref a1), .val (.long (Int64.ofNat i)), .second, .val (.int (0 : Int32)), .val (.long q4), .second] [(.int ((Int32.ofNat i) * (1 : Int32))), (.ref wa)]))
  rw [show ((Int32.ofNat i) * (1 : Int32)) = (Int32.ofNat (i * 1)) from own_onmul i 1]
  show G (T6.setTop (mkF m 21 #[.val (.ref a1), .val (.long (Int64.ofNat i)), .second, .val (.int (0 : Int32)), .val (.long q4), .second] [(.int (Int32.ofNat (i * 1))), (.ref wa)]))
  refine go (fun _ k => XS.iloadN X6.here hx rfl (hb hby d16_21) rfl k) ?_
  show G (T6.setTop (mkF m 22 #[.val (.ref a1), .val (.long (Int64.ofNat i)), .second, .val (.int (0 : Int32)), .val (.long q4), .second] [(.int (0 : Int32)), (.int (Int32.ofNat (i * 1))), (.ref wa)]))
  refine go (fun _ k => XS.iadd X6.here hx rfl (hb hby d16_22) rfl k) ?_
  show G (T6.setTop (mkF m 23 #[.val (.ref a1), .val (.long (Int64.ofNat i)), .second, .val (.int (0 : Int32)), .val (.long q4), .second] [(.int ((Int32.ofNat (i * 1)) + (0 : Int32))), (.ref wa)]))
  rw [show ((Int32.ofNat (i * 1)) + (0 : Int32)) = (Int32.ofNat ((i * 1) + 0)) from own_onadd (i * 1) 0]
  show G (T6.setTop (mkF m 23 #[.val (.ref a1), .val (.long (Int64.ofNat i)), .second, .val (.int (0 : Int32)), .val (.long q4), .second] [(.int (Int32.ofNat ((i * 1) + 0))), (.ref wa)]))
  refine go (fun _ k => XS.lload X6.here hx rfl (hb hby d16_23) rfl k) ?_
  show G (T6.setTop (mkF m 25 #[.val (.ref a1), .val (.long (Int64.ofNat i)), .second, .val (.int (0 : Int32)), .val (.long q4), .second] [(.long q4), (.int (Int32.ofNat ((i * 1) + 0))), (.ref wa)]))
  obtain ⟨vb7, lb7, VB7⟩ := id VL
  obtain ⟨cl8, Ar8, qk8, qs8, qn8, qh8, qg8⟩ := id VB7
  obtain ⟨T8, h8, X8, e8, W8, st8⟩ := stJ X6 hx hZ e6 Ar8 (j := (Int32.ofNat ((i * 1) + 0))) (inb_of qs8 ⟨own_onnn ((i * 1) + 0) (by omega), (own_onlt (by omega) (by omega)).mpr (by omega)⟩) (g := (mkF m 25 #[.val (.ref a1), .val (.long (Int64.ofNat i)), .second, .val (.int (0 : Int32)), .val (.long q4), .second] [(.long q4), (.int (Int32.ofNat ((i * 1) + 0))), (.ref wa)])) rfl rfl (hb hby d16_25)
  have V8 : Arv Z h8 wa kw .long (Int32.ofNat (cb * 1)) (vb7.set (((i * 1) + 0)) (.long q4)) (.long (0 : Int64)) := Arv.set Ar8 qk8 qs8 qn8 qh8 qg8 rfl W8 (((i * 1) + 0)) (own_onnat _ (by omega)) (by rw [lb7]; omega)
  have f9 := F1.other W8 (Or.inl ne2)
  have f10 := F2.other W8 (Or.inl ne2)
  have f11 := F3.other W8 (Or.inl ne2)
  have f12 := VC.other W8 ne4
  have f13 := E.wr W8
  have f14 := F4.other W8 (Or.inl ne5)
  have f15 := F5.other W8 (Or.inl ne5)
  have f16 := EL.wr W8
  have K8 : Keep h0 h8 [wa] := K0.wr W8 (Or.inl (List.mem_of_getElem? (i := 0) rfl))
  have Zs8 : n0 ≤ h8.size := Nat.le_trans Z0 (Keep.of_wr W8).1
  have N8 := Fr.snoc X8 N5 g_wa
  have V8b : LA Z h8 wa kw (cb * 1) := ⟨_, by rw [List.length_set]; exact lb7, V8⟩
  refine go st8 ?_
  show G (T8.setTop (mkF m 26 #[.val (.ref a1), .val (.long (Int64.ofNat i)), .second, .val (.int (0 : Int32)), .val (.long q4), .second] []))
  rw [hG]
  refine own_fin X8 Bd.notSynchronized (v := none) (fun _ => rfl) (fun fs hr => X8.returnOut hx Bd.returns (hb hby d16_26) hr) ?_ (by decide) (by decide)
  show Q16w1 Z a1 q4 i ca ck wa kc kw sz cb h0 n0 (none) T8.heap _
  rw [e8]
  exact ⟨rfl, N8, K8, V8b⟩

theorem ef_rm1w2 (m : MethodId) (a1 : Addr) (a3 : Addr) (n : Nat) : entryFrame m #[(.ref a1), (.int (2 : Int32)), (.ref a3), (.int (Int32.ofNat n))] 8 = mkF m 0 #[.val (.ref a1), .val (.int (2 : Int32)), .val (.ref a3), .val (.int (Int32.ofNat n)), .unset, .unset, .unset, .unset] [] := by first | (simp [entryFrame, mkF, argsToLocals, Value.category]; done) | rfl
def Q1w2 (Z : State) (a1 : Addr) (a3 : Addr) (n : Nat) (kw0 : ClassId) (h0 : Heap) (n0 : Nat) (v : Option Value) (h : Heap) (L : List Loc) : Prop := ∃ (ca ck wa : Addr) (kc kw : ClassId) (cb : Nat), v = none ∧ Fr n0 L ∧ Keep h0 h [a1] ∧ h0.size ≤ ca ∧ h0.size ≤ ck ∧ h0.size ≤ wa ∧ ca ≠ ck ∧ ca ≠ wa ∧ ck ≠ wa ∧ Fld Z h a1 "com/example/kerros/kerros/store/SortedChunks" "width" "I" (.int (2 : Int32)) ∧ Fld Z h a1 "com/example/kerros/kerros/store/SortedChunks" "used" "I" (.int (1 : Int32)) ∧ Fld Z h a1 "com/example/kerros/kerros/store/SortedChunks" "chunks" "[Lcom/example/kerros/kerros/store/SortedChunks$Chunk;" (.ref ca) ∧ Arv Z h ca kc (.object "com/example/kerros/kerros/store/SortedChunks$Chunk") (1 : Int32) [(.ref ck)] .null ∧ Exa Z h ck "com/example/kerros/kerros/store/SortedChunks$Chunk" ∧ Fld Z h ck "com/example/kerros/kerros/store/SortedChunks$Chunk" "words" "[J" (.ref wa) ∧ Fld Z h ck "com/example/kerros/kerros/store/SortedChunks$Chunk" "size" "I" (.int (Int32.ofNat n)) ∧ LA Z h wa kw (cb * 2) ∧ Exa Z h wa "[J" ∧ n ≤ cb ∧ cb ≤ 3
set_option maxRecDepth 65536 in
set_option maxHeartbeats 40000000 in
theorem rm1w2 (l : Launch) (Z : State) (a0 : Array Value) (hw : ∀ d ∈ tables_1, d.before a0 Z = true) (ws : List Jvm.Cond) (a1 : Addr) (a3 : Addr) (n : Nat) (kw0 : ClassId) (h0 : Heap) (n0 : Nat) (Z0 : n0 ≤ h0.size) (hn : n ≤ 3) (F1 : Fld Z h0 a1 "com/example/kerros/kerros/store/SortedChunks" "width" "I" (.int (0 : Int32))) (F2 : Fld Z h0 a1 "com/example/kerros/kerros/store/SortedChunks" "used" "I" (.int (0 : Int32))) (F3 : Fld Z h0 a1 "com/example/kerros/kerros/store/SortedChunks" "chunks" "[Lcom/example/kerros/kerros/store/SortedChunks$Chunk;" .null) (E : Exa Z h0 a1 "com/example/kerros/kerros/store/SortedChunks") (VW : LA Z h0 a3 kw0 6) (EW : Exa Z h0 a3 "[J") (ne13 : a1 ≠ a3) (g_a1 : n0 ≤ a1) :
    MetFree l (⟨"com/example/kerros/kerros/store/SortedChunks", "<init>", "(I[JI)V"⟩ : MethodName) (head1 (Jvm.Cond.code (⟨"com/example/kerros/kerros/store/SortedChunks", "<init>", "(I[JI)V"⟩ : MethodName) prog_86_method_2_code 8 none :: ws) ({ frames := 3, cells := 3, slots := 15, locals := 90 } : Room)) (fun a U => a = #[(.ref a1), (.int (2 : Int32)), (.ref a3), (.int (Int32.ofNat n))] ∧ Z.Warmed39 U.vm ∧ U.heap = h0) (fun _ _ _ _ _ => True) (fun _ U o U' => ∃ v L, o = .returned v ∧ Q1w2 Z a1 a3 n kw0 h0 n0 v U'.heap L ∧ FrameEnd U o U' L ({ frames := 3, cells := 3, slots := 15, locals := 90 } : Room).cells ({ frames := 3, cells := 3, slots := 15, locals := 90 } : Room).slots) := by
  refine MetFree.of_bodySF (plainFor_of_name pn_1) hisR ?_
  intro p e s m args below meth c s₁ Bd hml0 hP hK
  obtain ⟨rfl, hZ, hh⟩ := hP
  have hx := Bd.exec
  have hby := Bd.bytes
  have hml : c.maxLocals = 8 := hml0
  have hown : s.vm.findClass "com/example/kerros/kerros/store/SortedChunks" = some m.cls := findClass_of_methodNamed Bd.named
  have hnm := (name_of_methodNamed Bd.named Bd.method).1
  have X0 : Stand p l e ({ frames := 3, cells := 3, slots := 15, locals := 90 } : Room) s m #[(.ref a1), (.int (2 : Int32)), (.ref a3), (.int (Int32.ofNat n))] below meth c s₁ [] 0 0 := Stand.of_body Bd
  have e0 : s₁.heap = h0 := by rw [← hh, Bd.state]; rfl
  have N0 := Fr.nil n0
  obtain ⟨G, hG⟩ : ∃ G : State → Prop, G = OwnG p e below s ({ frames := 3, cells := 3, slots := 15, locals := 90 } : Room).cells ({ frames := 3, cells := 3, slots := 15, locals := 90 } : Room).slots (Q1w2 Z a1 a3 n kw0 h0 n0) := ⟨_, rfl⟩
  have go : ∀ {A B : State}, (∀ t, Steps p.tables e below A t → Steps p.tables e below B t) → G A → G B := fun h k => by rw [hG] at k ⊢; exact OwnG.go h k
  suffices k0 : G (s₁.setTop (mkF m 0 #[.val (.ref a1), .val (.int (2 : Int32)), .val (.ref a3), .val (.int (Int32.ofNat n)), .unset, .unset, .unset, .unset] [])) by
    rw [hG] at k0; exact OwnG.go (fun t k => castTop (ef_rm1w2 m a1 a3 n) k) k0
  have K0 : Keep h0 h0 [a1] := Keep.refl _ _
  refine go (fun _ k => XS.aloadN X0.here hx rfl (hb hby d1_0) rfl rfl k) ?_
  show G (s₁.setTop (mkF m 1 #[.val (.ref a1), .val (.int (2 : Int32)), .val (.ref a3), .val (.int (Int32.ofNat n)), .unset, .unset, .unset, .unset] [(.ref a1)]))
  obtain ⟨T1, X1, e1, st1⟩ := initO X0 hx hZ hown (hw _ (List.mem_of_getElem? (i := 10) rfl)) (hw _ (List.mem_of_getElem? (i := 11) rfl)) (hw _ (List.mem_of_getElem? (i := 12) rfl)) e0 (g := (mkF m 1 #[.val (.ref a1), .val (.int (2 : Int32)), .val (.ref a3), .val (.int (Int32.ofNat n)), .unset, .unset, .unset, .unset] [(.ref a1)])) rfl (by rw [hml]; rfl) rfl (hb hby d1_1) (by decide) (W := 0) (by show 2 * 0 + _ ≤ _; exact Nat.le_of_eq rfl) (by decide)
  refine go st1 ?_
  show G (T1.setTop (mkF m 4 #[.val (.ref a1), .val (.int (2 : Int32)), .val (.ref a3), .val (.int (Int32.ofNat n)), .unset, .unset, .unset, .unset] []))
  refine go (fun _ k => XS.aloadN X1.here hx rfl (hb hby d1_4) rfl rfl k) ?_
  show G (T1.setTop (mkF m 5 #[.val (.ref a1), .val (.int (2 : Int32)), .val (.ref a3), .val (.int (Int32.ofNat n)), .unset, .unset, .unset, .unset] [(.ref a1)]))
  refine go (fun _ k => XS.iloadN X1.here hx rfl (hb hby d1_5) rfl k) ?_
  show G (T1.setTop (mkF m 6 #[.val (.ref a1), .val (.int (2 : Int32)), .val (.ref a3), .val (.int (Int32.ofNat n)), .unset, .unset, .unset, .unset] [(.int (2 : Int32)), (.ref a1)]))
  obtain ⟨T2, h2, X2, e2, W2, st2⟩ := putF X1 hx hZ hown (host := "") (Or.inl (hw _ (List.mem_of_getElem? (i := 13) rfl))) Via.refl e1 F1 E (Or.inr ⟨(hw _ (List.mem_of_getElem? (i := 14) rfl)), rfl, hnm⟩) (hw _ (List.mem_of_getElem? (i := 5) rfl)) (ty := .int) (by decide) rfl rfl (g := (mkF m 6 #[.val (.ref a1), .val (.int (2 : Int32)), .val (.ref a3), .val (.int (Int32.ofNat n)), .unset, .unset, .unset, .unset] [(.int (2 : Int32)), (.ref a1)])) rfl rfl (hb hby d1_6)
  have f3 := E.wr W2
  have f4 := F2.other W2 (Or.inr (slot_ne (Or.inl (hw _ (List.mem_of_getElem? (i := 20) rfl))) (Or.inr (hw _ (List.mem_of_getElem? (i := 14) rfl))) (by decide) (t := .int) (t' := .int) (by decide) (by decide)))
  have f5 := F3.other W2 (Or.inr (slot_ne (Or.inl (hw _ (List.mem_of_getElem? (i := 24) rfl))) (Or.inr (hw _ (List.mem_of_getElem? (i := 14) rfl))) (by decide) (t := (.array (.object "com/example/kerros/kerros/store/SortedChunks$Chunk"))) (t' := .int) (by decide) (by decide)))
  have f6 := VW.other W2 (Ne.symm ne13)
  have f7 := EW.wr W2
  have K2 : Keep h0 h2 [a1] := K0.wr W2 (Or.inl (List.mem_of_getElem? (i := 0) rfl))
  have Zs2 : n0 ≤ h2.size := Nat.le_trans Z0 (Keep.of_wr W2).1
  have N2 := Fr.snoc X2 N0 g_a1
  have Fw2 := F1.same W2
  refine go st2 ?_
  show G (T2.setTop (mkF m 9 #[.val (.ref a1), .val (.int (2 : Int32)), .val (.ref a3), .val (.int (Int32.ofNat n)), .unset, .unset, .unset, .unset] []))
  refine go (fun _ k => XS.aloadN X2.here hx rfl (hb hby d1_9) rfl rfl k) ?_
  show G (T2.setTop (mkF m 10 #[.val (.ref a1), .val (.int (2 : Int32)), .val (.ref a3), .val (.int (Int32.ofNat n)), .unset, .unset, .unset, .unset] [(.ref a1)]))
  refine go (fun _ k => XS.iconst X2.here hx rfl (hb hby d1_10) k) ?_
  show G (T2.setTop (mkF m 11 #[.val (.ref a1), .val (.int (2 : Int32)), .val (.ref a3), .val (.int (Int32.ofNat n)), .unset, .unset, .unset, .unset] [(.int (1 : Int32)), (.ref a1)]))
  refine go (fun _ k => XS.iloadN X2.here hx rfl (hb hby d1_11) rfl k) ?_
  show G (T2.setTop (mkF m 12 #[.val (.ref a1), .val (.int (2 : Int32)), .val (.ref a3), .val (.int (Int32.ofNat n)), .unset, .unset, .unset, .unset] [(.int (Int32.ofNat n)), (.int (1 : Int32)), (.ref a1)]))
  refine go (fun _ k => XS.sipush X2.here hx rfl (hb hby d1_12) k) ?_
  show G (T2.setTop (mkF m 15 #[.val (.ref a1), .val (.int (2 : Int32)), .val (.ref a3), .val (.int (Int32.ofNat n)), .unset, .unset, .unset, .unset] [(.int (128 : Int32)), (.int (Int32.ofNat n)), (.int (1 : Int32)), (.ref a1)]))
  refine go (fun _ k => XS.iadd X2.here hx rfl (hb hby d1_15) rfl k) ?_
  show G (T2.setTop (mkF m 16 #[.val (.ref a1), .val (.int (2 : Int32)), .val (.ref a3), .val (.int (Int32.ofNat n)), .unset, .unset, .unset, .unset] [(.int ((Int32.ofNat n) + (128 : Int32))), (.int (1 : Int32)), (.ref a1)]))
  rw [show ((Int32.ofNat n) + (128 : Int32)) = (Int32.ofNat (n + 128)) from own_onadd n 128]
  show G (T2.setTop (mkF m 16 #[.val (.ref a1), .val (.int (2 : Int32)), .val (.ref a3), .val (.int (Int32.ofNat n)), .unset, .unset, .unset, .unset] [(.int (Int32.ofNat (n + 128))), (.int (1 : Int32)), (.ref a1)]))
  refine go (fun _ k => XS.iconst X2.here hx rfl (hb hby d1_16) k) ?_
  show G (T2.setTop (mkF m 17 #[.val (.ref a1), .val (.int (2 : Int32)), .val (.ref a3), .val (.int (Int32.ofNat n)), .unset, .unset, .unset, .unset] [(.int (1 : Int32)), (.int (Int32.ofNat (n + 128))), (.int (1 : Int32)), (.ref a1)]))
  refine go (fun _ k => XS.isub X2.here hx rfl (hb hby d1_17) rfl k) ?_
  show G (T2.setTop (mkF m 18 #[.val (.ref a1), .val (.int (2 : Int32)), .val (.ref a3), .val (.int (Int32.ofNat n)), .unset, .unset, .unset, .unset] [(.int ((Int32.ofNat (n + 128)) - (1 : Int32))), (.int (1 : Int32)), (.ref a1)]))
  rw [show ((Int32.ofNat (n + 128)) - (1 : Int32)) = (Int32.ofNat ((n + 128) - 1)) from own_onsub (n + 128) 1 (by omega)]
  show G (T2.setTop (mkF m 18 #[.val (.ref a1), .val (.int (2 : Int32)), .val (.ref a3), .val (.int (Int32.ofNat n)), .unset, .unset, .unset, .unset] [(.int (Int32.ofNat ((n + 128) - 1))), (.int (1 : Int32)), (.ref a1)]))
  refine go (fun _ k => XS.sipush X2.here hx rfl (hb hby d1_18) k) ?_
  show G (T2.setTop (mkF m 21 #[.val (.ref a1), .val (.int (2 : Int32)), .val (.ref a3), .val (.int (Int32.ofNat n)), .unset, .unset, .unset, .unset] [(.int (128 : Int32)), (.int (Int32.ofNat ((n + 128) - 1))), (.int (1 : Int32)), (.ref a1)]))
  refine go (fun _ k => XS.idiv X2.here hx rfl (hb hby d1_21) rfl (by decide) k) ?_
  show G (T2.setTop (mkF m 22 #[.val (.ref a1), .val (.int (2 : Int32)), .val (.ref a3), .val (.int (Int32.ofNat n)), .unset, .unset, .unset, .unset] [(.int ((Int32.ofNat ((n + 128) - 1)) / (128 : Int32))), (.int (1 : Int32)), (.ref a1)]))
  obtain ⟨_, _, ⟨T8, L8, k8, n8⟩, -, X8, ⟨Lc8, hQ8, l8, y8, z8⟩, st8⟩ := Jvm.LawKit.callS X2 hx (y := (⟨"java/lang/Math", "max", "(II)I"⟩ : MethodName)) hown (mvT hZ (hw _ (List.mem_of_getElem? (i := 15) rfl))) (mvT hZ (hw _ (List.mem_of_getElem? (i := 16) rfl))) (mvT hZ (hw _ (List.mem_of_getElem? (i := 17) rfl))) (mvT hZ (hw _ (List.mem_of_getElem? (i := 18) rfl))) (by decide) (backOf (W := 1) (rm3 l Z a0 hw [] (1 : Int32) ((Int32.ofNat ((n + 128) - 1)) / (128 : Int32)) h2 n0 Zs2) hZ (hw _ (List.mem_of_getElem? (i := 18) rfl)) (hw _ (List.mem_of_getElem? (i := 17) rfl)) (by decide) (by decide)) (g := (mkF m 22 #[.val (.ref a1), .val (.int (2 : Int32)), .val (.ref a3), .val (.int (Int32.ofNat n)), .unset, .unset, .unset, .unset] [(.int ((Int32.ofNat ((n + 128) - 1)) / (128 : Int32))), (.int (1 : Int32)), (.ref a1)])) rfl (by rw [hml]; rfl) (argsL := [(.int (1 : Int32)), (.int ((Int32.ofNat ((n + 128) - 1)) / (128 : Int32)))]) (rest := [(.ref a1)]) (lenOf pd_1_0 rfl) rfl (by show 2 * 0 + _ ≤ _; exact Nat.le_of_eq rfl) (hb hby d1_22) (fun _ _ => ⟨rfl, e2, (by decide : 0 + 0 ≤ _), (by decide : 0 + 0 ≤ _)⟩)
  dsimp only [Pt.U, Pt.locs, Pt.cells, Pt.slots] at X8 l8 y8 z8 st8 hQ8
  subst l8 y8 z8
  obtain ⟨rfl, N8q, e8⟩ := hQ8
  have N8 := Fr.app N2 N8q
  refine go st8 ?_
  show G (T8.setTop (mkF m 25 #[.val (.ref a1), .val (.int (2 : Int32)), .val (.ref a3), .val (.int (Int32.ofNat n)), .unset, .unset, .unset, .unset] [(.int (jmax (1 : Int32) ((Int32.ofNat ((n + 128) - 1)) / (128 : Int32)))), (.ref a1)]))
  rw [show (jmax (1 : Int32) ((Int32.ofNat ((n + 128) - 1)) / (128 : Int32))) = (1 : Int32) from own_used n hn]
  show G (T8.setTop (mkF m 25 #[.val (.ref a1), .val (.int (2 : Int32)), .val (.ref a3), .val (.int (Int32.ofNat n)), .unset, .unset, .unset, .unset] [(.int (1 : Int32)), (.ref a1)]))
  obtain ⟨T9, h9, X9, e9, W9, st9⟩ := putF X8 hx hZ hown (host := "") (Or.inl (hw _ (List.mem_of_getElem? (i := 19) rfl))) Via.refl e8 f4 f3 (Or.inl (hw _ (List.mem_of_getElem? (i := 20) rfl))) (hw _ (List.mem_of_getElem? (i := 5) rfl)) (ty := .int) (by decide) rfl rfl (g := (mkF m 25 #[.val (.ref a1), .val (.int (2 : Int32)), .val (.ref a3), .val (.int (Int32.ofNat n)), .unset, .unset, .unset, .unset] [(.int (1 : Int32)), (.ref a1)])) rfl rfl (hb hby d1_25)
  have f10 := f3.wr W9
  have f11 := Fw2.other W9 (Or.inr (slot_ne (Or.inr (hw _ (List.mem_of_getElem? (i := 14) rfl))) (Or.inl (hw _ (List.mem_of_getElem? (i := 20) rfl))) (by decide) (t := .int) (t' := .int) (by decide) (by decide)))
  have f12 := f5.other W9 (Or.inr (slot_ne (Or.inl (hw _ (List.mem_of_getElem? (i := 24) rfl))) (Or.inl (hw _ (List.mem_of_getElem? (i := 20) rfl))) (by decide) (t := (.array (.object "com/example/kerros/kerros/store/SortedChunks$Chunk"))) (t' := .int) (by decide) (by decide)))
  have f13 := f6.other W9 (Ne.symm ne13)
  have f14 := f7.wr W9
  have K9 : Keep h0 h9 [a1] := K2.wr W9 (Or.inl (List.mem_of_getElem? (i := 0) rfl))
  have Zs9 : n0 ≤ h9.size := Nat.le_trans Zs2 (Keep.of_wr W9).1
  have N9 := Fr.snoc X9 N8 g_a1
  have Fw9 := f4.same W9
  refine go st9 ?_
  show G (T9.setTop (mkF m 28 #[.val (.ref a1), .val (.int (2 : Int32)), .val (.ref a3), .val (.int (Int32.ofNat n)), .unset, .unset, .unset, .unset] []))
  refine go (fun _ k => XS.aloadN X9.here hx rfl (hb hby d1_28) rfl rfl k) ?_
  show G (T9.setTop (mkF m 29 #[.val (.ref a1), .val (.int (2 : Int32)), .val (.ref a3), .val (.int (Int32.ofNat n)), .unset, .unset, .unset, .unset] [(.ref a1)]))
  refine go (fun _ k => XS.aloadN X9.here hx rfl (hb hby d1_29) rfl rfl k) ?_
  show G (T9.setTop (mkF m 30 #[.val (.ref a1), .val (.int (2 : Int32)), .val (.ref a3), .val (.int (Int32.ofNat n)), .unset, .unset, .unset, .unset] [(.ref a1), (.ref a1)]))
  obtain ⟨T15, X15, e15, st15⟩ := getF X9 hx hZ hown (host := "") (Or.inl (hw _ (List.mem_of_getElem? (i := 19) rfl))) Via.refl e9 Fw9 (g := (mkF m 30 #[.val (.ref a1), .val (.int (2 : Int32)), .val (.ref a3), .val (.int (Int32.ofNat n)), .unset, .unset, .unset, .unset] [(.ref a1), (.ref a1)])) rfl rfl (hb hby d1_30)
  refine go st15 ?_
  show G (T15.setTop (mkF m 33 #[.val (.ref a1), .val (.int (2 : Int32)), .val (.ref a3), .val (.int (Int32.ofNat n)), .unset, .unset, .unset, .unset] [(.int (1 : Int32)), (.ref a1)]))
  obtain ⟨T16, h16, k16, X16, e16, E16, A16, B16, O16, st16⟩ := newRE X15 hx hZ hown (hw _ (List.mem_of_getElem? (i := 21) rfl)) (hw _ (List.mem_of_getElem? (i := 22) rfl)) e15 (g := (mkF m 33 #[.val (.ref a1), .val (.int (2 : Int32)), .val (.ref a3), .val (.int (Int32.ofNat n)), .unset, .unset, .unset, .unset] [(.int (1 : Int32)), (.ref a1)])) rfl (hb hby d1_33) rfl (by decide) (cap := 1) (by decide) (by decide) (by decide) (by decide) (ad := "[Lcom/example/kerros/kerros/store/SortedChunks$Chunk;") (by decide)
  obtain ⟨b16, ga16⟩ : ∃ z, z = h9.size := ⟨_, rfl⟩
  have ne_a1_b16 : a1 ≠ b16 := Nat.ne_of_lt (Nat.lt_of_lt_of_le f10.lt (Nat.le_of_eq ga16.symm))
  have ne_a3_b16 : a3 ≠ b16 := Nat.ne_of_lt (Nat.lt_of_lt_of_le f13.lt (Nat.le_of_eq ga16.symm))
  have g_b16 : n0 ≤ b16 := Nat.le_trans Zs9 (Nat.le_of_eq ga16.symm)
  have sz_b16 : h0.size ≤ b16 := Nat.le_trans K9.1 (Nat.le_of_eq ga16.symm)
  rw [← ga16] at A16 B16 st16
  have f17 := f10.ext E16
  have f18 := f11.ext E16
  have f19 := Fw9.ext E16
  have f20 := f12.ext E16
  have f21 := f13.ext E16
  have f22 := f14.ext E16
  have K16 : Keep h0 h16 [a1] := K9.ext E16
  have Zs16 : n0 ≤ h16.size := Nat.le_trans Zs9 E16.1
  have V16 : Arv Z h16 b16 k16 (.object "com/example/kerros/kerros/store/SortedChunks$Chunk") (1 : Int32) [.null] .null := (Arv.new A16 (by decide)).pad (pad_rep [] .null 1)
  refine go st16 ?_
  show G (T16.setTop (mkF m 36 #[.val (.ref a1), .val (.int (2 : Int32)), .val (.ref a3), .val (.int (Int32.ofNat n)), .unset, .unset, .unset, .unset] [(.ref b16), (.ref a1)]))
  obtain ⟨T23, h23, X23, e23, W23, st23⟩ := putF X16 hx hZ hown (host := "") (Or.inl (hw _ (List.mem_of_getElem? (i := 23) rfl))) Via.refl e16 f20 f17 (Or.inl (hw _ (List.mem_of_getElem? (i := 24) rfl))) (hw _ (List.mem_of_getElem? (i := 5) rfl)) (ty := (.array (.object "com/example/kerros/kerros/store/SortedChunks$Chunk"))) (by decide) rfl rfl (g := (mkF m 36 #[.val (.ref a1), .val (.int (2 : Int32)), .val (.ref a3), .val (.int (Int32.ofNat n)), .unset, .unset, .unset, .unset] [(.ref b16), (.ref a1)])) rfl rfl (hb hby d1_36)
  have f24 := f17.wr W23
  have f25 := f18.other W23 (Or.inr (slot_ne (Or.inr (hw _ (List.mem_of_getElem? (i := 14) rfl))) (Or.inl (hw _ (List.mem_of_getElem? (i := 24) rfl))) (by decide) (t := .int) (t' := (.array (.object "com/example/kerros/kerros/store/SortedChunks$Chunk"))) (by decide) (by decide)))
  have f26 := f19.other W23 (Or.inr (slot_ne (Or.inl (hw _ (List.mem_of_getElem? (i := 20) rfl))) (Or.inl (hw _ (List.mem_of_getElem? (i := 24) rfl))) (by decide) (t := .int) (t' := (.array (.object "com/example/kerros/kerros/store/SortedChunks$Chunk"))) (by decide) (by decide)))
  have f27 := f21.other W23 (Ne.symm ne13)
  have f28 := f22.wr W23
  have f29 := B16.wr W23
  have f30 := V16.other W23 (Ne.symm ne_a1_b16)
  have K23 : Keep h0 h23 [a1] := K16.wr W23 (Or.inl (List.mem_of_getElem? (i := 0) rfl))
  have Zs23 : n0 ≤ h23.size := Nat.le_trans Zs16 (Keep.of_wr W23).1
  have N23 := Fr.snoc X23 N9 g_a1
  have Fw23 := f20.same W23
  refine go st23 ?_
  show G (T23.setTop (mkF m 39 #[.val (.ref a1), .val (.int (2 : Int32)), .val (.ref a3), .val (.int (Int32.ofNat n)), .unset, .unset, .unset, .unset] []))
  refine go (fun _ k => XS.iconst X23.here hx rfl (hb hby d1_39) k) ?_
  show G (T23.setTop (mkF m 40 #[.val (.ref a1), .val (.int (2 : Int32)), .val (.ref a3), .val (.int (Int32.ofNat n)), .unset, .unset, .unset, .unset] [(.int (0 : Int32))]))
  refine go (fun _ k => XS.istore X23.here hx rfl (hb hby d1_40) rfl (l' := #[.val (.ref a1), .val (.int (2 : Int32)), .val (.ref a3), .val (.int (Int32.ofNat n)), .val (.int (0 : Int32)), .unset, .unset, .unset]) rfl k) ?_
  show G (T23.setTop (mkF m 42 #[.val (.ref a1), .val (.int (2 : Int32)), .val (.ref a3), .val (.int (Int32.ofNat n)), .val (.int (0 : Int32)), .unset, .unset, .unset] []))
  refine go (fun _ k => XS.iload X23.here hx rfl (hb hby d1_42) rfl k) ?_
  show G (T23.setTop (mkF m 44 #[.val (.ref a1), .val (.int (2 : Int32)), .val (.ref a3), .val (.int (Int32.ofNat n)), .val (.int (0 : Int32)), .unset, .unset, .unset] [(.int (0 : Int32))]))
  refine go (fun _ k => XS.aloadN X23.here hx rfl (hb hby d1_44) rfl rfl k) ?_
  show G (T23.setTop (mkF m 45 #[.val (.ref a1), .val (.int (2 : Int32)), .val (.ref a3), .val (.int (Int32.ofNat n)), .val (.int (0 : Int32)), .unset, .unset, .unset] [(.ref a1), (.int (0 : Int32))]))
  obtain ⟨T31, X31, e31, st31⟩ := getF X23 hx hZ hown (host := "") (Or.inl (hw _ (List.mem_of_getElem? (i := 19) rfl))) Via.refl e23 f26 (g := (mkF m 45 #[.val (.ref a1), .val (.int (2 : Int32)), .val (.ref a3), .val (.int (Int32.ofNat n)), .val (.int (0 : Int32)), .unset, .unset, .unset] [(.ref a1), (.int (0 : Int32))])) rfl rfl (hb hby d1_45)
  refine go st31 ?_
  show G (T31.setTop (mkF m 48 #[.val (.ref a1), .val (.int (2 : Int32)), .val (.ref a3), .val (.int (Int32.ofNat n)), .val (.int (0 : Int32)), .unset, .unset, .unset] [(.int (1 : Int32)), (.int (0 : Int32))]))
  have hc32 : (0 : Int32) < (1 : Int32) := (by decide)
  refine go (fun _ k => XS.icmpNo X31.here hx rfl (hb hby d1_48) rfl (tlt hc32).2.1 k) ?_
  show G (T31.setTop (mkF m 51 #[.val (.ref a1), .val (.int (2 : Int32)), .val (.ref a3), .val (.int (Int32.ofNat n)), .val (.int (0 : Int32)), .unset, .unset, .unset] []))
  refine go (fun _ k => XS.iload X31.here hx rfl (hb hby d1_51) rfl k) ?_
  show G (T31.setTop (mkF m 53 #[.val (.ref a1), .val (.int (2 : Int32)), .val (.ref a3), .val (.int (Int32.ofNat n)), .val (.int (0 : Int32)), .unset, .unset, .unset] [(.int (0 : Int32))]))
  refine go (fun _ k => XS.sipush X31.here hx rfl (hb hby d1_53) k) ?_
  show G (T31.setTop (mkF m 56 #[.val (.ref a1), .val (.int (2 : Int32)), .val (.ref a3), .val (.int (Int32.ofNat n)), .val (.int (0 : Int32)), .unset, .unset, .unset] [(.int (128 : Int32)), (.int (0 : Int32))]))
  refine go (fun _ k => XS.imul X31.here hx rfl (hb hby d1_56) rfl k) ?_
  show G (T31.setTop (mkF m 57 #[.val (.ref a1), .val (.int (2 : Int32)), .val (.ref a3), .val (.int (Int32.ofNat n)), .val (.int (0 : Int32)), .unset, .unset, .unset] [(.int ((0 : Int32) * (128 : Int32)))]))
  rw [show ((0 : Int32) * (128 : Int32)) = (0 : Int32) from by decide]
  show G (T31.setTop (mkF m 57 #[.val (.ref a1), .val (.int (2 : Int32)), .val (.ref a3), .val (.int (Int32.ofNat n)), .val (.int (0 : Int32)), .unset, .unset, .unset] [(.int (0 : Int32))]))
  refine go (fun _ k => XS.istore X31.here hx rfl (hb hby d1_57) rfl (l' := #[.val (.ref a1), .val (.int (2 : Int32)), .val (.ref a3), .val (.int (Int32.ofNat n)), .val (.int (0 : Int32)), .val (.int (0 : Int32)), .unset, .unset]) rfl k) ?_
  show G (T31.setTop (mkF m 59 #[.val (.ref a1), .val (.int (2 : Int32)), .val (.ref a3), .val (.int (Int32.ofNat n)), .val (.int (0 : Int32)), .val (.int (0 : Int32)), .unset, .unset] []))
  refine go (fun _ k => XS.sipush X31.here hx rfl (hb hby d1_59) k) ?_
  show G (T31.setTop (mkF m 62 #[.val (.ref a1), .val (.int (2 : Int32)), .val (.ref a3), .val (.int (Int32.ofNat n)), .val (.int (0 : Int32)), .val (.int (0 : Int32)), .unset, .unset] [(.int (128 : Int32))]))
  refine go (fun _ k => XS.iloadN X31.here hx rfl (hb hby d1_62) rfl k) ?_
  show G (T31.setTop (mkF m 63 #[.val (.ref a1), .val (.int (2 : Int32)), .val (.ref a3), .val (.int (Int32.ofNat n)), .val (.int (0 : Int32)), .val (.int (0 : Int32)), .unset, .unset] [(.int (Int32.ofNat n)), (.int (128 : Int32))]))
  refine go (fun _ k => XS.iload X31.here hx rfl (hb hby d1_63) rfl k) ?_
  show G (T31.setTop (mkF m 65 #[.val (.ref a1), .val (.int (2 : Int32)), .val (.ref a3), .val (.int (Int32.ofNat n)), .val (.int (0 : Int32)), .val (.int (0 : Int32)), .unset, .unset] [(.int (0 : Int32)), (.int (Int32.ofNat n)), (.int (128 : Int32))]))
  refine go (fun _ k => XS.isub X31.here hx rfl (hb hby d1_65) rfl k) ?_
  show G (T31.setTop (mkF m 66 #[.val (.ref a1), .val (.int (2 : Int32)), .val (.ref a3), .val (.int (Int32.ofNat n)), .val (.int (0 : Int32)), .val (.int (0 : Int32)), .unset, .unset] [(.int ((Int32.ofNat n) - (0 : Int32))), (.int (128 : Int32))]))
  rw [show ((Int32.ofNat n) - (0 : Int32)) = (Int32.ofNat (n - 0)) from own_onsub n 0 (by omega)]
  show G (T31.setTop (mkF m 66 #[.val (.ref a1), .val (.int (2 : Int32)), .val (.ref a3), .val (.int (Int32.ofNat n)), .val (.int (0 : Int32)), .val (.int (0 : Int32)), .unset, .unset] [(.int (Int32.ofNat (n - 0))), (.int (128 : Int32))]))
  obtain ⟨_, _, ⟨T33, L33, k33, n33⟩, -, X33, ⟨Lc33, hQ33, l33, y33, z33⟩, st33⟩ := Jvm.LawKit.callS X31 hx (y := (⟨"java/lang/Math", "min", "(II)I"⟩ : MethodName)) hown (mvT hZ (hw _ (List.mem_of_getElem? (i := 25) rfl))) (mvT hZ (hw _ (List.mem_of_getElem? (i := 26) rfl))) (mvT hZ (hw _ (List.mem_of_getElem? (i := 17) rfl))) (mvT hZ (hw _ (List.mem_of_getElem? (i := 27) rfl))) (by decide) (backOf (W := 0) (rm4 l Z a0 hw [] (128 : Int32) (Int32.ofNat (n - 0)) h23 n0 Zs23) hZ (hw _ (List.mem_of_getElem? (i := 27) rfl)) (hw _ (List.mem_of_getElem? (i := 17) rfl)) (by decide) (by decide)) (g := (mkF m 66 #[.val (.ref a1), .val (.int (2 : Int32)), .val (.ref a3), .val (.int (Int32.ofNat n)), .val (.int (0 : Int32)), .val (.int (0 : Int32)), .unset, .unset] [(.int (Int32.ofNat (n - 0))), (.int (128 : Int32))])) rfl (by rw [hml]; rfl) (argsL := [(.int (128 : Int32)), (.int (Int32.ofNat (n - 0)))]) (rest := []) (lenOf pd_1_0 rfl) rfl (by show 2 * 0 + _ ≤ _; exact Nat.le_of_eq rfl) (hb hby d1_66) (fun _ _ => ⟨rfl, e31, (by decide : 1 + 0 ≤ _), (by decide : 1 + 0 ≤ _)⟩)
  dsimp only [Pt.U, Pt.locs, Pt.cells, Pt.slots] at X33 l33 y33 z33 st33 hQ33
  subst l33 y33 z33
  obtain ⟨rfl, N33q, e33⟩ := hQ33
  have N33 := Fr.app N23 N33q
  refine go st33 ?_
  show G (T33.setTop (mkF m 69 #[.val (.ref a1), .val (.int (2 : Int32)), .val (.ref a3), .val (.int (Int32.ofNat n)), .val (.int (0 : Int32)), .val (.int (0 : Int32)), .unset, .unset] [(.int (jmin (128 : Int32) (Int32.ofNat (n - 0))))]))
  rw [show (jmin (128 : Int32) (Int32.ofNat (n - 0))) = (Int32.ofNat (n - 0)) from own_jminR 128 (n - 0) (by omega) (by omega)]
  show G (T33.setTop (mkF m 69 #[.val (.ref a1), .val (.int (2 : Int32)), .val (.ref a3), .val (.int (Int32.ofNat n)), .val (.int (0 : Int32)), .val (.int (0 : Int32)), .unset, .unset] [(.int (Int32.ofNat (n - 0)))]))
  refine go (fun _ k => XS.istore X33.here hx rfl (hb hby d1_69) rfl (l' := #[.val (.ref a1), .val (.int (2 : Int32)), .val (.ref a3), .val (.int (Int32.ofNat n)), .val (.int (0 : Int32)), .val (.int (0 : Int32)), .val (.int (Int32.ofNat (n - 0))), .unset]) rfl k) ?_
  show G (T33.setTop (mkF m 71 #[.val (.ref a1), .val (.int (2 : Int32)), .val (.ref a3), .val (.int (Int32.ofNat n)), .val (.int (0 : Int32)), .val (.int (0 : Int32)), .val (.int (Int32.ofNat (n - 0))), .unset] []))
  refine go (fun _ k => XS.iconst X33.here hx rfl (hb hby d1_71) k) ?_
  show G (T33.setTop (mkF m 72 #[.val (.ref a1), .val (.int (2 : Int32)), .val (.ref a3), .val (.int (Int32.ofNat n)), .val (.int (0 : Int32)), .val (.int (0 : Int32)), .val (.int (Int32.ofNat (n - 0))), .unset] [(.int (2 : Int32))]))
  refine go (fun _ k => XS.iload X33.here hx rfl (hb hby d1_72) rfl k) ?_
  show G (T33.setTop (mkF m 74 #[.val (.ref a1), .val (.int (2 : Int32)), .val (.ref a3), .val (.int (Int32.ofNat n)), .val (.int (0 : Int32)), .val (.int (0 : Int32)), .val (.int (Int32.ofNat (n - 0))), .unset] [(.int (Int32.ofNat (n - 0))), (.int (2 : Int32))]))
  obtain ⟨cp, hc1, hc2, hc3, hce⟩ := own_cap (n - 0) (by omega)
  obtain ⟨_, _, ⟨T34, L34, k34, n34⟩, -, X34, ⟨Lc34, hQ34, l34, y34, z34⟩, st34⟩ := Jvm.LawKit.callS X33 hx (y := (⟨"java/lang/Math", "max", "(II)I"⟩ : MethodName)) hown (mvT hZ (hw _ (List.mem_of_getElem? (i := 15) rfl))) (mvT hZ (hw _ (List.mem_of_getElem? (i := 16) rfl))) (mvT hZ (hw _ (List.mem_of_getElem? (i := 17) rfl))) (mvT hZ (hw _ (List.mem_of_getElem? (i := 18) rfl))) (by decide) (backOf (W := 0) (rm3 l Z a0 hw [] (2 : Int32) (Int32.ofNat (n - 0)) h23 n0 Zs23) hZ (hw _ (List.mem_of_getElem? (i := 18) rfl)) (hw _ (List.mem_of_getElem? (i := 17) rfl)) (by decide) (by decide)) (g := (mkF m 74 #[.val (.ref a1), .val (.int (2 : Int32)), .val (.ref a3), .val (.int (Int32.ofNat n)), .val (.int (0 : Int32)), .val (.int (0 : Int32)), .val (.int (Int32.ofNat (n - 0))), .unset] [(.int (Int32.ofNat (n - 0))), (.int (2 : Int32))])) rfl (by rw [hml]; rfl) (argsL := [(.int (2 : Int32)), (.int (Int32.ofNat (n - 0)))]) (rest := []) (lenOf pd_1_0 rfl) rfl (by show 2 * 0 + _ ≤ _; exact Nat.le_of_eq rfl) (hb hby d1_74) (fun _ _ => ⟨rfl, e33, (by decide : 1 + 0 ≤ _), (by decide : 1 + 0 ≤ _)⟩)
  dsimp only [Pt.U, Pt.locs, Pt.cells, Pt.slots] at X34 l34 y34 z34 st34 hQ34
  subst l34 y34 z34
  obtain ⟨rfl, N34q, e34⟩ := hQ34
  have N34 := Fr.app N33 N34q
  refine go st34 ?_
  show G (T34.setTop (mkF m 77 #[.val (.ref a1), .val (.int (2 : Int32)), .val (.ref a3), .val (.int (Int32.ofNat n)), .val (.int (0 : Int32)), .val (.int (0 : Int32)), .val (.int (Int32.ofNat (n - 0))), .unset] [(.int (jmax (2 : Int32) (Int32.ofNat (n - 0))))]))
  rw [show (jmax (2 : Int32) (Int32.ofNat (n - 0))) = (Int32.ofNat cp) from hce]
  show G (T34.setTop (mkF m 77 #[.val (.ref a1), .val (.int (2 : Int32)), .val (.ref a3), .val (.int (Int32.ofNat n)), .val (.int (0 : Int32)), .val (.int (0 : Int32)), .val (.int (Int32.ofNat (n - 0))), .unset] [(.int (Int32.ofNat cp))]))
  refine go (fun _ k => XS.istore X34.here hx rfl (hb hby d1_77) rfl (l' := #[.val (.ref a1), .val (.int (2 : Int32)), .val (.ref a3), .val (.int (Int32.ofNat n)), .val (.int (0 : Int32)), .val (.int (0 : Int32)), .val (.int (Int32.ofNat (n - 0))), .val (.int (Int32.ofNat cp))]) rfl k) ?_
  show G (T34.setTop (mkF m 79 #[.val (.ref a1), .val (.int (2 : Int32)), .val (.ref a3), .val (.int (Int32.ofNat n)), .val (.int (0 : Int32)), .val (.int (0 : Int32)), .val (.int (Int32.ofNat (n - 0))), .val (.int (Int32.ofNat cp))] []))
  refine go (fun _ k => XS.aloadN X34.here hx rfl (hb hby d1_79) rfl rfl k) ?_
  show G (T34.setTop (mkF m 80 #[.val (.ref a1), .val (.int (2 : Int32)), .val (.ref a3), .val (.int (Int32.ofNat n)), .val (.int (0 : Int32)), .val (.int (0 : Int32)), .val (.int (Int32.ofNat (n - 0))), .val (.int (Int32.ofNat cp))] [(.ref a1)]))
  obtain ⟨T35, X35, e35, st35⟩ := getF X34 hx hZ hown (host := "") (Or.inl (hw _ (List.mem_of_getElem? (i := 23) rfl))) Via.refl e34 Fw23 (g := (mkF m 80 #[.val (.ref a1), .val (.int (2 : Int32)), .val (.ref a3), .val (.int (Int32.ofNat n)), .val (.int (0 : Int32)), .val (.int (0 : Int32)), .val (.int (Int32.ofNat (n - 0))), .val (.int (Int32.ofNat cp))] [(.ref a1)])) rfl rfl (hb hby d1_80)
  refine go st35 ?_
  show G (T35.setTop (mkF m 83 #[.val (.ref a1), .val (.int (2 : Int32)), .val (.ref a3), .val (.int (Int32.ofNat n)), .val (.int (0 : Int32)), .val (.int (0 : Int32)), .val (.int (Int32.ofNat (n - 0))), .val (.int (Int32.ofNat cp))] [(.ref b16)]))
  refine go (fun _ k => XS.iload X35.here hx rfl (hb hby d1_83) rfl k) ?_
  show G (T35.setTop (mkF m 85 #[.val (.ref a1), .val (.int (2 : Int32)), .val (.ref a3), .val (.int (Int32.ofNat n)), .val (.int (0 : Int32)), .val (.int (0 : Int32)), .val (.int (Int32.ofNat (n - 0))), .val (.int (Int32.ofNat cp))] [(.int (0 : Int32)), (.ref b16)]))
  obtain ⟨T36, h36, X36, e36, E36, A36, D36, -, st36⟩ := newO X35 hx hZ hown (hw _ (List.mem_of_getElem? (i := 21) rfl)) (hw _ (List.mem_of_getElem? (i := 28) rfl)) (hw _ (List.mem_of_getElem? (i := 29) rfl)) e35 (g := (mkF m 85 #[.val (.ref a1), .val (.int (2 : Int32)), .val (.ref a3), .val (.int (Int32.ofNat n)), .val (.int (0 : Int32)), .val (.int (0 : Int32)), .val (.int (Int32.ofNat (n - 0))), .val (.int (Int32.ofNat cp))] [(.int (0 : Int32)), (.ref b16)])) rfl (hb hby d1_85) (by decide) (by decide)
  obtain ⟨b36, ga36⟩ : ∃ z, z = h23.size := ⟨_, rfl⟩
  have ne_a1_b36 : a1 ≠ b36 := Nat.ne_of_lt (Nat.lt_of_lt_of_le f24.lt (Nat.le_of_eq ga36.symm))
  have ne_a3_b36 : a3 ≠ b36 := Nat.ne_of_lt (Nat.lt_of_lt_of_le f27.lt (Nat.le_of_eq ga36.symm))
  have ne_b16_b36 : b16 ≠ b36 := Nat.ne_of_lt (Nat.lt_of_lt_of_le f29.lt (Nat.le_of_eq ga36.symm))
  have g_b36 : n0 ≤ b36 := Nat.le_trans Zs23 (Nat.le_of_eq ga36.symm)
  have sz_b36 : h0.size ≤ b36 := Nat.le_trans K23.1 (Nat.le_of_eq ga36.symm)
  rw [← ga36] at A36 D36 st36
  have f37 := f24.ext E36
  have f38 := f25.ext E36
  have f39 := f26.ext E36
  have f40 := Fw23.ext E36
  have f41 := f27.ext E36
  have f42 := f28.ext E36
  have f43 := f29.ext E36
  have f44 := f30.ext E36
  have K36 : Keep h0 h36 [a1] := K23.ext E36
  have Zs36 : n0 ≤ h36.size := Nat.le_trans Zs23 E36.1
  have F36_words : Fld Z h36 b36 "com/example/kerros/kerros/store/SortedChunks$Chunk" "words" "[J" .null := D36 (Or.inl (hw _ (List.mem_of_getElem? (i := 50) rfl))) (ty := (.array .long)) (by decide)
  have F36_size : Fld Z h36 b36 "com/example/kerros/kerros/store/SortedChunks$Chunk" "size" "I" (.int (0 : Int32)) := D36 (Or.inl (hw _ (List.mem_of_getElem? (i := 52) rfl))) (ty := .int) (by decide)
  refine go st36 ?_
  show G (T36.setTop (mkF m 88 #[.val (.ref a1), .val (.int (2 : Int32)), .val (.ref a3), .val (.int (Int32.ofNat n)), .val (.int (0 : Int32)), .val (.int (0 : Int32)), .val (.int (Int32.ofNat (n - 0))), .val (.int (Int32.ofNat cp))] [(.ref b36), (.int (0 : Int32)), (.ref b16)]))
  refine go (fun _ k => XS.dup X36.here hx rfl (hb hby d1_88) rfl rfl k) ?_
  show G (T36.setTop (mkF m 89 #[.val (.ref a1), .val (.int (2 : Int32)), .val (.ref a3), .val (.int (Int32.ofNat n)), .val (.int (0 : Int32)), .val (.int (0 : Int32)), .val (.int (Int32.ofNat (n - 0))), .val (.int (Int32.ofNat cp))] [(.ref b36), (.ref b36), (.int (0 : Int32)), (.ref b16)]))
  refine go (fun _ k => XS.aloadN X36.here hx rfl (hb hby d1_89) rfl rfl k) ?_
  show G (T36.setTop (mkF m 90 #[.val (.ref a1), .val (.int (2 : Int32)), .val (.ref a3), .val (.int (Int32.ofNat n)), .val (.int (0 : Int32)), .val (.int (0 : Int32)), .val (.int (Int32.ofNat (n - 0))), .val (.int (Int32.ofNat cp))] [(.ref a3), (.ref b36), (.ref b36), (.int (0 : Int32)), (.ref b16)]))
  refine go (fun _ k => XS.iload X36.here hx rfl (hb hby d1_90) rfl k) ?_
  show G (T36.setTop (mkF m 92 #[.val (.ref a1), .val (.int (2 : Int32)), .val (.ref a3), .val (.int (Int32.ofNat n)), .val (.int (0 : Int32)), .val (.int (0 : Int32)), .val (.int (Int32.ofNat (n - 0))), .val (.int (Int32.ofNat cp))] [(.int (0 : Int32)), (.ref a3), (.ref b36), (.ref b36), (.int (0 : Int32)), (.ref b16)]))
  refine go (fun _ k => XS.iloadN X36.here hx rfl (hb hby d1_92) rfl k) ?_
  show G (T36.setTop (mkF m 93 #[.val (.ref a1), .val (.int (2 : Int32)), .val (.ref a3), .val (.int (Int32.ofNat n)), .val (.int (0 : Int32)), .val (.int (0 : Int32)), .val (.int (Int32.ofNat (n - 0))), .val (.int (Int32.ofNat cp))] [(.int (2 : Int32)), (.int (0 : Int32)), (.ref a3), (.ref b36), (.ref b36), (.int (0 : Int32)), (.ref b16)]))
  refine go (fun _ k => XS.imul X36.here hx rfl (hb hby d1_93) rfl k) ?_
  show G (T36.setTop (mkF m 94 #[.val (.ref a1), .val (.int (2 : Int32)), .val (.ref a3), .val (.int (Int32.ofNat n)), .val (.int (0 : Int32)), .val (.int (0 : Int32)), .val (.int (Int32.ofNat (n - 0))), .val (.int (Int32.ofNat cp))] [(.int ((0 : Int32) * (2 : Int32))), (.ref a3), (.ref b36), (.ref b36), (.int (0 : Int32)), (.ref b16)]))
  rw [show ((0 : Int32) * (2 : Int32)) = (0 : Int32) from by decide]
  show G (T36.setTop (mkF m 94 #[.val (.ref a1), .val (.int (2 : Int32)), .val (.ref a3), .val (.int (Int32.ofNat n)), .val (.int (0 : Int32)), .val (.int (0 : Int32)), .val (.int (Int32.ofNat (n - 0))), .val (.int (Int32.ofNat cp))] [(.int (0 : Int32)), (.ref a3), (.ref b36), (.ref b36), (.int (0 : Int32)), (.ref b16)]))
  refine go (fun _ k => XS.iload X36.here hx rfl (hb hby d1_94) rfl k) ?_
  show G (T36.setTop (mkF m 96 #[.val (.ref a1), .val (.int (2 : Int32)), .val (.ref a3), .val (.int (Int32.ofNat n)), .val (.int (0 : Int32)), .val (.int (0 : Int32)), .val (.int (Int32.ofNat (n - 0))), .val (.int (Int32.ofNat cp))] [(.int (0 : Int32)), (.int (0 : Int32)), (.ref a3), (.ref b36), (.ref b36), (.int (0 : Int32)), (.ref b16)]))
  refine go (fun _ k => XS.iload X36.here hx rfl (hb hby d1_96) rfl k) ?_
  show G (T36.setTop (mkF m 98 #[.val (.ref a1), .val (.int (2 : Int32)), .val (.ref a3), .val (.int (Int32.ofNat n)), .val (.int (0 : Int32)), .val (.int (0 : Int32)), .val (.int (Int32.ofNat (n - 0))), .val (.int (Int32.ofNat cp))] [(.int (Int32.ofNat cp)), (.int (0 : Int32)), (.int (0 : Int32)), (.ref a3), (.ref b36), (.ref b36), (.int (0 : Int32)), (.ref b16)]))
  refine go (fun _ k => XS.iadd X36.here hx rfl (hb hby d1_98) rfl k) ?_
  show G (T36.setTop (mkF m 99 #[.val (.ref a1), .val (.int (2 : Int32)), .val (.ref a3), .val (.int (Int32.ofNat n)), .val (.int (0 : Int32)), .val (.int (0 : Int32)), .val (.int (Int32.ofNat (n - 0))), .val (.int (Int32.ofNat cp))] [(.int ((0 : Int32) + (Int32.ofNat cp))), (.int (0 : Int32)), (.ref a3), (.ref b36), (.ref b36), (.int (0 : Int32)), (.ref b16)]))
  rw [show ((0 : Int32) + (Int32.ofNat cp)) = (Int32.ofNat (0 + cp)) from own_onadd 0 cp]
  show G (T36.setTop (mkF m 99 #[.val (.ref a1), .val (.int (2 : Int32)), .val (.ref a3), .val (.int (Int32.ofNat n)), .val (.int (0 : Int32)), .val (.int (0 : Int32)), .val (.int (Int32.ofNat (n - 0))), .val (.int (Int32.ofNat cp))] [(.int (Int32.ofNat (0 + cp))), (.int (0 : Int32)), (.ref a3), (.ref b36), (.ref b36), (.int (0 : Int32)), (.ref b16)]))
  refine go (fun _ k => XS.iloadN X36.here hx rfl (hb hby d1_99) rfl k) ?_
  show G (T36.setTop (mkF m 100 #[.val (.ref a1), .val (.int (2 : Int32)), .val (.ref a3), .val (.int (Int32.ofNat n)), .val (.int (0 : Int32)), .val (.int (0 : Int32)), .val (.int (Int32.ofNat (n - 0))), .val (.int (Int32.ofNat cp))] [(.int (2 : Int32)), (.int (Int32.ofNat (0 + cp))), (.int (0 : Int32)), (.ref a3), (.ref b36), (.ref b36), (.int (0 : Int32)), (.ref b16)]))
  refine go (fun _ k => XS.imul X36.here hx rfl (hb hby d1_100) rfl k) ?_
  show G (T36.setTop (mkF m 101 #[.val (.ref a1), .val (.int (2 : Int32)), .val (.ref a3), .val (.int (Int32.ofNat n)), .val (.int (0 : Int32)), .val (.int (0 : Int32)), .val (.int (Int32.ofNat (n - 0))), .val (.int (Int32.ofNat cp))] [(.int ((Int32.ofNat (0 + cp)) * (2 : Int32))), (.int (0 : Int32)), (.ref a3), (.ref b36), (.ref b36), (.int (0 : Int32)), (.ref b16)]))
  rw [show ((Int32.ofNat (0 + cp)) * (2 : Int32)) = (Int32.ofNat ((0 + cp) * 2)) from own_onmul (0 + cp) 2]
  show G (T36.setTop (mkF m 101 #[.val (.ref a1), .val (.int (2 : Int32)), .val (.ref a3), .val (.int (Int32.ofNat n)), .val (.int (0 : Int32)), .val (.int (0 : Int32)), .val (.int (Int32.ofNat (n - 0))), .val (.int (Int32.ofNat cp))] [(.int (Int32.ofNat ((0 + cp) * 2))), (.int (0 : Int32)), (.ref a3), (.ref b36), (.ref b36), (.int (0 : Int32)), (.ref b16)]))
  obtain ⟨_, _, ⟨T45, L45, k45, n45⟩, -, X45, ⟨Lc45, hQ45, l45, y45, z45⟩, st45⟩ := Jvm.LawKit.callS X36 hx (y := (⟨"java/util/Arrays", "copyOfRange", "([JII)[J"⟩ : MethodName)) hown (mvT hZ (hw _ (List.mem_of_getElem? (i := 30) rfl))) (mvT hZ (hw _ (List.mem_of_getElem? (i := 31) rfl))) (mvT hZ (hw _ (List.mem_of_getElem? (i := 32) rfl))) (mvT hZ (hw _ (List.mem_of_getElem? (i := 33) rfl))) (by decide) (backOf (W := 4) (rm5 l Z a0 hw [] a3 ((0 + cp) * 2) 6 kw0 h36 n0 Zs36 f41 f42 (by omega) (by omega) (by omega)) hZ (hw _ (List.mem_of_getElem? (i := 33) rfl)) (hw _ (List.mem_of_getElem? (i := 32) rfl)) (by decide) (by decide)) (g := (mkF m 101 #[.val (.ref a1), .val (.int (2 : Int32)), .val (.ref a3), .val (.int (Int32.ofNat n)), .val (.int (0 : Int32)), .val (.int (0 : Int32)), .val (.int (Int32.ofNat (n - 0))), .val (.int (Int32.ofNat cp))] [(.int (Int32.ofNat ((0 + cp) * 2))), (.int (0 : Int32)), (.ref a3), (.ref b36), (.ref b36), (.int (0 : Int32)), (.ref b16)])) rfl (by rw [hml]; rfl) (argsL := [(.ref a3), (.int (0 : Int32)), (.int (Int32.ofNat ((0 + cp) * 2)))]) (rest := [(.ref b36), (.ref b36), (.int (0 : Int32)), (.ref b16)]) (lenOf pd_1_1 rfl) rfl (by show 2 * 0 + _ ≤ _; exact Nat.le_of_eq rfl) (hb hby d1_101) (fun _ _ => ⟨rfl, e36, (by decide : 2 + 1 ≤ _), (by decide : 3 + 12 ≤ _)⟩)
  dsimp only [Pt.U, Pt.locs, Pt.cells, Pt.slots] at X45 l45 y45 z45 st45 hQ45
  subst l45 y45 z45
  obtain ⟨bc45, kc45, rfl, N45q, Kc45, c45_0, c45_1, c45_2⟩ := hQ45
  have ne_a1_bc45 : a1 ≠ bc45 := Nat.ne_of_lt (Nat.lt_of_lt_of_le f37.lt c45_0)
  have ne_a3_bc45 : a3 ≠ bc45 := Nat.ne_of_lt (Nat.lt_of_lt_of_le f41.lt c45_0)
  have ne_b16_bc45 : b16 ≠ bc45 := Nat.ne_of_lt (Nat.lt_of_lt_of_le f43.lt c45_0)
  have ne_b36_bc45 : b36 ≠ bc45 := Nat.ne_of_lt (Nat.lt_of_lt_of_le A36.lt c45_0)
  have g_bc45 : n0 ≤ bc45 := Nat.le_trans Zs36 c45_0
  have sz_bc45 : h0.size ≤ bc45 := Nat.le_trans K36.1 c45_0
  have f46 := f37.keep Kc45
  have f47 := f38.keep Kc45 nin0
  have f48 := f39.keep Kc45 nin0
  have f49 := f40.keep Kc45 nin0
  have f50 := f41.keep Kc45 nin0
  have f51 := f42.keep Kc45
  have f52 := f43.keep Kc45
  have f53 := f44.keep Kc45 nin0
  have f54 := A36.keep Kc45
  have f55 := F36_words.keep Kc45 nin0
  have f56 := F36_size.keep Kc45 nin0
  have K45 : Keep h0 T45.heap [a1] := K36.trans Kc45 all0
  have Zs45 : n0 ≤ T45.heap.size := Nat.le_trans Zs36 Kc45.1
  have N45 := Fr.app N34 N45q
  refine go st45 ?_
  show G (T45.setTop (mkF m 104 #[.val (.ref a1), .val (.int (2 : Int32)), .val (.ref a3), .val (.int (Int32.ofNat n)), .val (.int (0 : Int32)), .val (.int (0 : Int32)), .val (.int (Int32.ofNat (n - 0))), .val (.int (Int32.ofNat cp))] [(.ref bc45), (.ref b36), (.ref b36), (.int (0 : Int32)), (.ref b16)]))
  refine go (fun _ k => XS.iload X45.here hx rfl (hb hby d1_104) rfl k) ?_
  show G (T45.setTop (mkF m 106 #[.val (.ref a1), .val (.int (2 : Int32)), .val (.ref a3), .val (.int (Int32.ofNat n)), .val (.int (0 : Int32)), .val (.int (0 : Int32)), .val (.int (Int32.ofNat (n - 0))), .val (.int (Int32.ofNat cp))] [(.int (Int32.ofNat (n - 0))), (.ref bc45), (.ref b36), (.ref b36), (.int (0 : Int32)), (.ref b16)]))
  obtain ⟨_, ⟨T57, L57, k57, n57⟩, X57, ⟨Lc57, hQ57, l57, y57, z57⟩, st57⟩ := own_specR X45 hx hZ (y := (⟨"com/example/kerros/kerros/store/SortedChunks$Chunk", "<init>", "([JI)V"⟩ : MethodName)) rfl hown (hw _ (List.mem_of_getElem? (i := 45) rfl)) (hw _ (List.mem_of_getElem? (i := 46) rfl)) (hw _ (List.mem_of_getElem? (i := 47) rfl)) (by decide) (backOf (W := 3) (rm8 l Z a0 hw [] b36 bc45 (Int32.ofNat (n - 0)) T45.heap n0 Zs45 f55 f56 f54 g_b36) hZ (hw _ (List.mem_of_getElem? (i := 47) rfl)) (hw _ (List.mem_of_getElem? (i := 29) rfl)) (by decide) (by decide)) (g := (mkF m 106 #[.val (.ref a1), .val (.int (2 : Int32)), .val (.ref a3), .val (.int (Int32.ofNat n)), .val (.int (0 : Int32)), .val (.int (0 : Int32)), .val (.int (Int32.ofNat (n - 0))), .val (.int (Int32.ofNat cp))] [(.int (Int32.ofNat (n - 0))), (.ref bc45), (.ref b36), (.ref b36), (.int (0 : Int32)), (.ref b16)])) rfl (by rw [hml]; rfl) (a := b36) (argsL := [(.ref bc45), (.int (Int32.ofNat (n - 0)))]) (rest := [(.ref b36), (.int (0 : Int32)), (.ref b16)]) (lenOf pd_1_2 rfl) rfl (by show 2 * 0 + _ ≤ _; exact Nat.le_of_eq rfl) (hb hby d1_106) ⟨rfl, rfl, (by decide : 3 + 0 ≤ _), (by decide : 15 + 0 ≤ _)⟩
  dsimp only [Pt.U, Pt.locs, Pt.cells, Pt.slots] at X57 l57 y57 z57 st57 hQ57
  subst l57 y57 z57
  obtain ⟨rfl, N57q, Kc57, c57_0, c57_1⟩ := hQ57
  have f58 := f46.keep Kc57
  have f59 := f47.keep Kc57 (ninS ne_a1_b36 nin0)
  have f60 := f48.keep Kc57 (ninS ne_a1_b36 nin0)
  have f61 := f49.keep Kc57 (ninS ne_a1_b36 nin0)
  have f62 := f50.keep Kc57 (ninS ne_a3_b36 nin0)
  have f63 := f51.keep Kc57
  have f64 := f52.keep Kc57
  have f65 := f53.keep Kc57 (ninS ne_b16_b36 nin0)
  have f66 := f54.keep Kc57
  have f67 := c45_1.keep Kc57 (ninS (Ne.symm ne_b36_bc45) nin0)
  have f68 := c45_2.keep Kc57
  have K57 : Keep h0 T57.heap [a1] := K45.trans Kc57 (allS (P := fun x => x ∈ [a1] ∨ h0.size ≤ x) (Or.inr sz_b36) all0)
  have Zs57 : n0 ≤ T57.heap.size := Nat.le_trans Zs45 Kc57.1
  have N57 := Fr.app N45 N57q
  refine go (fun _ k => st57.trans k) ?_
  show G (T57.setTop (mkF m 109 #[.val (.ref a1), .val (.int (2 : Int32)), .val (.ref a3), .val (.int (Int32.ofNat n)), .val (.int (0 : Int32)), .val (.int (0 : Int32)), .val (.int (Int32.ofNat (n - 0))), .val (.int (Int32.ofNat cp))] [(.ref b36), (.int (0 : Int32)), (.ref b16)]))
  obtain ⟨cl69, Ar69, qk69, qs69, qn69, qh69, qg69⟩ := id f65
  obtain ⟨T69, h69, X69, e69, W69, st69⟩ := stR X57 hx hZ rfl Ar69 (j := (0 : Int32)) (inb_of qs69 ⟨by decide, by decide⟩) rfl (Sto.ofV Ar69 qk69 O16 (Ins.self f66)) (g := (mkF m 109 #[.val (.ref a1), .val (.int (2 : Int32)), .val (.ref a3), .val (.int (Int32.ofNat n)), .val (.int (0 : Int32)), .val (.int (0 : Int32)), .val (.int (Int32.ofNat (n - 0))), .val (.int (Int32.ofNat cp))] [(.ref b36), (.int (0 : Int32)), (.ref b16)])) rfl rfl (hb hby d1_109)
  have V69 : Arv Z h69 b16 k16 (.object "com/example/kerros/kerros/store/SortedChunks$Chunk") (1 : Int32) [(.ref b36)] .null := Arv.set Ar69 qk69 qs69 qn69 qh69 qg69 rfl W69 0 rfl (Nat.le_of_ble_eq_true rfl)
  have f70 := f58.wr W69
  have f71 := f59.other W69 (Or.inl ne_a1_b16)
  have f72 := f60.other W69 (Or.inl ne_a1_b16)
  have f73 := f61.other W69 (Or.inl ne_a1_b16)
  have f74 := f62.other W69 ne_a3_b16
  have f75 := f63.wr W69
  have f76 := f64.wr W69
  have f77 := f66.wr W69
  have f78 := f67.other W69 (Ne.symm ne_b16_bc45)
  have f79 := f68.wr W69
  have f80 := c57_0.other W69 (Or.inl (Ne.symm ne_b16_b36))
  have f81 := c57_1.other W69 (Or.inl (Ne.symm ne_b16_b36))
  have K69 : Keep h0 h69 [a1] := K57.wr W69 (Or.inr sz_b16)
  have Zs69 : n0 ≤ h69.size := Nat.le_trans Zs57 (Keep.of_wr W69).1
  have N69 := Fr.snoc X69 N57 g_b16
  refine go st69 ?_
  show G (T69.setTop (mkF m 110 #[.val (.ref a1), .val (.int (2 : Int32)), .val (.ref a3), .val (.int (Int32.ofNat n)), .val (.int (0 : Int32)), .val (.int (0 : Int32)), .val (.int (Int32.ofNat (n - 0))), .val (.int (Int32.ofNat cp))] []))
  refine go (fun _ k => XS.iinc X69.here hx rfl (hb hby d1_110) rfl (l' := #[.val (.ref a1), .val (.int (2 : Int32)), .val (.ref a3), .val (.int (Int32.ofNat n)), .val (.int ((0 : Int32) + (1 : Int32))), .val (.int (0 : Int32)), .val (.int (Int32.ofNat (n - 0))), .val (.int (Int32.ofNat cp))]) rfl k) ?_
  show G (T69.setTop (mkF m 113 #[.val (.ref a1), .val (.int (2 : Int32)), .val (.ref a3), .val (.int (Int32.ofNat n)), .val (.int ((0 : Int32) + (1 : Int32))), .val (.int (0 : Int32)), .val (.int (Int32.ofNat (n - 0))), .val (.int (Int32.ofNat cp))] []))
  rw [show ((0 : Int32) + (1 : Int32) : Int32) = (1 : Int32) from by decide]
  show G (T69.setTop (mkF m 113 #[.val (.ref a1), .val (.int (2 : Int32)), .val (.ref a3), .val (.int (Int32.ofNat n)), .val (.int (1 : Int32)), .val (.int (0 : Int32)), .val (.int (Int32.ofNat (n - 0))), .val (.int (Int32.ofNat cp))] []))
  refine go (fun _ k => XS.goto X69.here hx rfl (pc0 := 113) (pc' := 42) rfl (hb hby d1_113) (by decide) (by decide) k) ?_
  show G (T69.setTop (mkF m 42 #[.val (.ref a1), .val (.int (2 : Int32)), .val (.ref a3), .val (.int (Int32.ofNat n)), .val (.int (1 : Int32)), .val (.int (0 : Int32)), .val (.int (Int32.ofNat (n - 0))), .val (.int (Int32.ofNat cp))] []))
  refine go (fun _ k => XS.iload X69.here hx rfl (hb hby d1_42) rfl k) ?_
  show G (T69.setTop (mkF m 44 #[.val (.ref a1), .val (.int (2 : Int32)), .val (.ref a3), .val (.int (Int32.ofNat n)), .val (.int (1 : Int32)), .val (.int (0 : Int32)), .val (.int (Int32.ofNat (n - 0))), .val (.int (Int32.ofNat cp))] [(.int (1 : Int32))]))
  refine go (fun _ k => XS.aloadN X69.here hx rfl (hb hby d1_44) rfl rfl k) ?_
  show G (T69.setTop (mkF m 45 #[.val (.ref a1), .val (.int (2 : Int32)), .val (.ref a3), .val (.int (Int32.ofNat n)), .val (.int (1 : Int32)), .val (.int (0 : Int32)), .val (.int (Int32.ofNat (n - 0))), .val (.int (Int32.ofNat cp))] [(.ref a1), (.int (1 : Int32))]))
  obtain ⟨T82, X82, e82, st82⟩ := getF X69 hx hZ hown (host := "") (Or.inl (hw _ (List.mem_of_getElem? (i := 19) rfl))) Via.refl e69 f72 (g := (mkF m 45 #[.val (.ref a1), .val (.int (2 : Int32)), .val (.ref a3), .val (.int (Int32.ofNat n)), .val (.int (1 : Int32)), .val (.int (0 : Int32)), .val (.int (Int32.ofNat (n - 0))), .val (.int (Int32.ofNat cp))] [(.ref a1), (.int (1 : Int32))])) rfl rfl (hb hby d1_45)
  refine go st82 ?_
  show G (T82.setTop (mkF m 48 #[.val (.ref a1), .val (.int (2 : Int32)), .val (.ref a3), .val (.int (Int32.ofNat n)), .val (.int (1 : Int32)), .val (.int (0 : Int32)), .val (.int (Int32.ofNat (n - 0))), .val (.int (Int32.ofNat cp))] [(.int (1 : Int32)), (.int (1 : Int32))]))
  have hc83 : ¬ ((1 : Int32) < (1 : Int32)) := (by decide)
  refine go (fun _ k => XS.icmpYes X82.here hx rfl (pc0 := 48) (pc' := 116) rfl (hb hby d1_48) rfl (flt hc83).2.1 (by decide) (by decide) k) ?_
  show G (T82.setTop (mkF m 116 #[.val (.ref a1), .val (.int (2 : Int32)), .val (.ref a3), .val (.int (Int32.ofNat n)), .val (.int (1 : Int32)), .val (.int (0 : Int32)), .val (.int (Int32.ofNat (n - 0))), .val (.int (Int32.ofNat cp))] []))
  rw [hG]
  refine own_fin X82 Bd.notSynchronized (v := none) (fun _ => rfl) (fun fs hr => X82.returnOut hx Bd.returns (hb hby d1_116) hr) ?_ (by decide) (by decide)
  show Q1w2 Z a1 a3 n kw0 h0 n0 (none) T82.heap _
  rw [e82]
  exact ⟨b16, b36, bc45, k16, kc45, (0 + cp), rfl, N69, K69, sz_b16, sz_b36, sz_bc45, ne_b16_b36, ne_b16_bc45, ne_b36_bc45, f71, f72, f73, V69, f77, f80, f81, f78, f79, by omega, by omega⟩

theorem ef_rm18w2 (m : MethodId) (a1 : Addr) (i : Nat) : entryFrame m #[(.ref a1), (.int (Int32.ofNat i)), (.int (2 : Int32))] 3 = mkF m 0 #[.val (.ref a1), .val (.int (Int32.ofNat i)), .val (.int (2 : Int32))] [] := by first | (simp [entryFrame, mkF, argsToLocals, Value.category]; done) | rfl
def Q18w2 (Z : State) (a1 : Addr) (wa : Addr) (kw : ClassId) (sz cb i : Nat) (h0 : Heap) (n0 : Nat) (v : Option Value) (h : Heap) (L : List Loc) : Prop := v = none ∧ Fr n0 L ∧ Keep h0 h [a1, wa] ∧ Fld Z h a1 "com/example/kerros/kerros/store/SortedChunks$Chunk" "words" "[J" (.ref wa) ∧ Fld Z h a1 "com/example/kerros/kerros/store/SortedChunks$Chunk" "size" "I" (.int (Int32.ofNat (sz - 1))) ∧ LA Z h wa kw (cb * 2)
set_option maxRecDepth 65536 in
set_option maxHeartbeats 40000000 in
theorem rm18w2 (l : Launch) (Z : State) (a0 : Array Value) (hw : ∀ d ∈ tables_1, d.before a0 Z = true) (ws : List Jvm.Cond) (a1 : Addr) (wa : Addr) (kw : ClassId) (sz cb i : Nat) (h0 : Heap) (n0 : Nat) (Z0 : n0 ≤ h0.size) (E : Exa Z h0 a1 "com/example/kerros/kerros/store/SortedChunks$Chunk") (F1 : Fld Z h0 a1 "com/example/kerros/kerros/store/SortedChunks$Chunk" "words" "[J" (.ref wa)) (F2 : Fld Z h0 a1 "com/example/kerros/kerros/store/SortedChunks$Chunk" "size" "I" (.int (Int32.ofNat sz))) (VL : LA Z h0 wa kw (cb * 2)) (EL : Exa Z h0 wa "[J") (hne : a1 ≠ wa) (g_a1 : n0 ≤ a1) (g_wa : n0 ≤ wa) (hsc : sz ≤ cb) (hc5 : cb ≤ 5) (hi : i < sz) :
    MetFree l (⟨"com/example/kerros/kerros/store/SortedChunks$Chunk", "remove", "(II)V"⟩ : MethodName) (head1 (Jvm.Cond.code (⟨"com/example/kerros/kerros/store/SortedChunks$Chunk", "remove", "(II)V"⟩ : MethodName) prog_87_method_4_code 3 none :: ws) ({ frames := 1, cells := 0, slots := 0, locals := 30 } : Room)) (fun a U => a = #[(.ref a1), (.int (Int32.ofNat i)), (.int (2 : Int32))] ∧ Z.Warmed39 U.vm ∧ U.heap = h0) (fun _ _ _ _ _ => True) (fun _ U o U' => ∃ v L, o = .returned v ∧ Q18w2 Z a1 wa kw sz cb i h0 n0 v U'.heap L ∧ FrameEnd U o U' L ({ frames := 1, cells := 0, slots := 0, locals := 30 } : Room).cells ({ frames := 1, cells := 0, slots := 0, locals := 30 } : Room).slots) := by
  refine MetFree.of_bodySF (plainFor_of_name pn_18) hisR ?_
  intro p e s m args below meth c s₁ Bd hml0 hP hK
  obtain ⟨rfl, hZ, hh⟩ := hP
  have hx := Bd.exec
  have hby := Bd.bytes
  have hml : c.maxLocals = 3 := hml0
  have hown : s.vm.findClass "com/example/kerros/kerros/store/SortedChunks$Chunk" = some m.cls := findClass_of_methodNamed Bd.named
  have hnm := (name_of_methodNamed Bd.named Bd.method).1
  have X0 : Stand p l e ({ frames := 1, cells := 0, slots := 0, locals := 30 } : Room) s m #[(.ref a1), (.int (Int32.ofNat i)), (.int (2 : Int32))] below meth c s₁ [] 0 0 := Stand.of_body Bd
  have e0 : s₁.heap = h0 := by rw [← hh, Bd.state]; rfl
  have N0 := Fr.nil n0
  obtain ⟨G, hG⟩ : ∃ G : State → Prop, G = OwnG p e below s ({ frames := 1, cells := 0, slots := 0, locals := 30 } : Room).cells ({ frames := 1, cells := 0, slots := 0, locals := 30 } : Room).slots (Q18w2 Z a1 wa kw sz cb i h0 n0) := ⟨_, rfl⟩
  have go : ∀ {A B : State}, (∀ t, Steps p.tables e below A t → Steps p.tables e below B t) → G A → G B := fun h k => by rw [hG] at k ⊢; exact OwnG.go h k
  suffices k0 : G (s₁.setTop (mkF m 0 #[.val (.ref a1), .val (.int (Int32.ofNat i)), .val (.int (2 : Int32))] [])) by
    rw [hG] at k0; exact OwnG.go (fun t k => castTop (ef_rm18w2 m a1 i) k) k0
  have K0 : Keep h0 h0 [a1, wa] := Keep.refl _ _
  refine go (fun _ k => XS.aloadN X0.here hx rfl (hb hby d18_0) rfl rfl k) ?_
  show G (s₁.setTop (mkF m 1 #[.val (.ref a1), .val (.int (Int32.ofNat i)), .val (.int (2 : Int32))] [(.ref a1)]))
  obtain ⟨T1, X1, e1, st1⟩ := getF X0 hx hZ hown (host := "") (Or.inl (hw _ (List.mem_of_getElem? (i := 49) rfl))) Via.refl e0 F1 (g := (mkF m 1 #[.val (.ref a1), .val (.int (Int32.ofNat i)), .val (.int (2 : Int32))] [(.ref a1)])) rfl rfl (hb hby d18_1)
  refine go st1 ?_
  show G (T1.setTop (mkF m 4 #[.val (.ref a1), .val (.int (Int32.ofNat i)), .val (.int (2 : Int32))] [(.ref wa)]))
  refine go (fun _ k => XS.iloadN X1.here hx rfl (hb hby d18_4) rfl k) ?_
  show G (T1.setTop (mkF m 5 #[.val (.ref a1), .val (.int (Int32.ofNat i)), .val (.int (2 : Int32))] [(.int (Int32.ofNat i)), (.ref wa)]))
  refine go (fun _ k => XS.iconst X1.here hx rfl (hb hby d18_5) k) ?_
  show G (T1.setTop (mkF m 6 #[.val (.ref a1), .val (.int (Int32.ofNat i)), .val (.int (2 : Int32))] [(.int (1 : Int32)), (.int (Int32.ofNat i)), (.ref wa)]))
  refine go (fun _ k => XS.iadd X1.here hx rfl (hb hby d18_6) rfl k) ?_
  show G (T1.setTop (mkF m 7 #[.val (.ref a1), .val (.int (Int32.ofNat i)), .val (.int (2 : Int32))] [(.int ((Int32.ofNat i) + (1 : Int32))), (.ref wa)]))
  rw [show ((Int32.ofNat i) + (1 : Int32)) = (Int32.ofNat (i + 1)) from own_onadd i 1]
  show G (T1.setTop (mkF m 7 #[.val (.ref a1), .val (.int (Int32.ofNat i)), .val (.int (2 : Int32))] [(.int (Int32.ofNat (i + 1))), (.ref wa)]))
  refine go (fun _ k => XS.iloadN X1.here hx rfl (hb hby d18_7) rfl k) ?_
  show G (T1.setTop (mkF m 8 #[.val (.ref a1), .val (.int (Int32.ofNat i)), .val (.int (2 : Int32))] [(.int (2 : Int32)), (.int (Int32.ofNat (i + 1))), (.ref wa)]))
  refine go (fun _ k => XS.imul X1.here hx rfl (hb hby d18_8) rfl k) ?_
  show G (T1.setTop (mkF m 9 #[.val (.ref a1), .val (.int (Int32.ofNat i)), .val (.int (2 : Int32))] [(.int ((Int32.ofNat (i + 1)) * (2 : Int32))), (.ref wa)]))
  rw [show ((Int32.ofNat (i + 1)) * (2 : Int32)) = (Int32.ofNat ((i + 1) * 2)) from own_onmul (i + 1) 2]
  show G (T1.setTop (mkF m 9 #[.val (.ref a1), .val (.int (Int32.ofNat i)), .val (.int (2 : Int32))] [(.int (Int32.ofNat ((i + 1) * 2))), (.ref wa)]))
  refine go (fun _ k => XS.aloadN X1.here hx rfl (hb hby d18_9) rfl rfl k) ?_
  show G (T1.setTop (mkF m 10 #[.val (.ref a1), .val (.int (Int32.ofNat i)), .val (.int (2 : Int32))] [(.ref a1), (.int (Int32.ofNat ((i + 1) * 2))), (.ref wa)]))
  obtain ⟨T2, X2, e2, st2⟩ := getF X1 hx hZ hown (host := "") (Or.inl (hw _ (List.mem_of_getElem? (i := 49) rfl))) Via.refl e1 F1 (g := (mkF m 10 #[.val (.ref a1), .val (.int (Int32.ofNat i)), .val (.int (2 : Int32))] [(.ref a1), (.int (Int32.ofNat ((i + 1) * 2))), (.ref wa)])) rfl rfl (hb hby d18_10)
  refine go st2 ?_
  show G (T2.setTop (mkF m 13 #[.val (.ref a1), .val (.int (Int32.ofNat i)), .val (.int (2 : Int32))] [(.ref wa), (.int (Int32.ofNat ((i + 1) * 2))), (.ref wa)]))
  refine go (fun _ k => XS.iloadN X2.here hx rfl (hb hby d18_13) rfl k) ?_
  show G (T2.setTop (mkF m 14 #[.val (.ref a1), .val (.int (Int32.ofNat i)), .val (.int (2 : Int32))] [(.int (Int32.ofNat i)), (.ref wa), (.int (Int32.ofNat ((i + 1) * 2))), (.ref wa)]))
  refine go (fun _ k => XS.iloadN X2.here hx rfl (hb hby d18_14) rfl k) ?_
  show G (T2.setTop (mkF m 15 #[.val (.ref a1), .val (.int (Int32.ofNat i)), .val (.int (2 : Int32))] [(.int (2 : Int32)), (.int (Int32.ofNat i)), (.ref wa), (.int (Int32.ofNat ((i + 1) * 2))), (.ref wa)]))
  refine go (fun _ k => XS.imul X2.here hx rfl (hb hby d18_15) rfl k) ?_
  show G (T2.setTop (mkF m 16 #[.val (.ref a1), .val (.int (Int32.ofNat i)), .val (.int (2 : Int32))] [(.int ((Int32.ofNat i) * (2 : Int32))), (.ref wa), (.int (Int32.ofNat ((i + 1) * 2))), (.ref wa)]))
  rw [show ((Int32.ofNat i) * (2 : Int32)) = (Int32.ofNat (i * 2)) from own_onmul i 2]
  show G (T2.setTop (mkF m 16 #[.val (.ref a1), .val (.int (Int32.ofNat i)), .val (.int (2 : Int32))] [(.int (Int32.ofNat (i * 2))), (.ref wa), (.int (Int32.ofNat ((i + 1) * 2))), (.ref wa)]))
  refine go (fun _ k => XS.aloadN X2.here hx rfl (hb hby d18_16) rfl rfl k) ?_
  show G (T2.setTop (mkF m 17 #[.val (.ref a1), .val (.int (Int32.ofNat i)), .val (.int (2 : Int32))] [(.ref a1), (.int (Int32.ofNat (i * 2))), (.ref wa), (.int (Int32.ofNat ((i + 1) * 2))), (.ref wa)]))
  obtain ⟨T3, X3, e3, st3⟩ := getF X2 hx hZ hown (host := "") (Or.inl (hw _ (List.mem_of_getElem? (i := 51) rfl))) Via.refl e2 F2 (g := (mkF m 17 #[.val (.ref a1), .val (.int (Int32.ofNat i)), .val (.int (2 : Int32))] [(.ref a1), (.int (Int32.ofNat (i * 2))), (.ref wa), (.int (Int32.ofNat ((i + 1) * 2))), (.ref wa)])) rfl rfl (hb hby d18_17)
  refine go st3 ?_
  show G (T3.setTop (mkF m 20 #[.val (.ref a1), .val (.int (Int32.ofNat i)), .val (.int (2 : Int32))] [(.int (Int32.ofNat sz)), (.int (Int32.ofNat (i * 2))), (.ref wa), (.int (Int32.ofNat ((i + 1) * 2))), (.ref wa)]))
  refine go (fun _ k => XS.iloadN X3.here hx rfl (hb hby d18_20) rfl k) ?_
  show G (T3.setTop (mkF m 21 #[.val (.ref a1), .val (.int (Int32.ofNat i)), .val (.int (2 : Int32))] [(.int (Int32.ofNat i)), (.int (Int32.ofNat sz)), (.int (Int32.ofNat (i * 2))), (.ref wa), (.int (Int32.ofNat ((i + 1) * 2))), (.ref wa)]))
  refine go (fun _ k => XS.isub X3.here hx rfl (hb hby d18_21) rfl k) ?_
  show G (T3.setTop (mkF m 22 #[.val (.ref a1), .val (.int (Int32.ofNat i)), .val (.int (2 : Int32))] [(.int ((Int32.ofNat sz) - (Int32.ofNat i))), (.int (Int32.ofNat (i * 2))), (.ref wa), (.int (Int32.ofNat ((i + 1) * 2))), (.ref wa)]))
  rw [show ((Int32.ofNat sz) - (Int32.ofNat i)) = (Int32.ofNat (sz - i)) from own_onsub sz i (by omega)]
  show G (T3.setTop (mkF m 22 #[.val (.ref a1), .val (.int (Int32.ofNat i)), .val (.int (2 : Int32))] [(.int (Int32.ofNat (sz - i))), (.int (Int32.ofNat (i * 2))), (.ref wa), (.int (Int32.ofNat ((i + 1) * 2))), (.ref wa)]))
  refine go (fun _ k => XS.iconst X3.here hx rfl (hb hby d18_22) k) ?_
  show G (T3.setTop (mkF m 23 #[.val (.ref a1), .val (.int (Int32.ofNat i)), .val (.int (2 : Int32))] [(.int (1 : Int32)), (.int (Int32.ofNat (sz - i))), (.int (Int32.ofNat (i * 2))), (.ref wa), (.int (Int32.ofNat ((i + 1) * 2))), (.ref wa)]))
  refine go (fun _ k => XS.isub X3.here hx rfl (hb hby d18_23) rfl k) ?_
  show G (T3.setTop (mkF m 24 #[.val (.ref a1), .val (.int (Int32.ofNat i)), .val (.int (2 : Int32))] [(.int ((Int32.ofNat (sz - i)) - (1 : Int32))), (.int (Int32.ofNat (i * 2))), (.ref wa), (.int (Int32.ofNat ((i + 1) * 2))), (.ref wa)]))
  rw [show ((Int32.ofNat (sz - i)) - (1 : Int32)) = (Int32.ofNat ((sz - i) - 1)) from own_onsub (sz - i) 1 (by omega)]
  show G (T3.setTop (mkF m 24 #[.val (.ref a1), .val (.int (Int32.ofNat i)), .val (.int (2 : Int32))] [(.int (Int32.ofNat ((sz - i) - 1))), (.int (Int32.ofNat (i * 2))), (.ref wa), (.int (Int32.ofNat ((i + 1) * 2))), (.ref wa)]))
  refine go (fun _ k => XS.iloadN X3.here hx rfl (hb hby d18_24) rfl k) ?_
  show G (T3.setTop (mkF m 25 #[.val (.ref a1), .val (.int (Int32.ofNat i)), .val (.int (2 : Int32))] [(.int (2 : Int32)), (.int (Int32.ofNat ((sz - i) - 1))), (.int (Int32.ofNat (i * 2))), (.ref wa), (.int (Int32.ofNat ((i + 1) * 2))), (.ref wa)]))
  refine go (fun _ k => XS.imul X3.here hx rfl (hb hby d18_25) rfl k) ?_
  show G (T3.setTop (mkF m 26 #[.val (.ref a1), .val (.int (Int32.ofNat i)), .val (.int (2 : Int32))] [(.int ((Int32.ofNat ((sz - i) - 1)) * (2 : Int32))), (.int (Int32.ofNat (i * 2))), (.ref wa), (.int (Int32.ofNat ((i + 1) * 2))), (.ref wa)]))
  rw [show ((Int32.ofNat ((sz - i) - 1)) * (2 : Int32)) = (Int32.ofNat (((sz - i) - 1) * 2)) from own_onmul ((sz - i) - 1) 2]
  show G (T3.setTop (mkF m 26 #[.val (.ref a1), .val (.int (Int32.ofNat i)), .val (.int (2 : Int32))] [(.int (Int32.ofNat (((sz - i) - 1) * 2))), (.int (Int32.ofNat (i * 2))), (.ref wa), (.int (Int32.ofNat ((i + 1) * 2))), (.ref wa)]))
  obtain ⟨va4, la4, VA4⟩ := id VL
  obtain ⟨vb4, lb4, VB4⟩ := id VL
  have qN4 : (Int32.ofNat (((sz - i) - 1) * 2)).toNatClampNeg = (((sz - i) - 1) * 2) := own_onnat _ (by omega)
  have qD4 : (Int32.ofNat (i * 2)).toNatClampNeg = (i * 2) := own_onnat _ (by omega)
  have qS4 : (Int32.ofNat ((i + 1) * 2)).toNatClampNeg = ((i + 1) * 2) := own_onnat _ (by omega)
  have qA4 : (Int32.ofNat (cb * 2)).toNatClampNeg = (cb * 2) := own_onnat _ (by omega)
  have qB4 : (Int32.ofNat (cb * 2)).toNatClampNeg = (cb * 2) := own_onnat _ (by omega)
  have i44 : (Int32.ofNat ((i + 1) * 2)).toNatClampNeg + (Int32.ofNat (((sz - i) - 1) * 2)).toNatClampNeg ≤ (Int32.ofNat (cb * 2)).toNatClampNeg := by omega
  have i54 : (Int32.ofNat (i * 2)).toNatClampNeg + (Int32.ofNat (((sz - i) - 1) * 2)).toNatClampNeg ≤ (Int32.ofNat (cb * 2)).toNatClampNeg := by omega
  have i64 : (Int32.ofNat (i * 2)).toNatClampNeg + (Int32.ofNat (((sz - i) - 1) * 2)).toNatClampNeg ≤ vb4.length := by omega
  obtain ⟨T4, h4, Lx4, X4, e4, N4, Kp4, Vc4, st4⟩ := cpA X3 hx hZ hown (hw _ (List.mem_of_getElem? (i := 84) rfl)) (hw _ (List.mem_of_getElem? (i := 44) rfl)) (hw _ (List.mem_of_getElem? (i := 42) rfl)) (hw _ (List.mem_of_getElem? (i := 43) rfl)) e3 VA4 VB4 (sp := Int32.ofNat ((i + 1) * 2)) (dp := Int32.ofNat (i * 2)) (nn := Int32.ofNat (((sz - i) - 1) * 2)) (Or.inl ⟨rfl, rfl⟩) (own_onnn _ (by omega)) (own_onnn _ (by omega)) (own_onnn _ (by omega)) i44 i54 rfl i64 N0 g_wa (g := (mkF m 26 #[.val (.ref a1), .val (.int (Int32.ofNat i)), .val (.int (2 : Int32))] [(.int (Int32.ofNat (((sz - i) - 1) * 2))), (.int (Int32.ofNat (i * 2))), (.ref wa), (.int (Int32.ofNat ((i + 1) * 2))), (.ref wa)])) rfl (by rw [hml]; rfl) rfl (hb hby d18_26) (by decide) (W := 0) (by show 2 * 0 + _ ≤ _; exact Nat.le_of_eq rfl) (by decide)
  have f5 := E.keep Kp4
  have f6 := F1.keep Kp4 (ninS hne nin0)
  have f7 := F2.keep Kp4 (ninS hne nin0)
  have f8 := EL.keep Kp4
  have K4 : Keep h0 h4 [a1, wa] := K0.trans Kp4 (allS (P := fun x => x ∈ [a1, wa] ∨ h0.size ≤ x) (Or.inl (List.mem_of_getElem? (i := 1) rfl)) all0)
  have Zs4 : n0 ≤ h4.size := Nat.le_trans Z0 Kp4.1
  have V4 : LA Z h4 wa kw (cb * 2) := ⟨_, own_cplen _ _ _ _ _ lb4 (by rw [List.length_map, List.length_range]) (by omega), Vc4⟩
  refine go st4 ?_
  show G (T4.setTop (mkF m 29 #[.val (.ref a1), .val (.int (Int32.ofNat i)), .val (.int (2 : Int32))] []))
  refine go (fun _ k => XS.aloadN X4.here hx rfl (hb hby d18_29) rfl rfl k) ?_
  show G (T4.setTop (mkF m 30 #[.val (.ref a1), .val (.int (Int32.ofNat i)), .val (.int (2 : Int32))] [(.ref a1)]))
  refine go (fun _ k => XS.dup X4.here hx rfl (hb hby d18_30) rfl rfl k) ?_
  show G (T4.setTop (mkF m 31 #[.val (.ref a1), .val (.int (Int32.ofNat i)), .val (.int (2 : Int32))] [(.ref a1), (.ref a1)]))
  obtain ⟨T9, X9, e9, st9⟩ := getF X4 hx hZ hown (host := "") (Or.inl (hw _ (List.mem_of_getElem? (i := 51) rfl))) Via.refl e4 f7 (g := (mkF m 31 #[.val (.ref a1), .val (.int (Int32.ofNat i)), .val (.int (2 : Int32))] [(.ref a1), (.ref a1)])) rfl rfl (hb hby d18_31)
  refine go st9 ?_
  show G (T9.setTop (mkF m 34 #[.val (.ref a1), .val (.int (Int32.ofNat i)), .val (.int (2 : Int32))] [(.int (Int32.ofNat sz)), (.ref a1)]))
  refine go (fun _ k => XS.iconst X9.here hx rfl (hb hby d18_34) k) ?_
  show G (T9.setTop (mkF m 35 #[.val (.ref a1), .val (.int (Int32.ofNat i)), .val (.int (2 : Int32))] [(.int (1 : Int32)), (.int (Int32.ofNat sz)), (.ref a1)]))
  refine go (fun _ k => XS.isub X9.here hx rfl (hb hby d18_35) rfl k) ?_
  show G (T9.setTop (mkF m 36 #[.val (.ref a1), .val (.int (Int32.ofNat i)), .val (.int (2 : Int32))] [(.int ((Int32.ofNat sz) - (1 : Int32))), (.ref a1)]))
  rw [show ((Int32.ofNat sz) - (1 : Int32)) = (Int32.ofNat (sz - 1)) from own_onsub sz 1 (by omega)]
  show G (T9.setTop (mkF m 36 #[.val (.ref a1), .val (.int (Int32.ofNat i)), .val (.int (2 : Int32))] [(.int (Int32.ofNat (sz - 1))), (.ref a1)]))
  obtain ⟨T10, h10, X10, e10, W10, st10⟩ := putF X9 hx hZ hown (host := "") (Or.inl (hw _ (List.mem_of_getElem? (i := 51) rfl))) Via.refl e9 f7 f5 (Or.inl (hw _ (List.mem_of_getElem? (i := 52) rfl))) (hw _ (List.mem_of_getElem? (i := 28) rfl)) (ty := .int) (by decide) rfl rfl (g := (mkF m 36 #[.val (.ref a1), .val (.int (Int32.ofNat i)), .val (.int (2 : Int32))] [(.int (Int32.ofNat (sz - 1))), (.ref a1)])) rfl rfl (hb hby d18_36)
  have f11 := f5.wr W10
  have f12 := f6.other W10 (Or.inr (slot_ne (Or.inl (hw _ (List.mem_of_getElem? (i := 50) rfl))) (Or.inl (hw _ (List.mem_of_getElem? (i := 52) rfl))) (by decide) (t := (.array .long)) (t' := .int) (by decide) (by decide)))
  have f13 := f8.wr W10
  have f14 := V4.other W10 (Ne.symm hne)
  have K10 : Keep h0 h10 [a1, wa] := K4.wr W10 (Or.inl (List.mem_of_getElem? (i := 0) rfl))
  have Zs10 : n0 ≤ h10.size := Nat.le_trans Zs4 (Keep.of_wr W10).1
  have N10 := Fr.snoc X10 N4 g_a1
  have Fw10 := f7.same W10
  refine go st10 ?_
  show G (T10.setTop (mkF m 39 #[.val (.ref a1), .val (.int (Int32.ofNat i)), .val (.int (2 : Int32))] []))
  rw [hG]
  refine own_fin X10 Bd.notSynchronized (v := none) (fun _ => rfl) (fun fs hr => X10.returnOut hx Bd.returns (hb hby d18_39) hr) ?_ (by decide) (by decide)
  show Q18w2 Z a1 wa kw sz cb i h0 n0 (none) T10.heap _
  rw [e10]
  exact ⟨rfl, N10, K10, f12, Fw10, f14⟩

theorem ef_rm13w2 (m : MethodId) (a1 : Addr) (i : Nat) : entryFrame m #[(.ref a1), (.int (Int32.ofNat i)), (.int (2 : Int32))] 3 = mkF m 0 #[.val (.ref a1), .val (.int (Int32.ofNat i)), .val (.int (2 : Int32))] [] := by first | (simp [entryFrame, mkF, argsToLocals, Value.category]; done) | rfl
def Q13w2 (Z : State) (a1 : Addr) (wa : Addr) (kw : ClassId) (sz cb i : Nat) (h0 : Heap) (n0 : Nat) (v : Option Value) (h : Heap) (L : List Loc) : Prop := ∃ (wa' : Addr) (kw' : ClassId) (d' : Nat), v = none ∧ Fr n0 L ∧ Keep h0 h [a1, wa] ∧ (wa' = wa ∨ h0.size ≤ wa') ∧ Fld Z h a1 "com/example/kerros/kerros/store/SortedChunks$Chunk" "words" "[J" (.ref wa') ∧ Fld Z h a1 "com/example/kerros/kerros/store/SortedChunks$Chunk" "size" "I" (.int (Int32.ofNat (sz + 1))) ∧ LA Z h wa' kw' (d' * 2) ∧ Exa Z h wa' "[J" ∧ sz + 1 ≤ d' ∧ d' ≤ 5
set_option maxRecDepth 65536 in
set_option maxHeartbeats 40000000 in
theorem rm13w2 (l : Launch) (Z : State) (a0 : Array Value) (hw : ∀ d ∈ tables_1, d.before a0 Z = true) (ws : List Jvm.Cond) (a1 : Addr) (wa : Addr) (kw : ClassId) (sz cb i : Nat) (h0 : Heap) (n0 : Nat) (Z0 : n0 ≤ h0.size) (E : Exa Z h0 a1 "com/example/kerros/kerros/store/SortedChunks$Chunk") (F1 : Fld Z h0 a1 "com/example/kerros/kerros/store/SortedChunks$Chunk" "words" "[J" (.ref wa)) (F2 : Fld Z h0 a1 "com/example/kerros/kerros/store/SortedChunks$Chunk" "size" "I" (.int (Int32.ofNat sz))) (VL : LA Z h0 wa kw (cb * 2)) (EL : Exa Z h0 wa "[J") (hne : a1 ≠ wa) (g_a1 : n0 ≤ a1) (g_wa : n0 ≤ wa) (hsc : sz ≤ cb) (hc5 : cb ≤ 5) (hi : i ≤ sz) (hs3 : sz ≤ 3) :
    MetFree l (⟨"com/example/kerros/kerros/store/SortedChunks$Chunk", "insert", "(II)V"⟩ : MethodName) (head1 (Jvm.Cond.code (⟨"com/example/kerros/kerros/store/SortedChunks$Chunk", "insert", "(II)V"⟩ : MethodName) prog_87_method_3_code 3 none :: ws) ({ frames := 2, cells := 1, slots := 12, locals := 60 } : Room)) (fun a U => a = #[(.ref a1), (.int (Int32.ofNat i)), (.int (2 : Int32))] ∧ Z.Warmed39 U.vm ∧ U.heap = h0) (fun _ _ _ _ _ => True) (fun _ U o U' => ∃ v L, o = .returned v ∧ Q13w2 Z a1 wa kw sz cb i h0 n0 v U'.heap L ∧ FrameEnd U o U' L ({ frames := 2, cells := 1, slots := 12, locals := 60 } : Room).cells ({ frames := 2, cells := 1, slots := 12, locals := 60 } : Room).slots) := by
  refine MetFree.of_bodySF (plainFor_of_name pn_13) hisR ?_
  intro p e s m args below meth c s₁ Bd hml0 hP hK
  obtain ⟨rfl, hZ, hh⟩ := hP
  have hx := Bd.exec
  have hby := Bd.bytes
  have hml : c.maxLocals = 3 := hml0
  have hown : s.vm.findClass "com/example/kerros/kerros/store/SortedChunks$Chunk" = some m.cls := findClass_of_methodNamed Bd.named
  have hnm := (name_of_methodNamed Bd.named Bd.method).1
  have X0 : Stand p l e ({ frames := 2, cells := 1, slots := 12, locals := 60 } : Room) s m #[(.ref a1), (.int (Int32.ofNat i)), (.int (2 : Int32))] below meth c s₁ [] 0 0 := Stand.of_body Bd
  have e0 : s₁.heap = h0 := by rw [← hh, Bd.state]; rfl
  have N0 := Fr.nil n0
  obtain ⟨G, hG⟩ : ∃ G : State → Prop, G = OwnG p e below s ({ frames := 2, cells := 1, slots := 12, locals := 60 } : Room).cells ({ frames := 2, cells := 1, slots := 12, locals := 60 } : Room).slots (Q13w2 Z a1 wa kw sz cb i h0 n0) := ⟨_, rfl⟩
  have go : ∀ {A B : State}, (∀ t, Steps p.tables e below A t → Steps p.tables e below B t) → G A → G B := fun h k => by rw [hG] at k ⊢; exact OwnG.go h k
  suffices k0 : G (s₁.setTop (mkF m 0 #[.val (.ref a1), .val (.int (Int32.ofNat i)), .val (.int (2 : Int32))] [])) by
    rw [hG] at k0; exact OwnG.go (fun t k => castTop (ef_rm13w2 m a1 i) k) k0
  have K0 : Keep h0 h0 [a1, wa] := Keep.refl _ _
  refine go (fun _ k => XS.aloadN X0.here hx rfl (hb hby d13_0) rfl rfl k) ?_
  show G (s₁.setTop (mkF m 1 #[.val (.ref a1), .val (.int (Int32.ofNat i)), .val (.int (2 : Int32))] [(.ref a1)]))
  obtain ⟨T1, X1, e1, st1⟩ := getF X0 hx hZ hown (host := "") (Or.inl (hw _ (List.mem_of_getElem? (i := 51) rfl))) Via.refl e0 F2 (g := (mkF m 1 #[.val (.ref a1), .val (.int (Int32.ofNat i)), .val (.int (2 : Int32))] [(.ref a1)])) rfl rfl (hb hby d13_1)
  refine go st1 ?_
  show G (T1.setTop (mkF m 4 #[.val (.ref a1), .val (.int (Int32.ofNat i)), .val (.int (2 : Int32))] [(.int (Int32.ofNat sz))]))
  refine go (fun _ k => XS.iloadN X1.here hx rfl (hb hby d13_4) rfl k) ?_
  show G (T1.setTop (mkF m 5 #[.val (.ref a1), .val (.int (Int32.ofNat i)), .val (.int (2 : Int32))] [(.int (2 : Int32)), (.int (Int32.ofNat sz))]))
  refine go (fun _ k => XS.imul X1.here hx rfl (hb hby d13_5) rfl k) ?_
  show G (T1.setTop (mkF m 6 #[.val (.ref a1), .val (.int (Int32.ofNat i)), .val (.int (2 : Int32))] [(.int ((Int32.ofNat sz) * (2 : Int32)))]))
  rw [show ((Int32.ofNat sz) * (2 : Int32)) = (Int32.ofNat (sz * 2)) from own_onmul sz 2]
  show G (T1.setTop (mkF m 6 #[.val (.ref a1), .val (.int (Int32.ofNat i)), .val (.int (2 : Int32))] [(.int (Int32.ofNat (sz * 2)))]))
  refine go (fun _ k => XS.aloadN X1.here hx rfl (hb hby d13_6) rfl rfl k) ?_
  show G (T1.setTop (mkF m 7 #[.val (.ref a1), .val (.int (Int32.ofNat i)), .val (.int (2 : Int32))] [(.ref a1), (.int (Int32.ofNat (sz * 2)))]))
  obtain ⟨T2, X2, e2, st2⟩ := getF X1 hx hZ hown (host := "") (Or.inl (hw _ (List.mem_of_getElem? (i := 49) rfl))) Via.refl e1 F1 (g := (mkF m 7 #[.val (.ref a1), .val (.int (Int32.ofNat i)), .val (.int (2 : Int32))] [(.ref a1), (.int (Int32.ofNat (sz * 2)))])) rfl rfl (hb hby d13_7)
  refine go st2 ?_
  show G (T2.setTop (mkF m 10 #[.val (.ref a1), .val (.int (Int32.ofNat i)), .val (.int (2 : Int32))] [(.ref wa), (.int (Int32.ofNat (sz * 2)))]))
  obtain ⟨vb3, lb3, VB3⟩ := id VL
  obtain ⟨cl4, Ar4, qk4, qs4, qn4, qh4, qg4⟩ := id VB3
  refine go (X2.arraylength hx (by rw [e2]; exact Ar4.1) (State.isArrayOf_alike hZ.alike Ar4.2.1) (g := (mkF m 10 #[.val (.ref a1), .val (.int (Int32.ofNat i)), .val (.int (2 : Int32))] [(.ref wa), (.int (Int32.ofNat (sz * 2)))])) rfl rfl (hb hby d13_10)) ?_
  rw [len_of qs4 qn4]
  show G (T2.setTop (mkF m 11 #[.val (.ref a1), .val (.int (Int32.ofNat i)), .val (.int (2 : Int32))] [(.int (Int32.ofNat (cb * 2))), (.int (Int32.ofNat (sz * 2)))]))
  by_cases hN : sz = cb
  · show G (T2.setTop (mkF m 11 #[.val (.ref a1), .val (.int (Int32.ofNat i)), .val (.int (2 : Int32))] [(.int (Int32.ofNat (cb * 2))), (.int (Int32.ofNat (sz * 2)))]))
    have hc5 : (Int32.ofNat (sz * 2)) = (Int32.ofNat (cb * 2)) := by rw [hN]
    refine go (fun _ k => XS.icmpNo X2.here hx rfl (hb hby d13_11) rfl (teq hc5).2 k) ?_
    show G (T2.setTop (mkF m 14 #[.val (.ref a1), .val (.int (Int32.ofNat i)), .val (.int (2 : Int32))] []))
    refine go (fun _ k => XS.aloadN X2.here hx rfl (hb hby d13_14) rfl rfl k) ?_
    show G (T2.setTop (mkF m 15 #[.val (.ref a1), .val (.int (Int32.ofNat i)), .val (.int (2 : Int32))] [(.ref a1)]))
    refine go (fun _ k => XS.aloadN X2.here hx rfl (hb hby d13_15) rfl rfl k) ?_
    show G (T2.setTop (mkF m 16 #[.val (.ref a1), .val (.int (Int32.ofNat i)), .val (.int (2 : Int32))] [(.ref a1), (.ref a1)]))
    obtain ⟨T6, X6, e6, st6⟩ := getF X2 hx hZ hown (host := "") (Or.inl (hw _ (List.mem_of_getElem? (i := 49) rfl))) Via.refl e2 F1 (g := (mkF m 16 #[.val (.ref a1), .val (.int (Int32.ofNat i)), .val (.int (2 : Int32))] [(.ref a1), (.ref a1)])) rfl rfl (hb hby d13_16)
    refine go st6 ?_
    show G (T6.setTop (mkF m 19 #[.val (.ref a1), .val (.int (Int32.ofNat i)), .val (.int (2 : Int32))] [(.ref wa), (.ref a1)]))
    refine go (fun _ k => XS.aloadN X6.here hx rfl (hb hby d13_19) rfl rfl k) ?_
    show G (T6.setTop (mkF m 20 #[.val (.ref a1), .val (.int (Int32.ofNat i)), .val (.int (2 : Int32))] [(.ref a1), (.ref wa), (.ref a1)]))
    obtain ⟨T7, X7, e7, st7⟩ := getF X6 hx hZ hown (host := "") (Or.inl (hw _ (List.mem_of_getElem? (i := 51) rfl))) Via.refl e6 F2 (g := (mkF m 20 #[.val (.ref a1), .val (.int (Int32.ofNat i)), .val (.int (2 : Int32))] [(.ref a1), (.ref wa), (.ref a1)])) rfl rfl (hb hby d13_20)
    refine go st7 ?_
    show G (T7.setTop (mkF m 23 #[.val (.ref a1), .val (.int (Int32.ofNat i)), .val (.int (2 : Int32))] [(.int (Int32.ofNat sz)), (.ref wa), (.ref a1)]))
    obtain ⟨_, _, ⟨T8, L8, k8, n8⟩, -, X8, ⟨Lc8, hQ8, l8, y8, z8⟩, st8⟩ := Jvm.LawKit.callS X7 hx (y := (⟨"com/example/kerros/kerros/store/SortedChunks$Chunk", "grown", "(I)I"⟩ : MethodName)) hown (mvT hZ (hw _ (List.mem_of_getElem? (i := 76) rfl))) (mvT hZ (hw _ (List.mem_of_getElem? (i := 77) rfl))) (mvT hZ (hw _ (List.mem_of_getElem? (i := 29) rfl))) (mvT hZ (hw _ (List.mem_of_getElem? (i := 78) rfl))) (by decide) (backOf (W := 2) (rm14 l Z a0 hw [] sz h0 n0 Z0 (by omega)) hZ (hw _ (List.mem_of_getElem? (i := 78) rfl)) (hw _ (List.mem_of_getElem? (i := 29) rfl)) (by decide) (by decide)) (g := (mkF m 23 #[.val (.ref a1), .val (.int (Int32.ofNat i)), .val (.int (2 : Int32))] [(.int (Int32.ofNat sz)), (.ref wa), (.ref a1)])) rfl (by rw [hml]; rfl) (argsL := [(.int (Int32.ofNat sz))]) (rest := [(.ref wa), (.ref a1)]) (lenOf pd_13_0 rfl) rfl (by show 2 * 0 + _ ≤ _; exact Nat.le_of_eq rfl) (hb hby d13_23) (fun _ _ => ⟨rfl, e7, (by decide : 0 + 0 ≤ _), (by decide : 0 + 0 ≤ _)⟩)
    dsimp only [Pt.U, Pt.locs, Pt.cells, Pt.slots] at X8 l8 y8 z8 st8 hQ8
    subst l8 y8 z8
    obtain ⟨rfl, N8q, e8⟩ := hQ8
    have N8 := Fr.app N0 N8q
    refine go st8 ?_
    show G (T8.setTop (mkF m 26 #[.val (.ref a1), .val (.int (Int32.ofNat i)), .val (.int (2 : Int32))] [(.int (Int32.ofNat (sz + 2))), (.ref wa), (.ref a1)]))
    refine go (fun _ k => XS.iloadN X8.here hx rfl (hb hby d13_26) rfl k) ?_
    show G (T8.setTop (mkF m 27 #[.val (.ref a1), .val (.int (Int32.ofNat i)), .val (.int (2 : Int32))] [(.int (2 : Int32)), (.int (Int32.ofNat (sz + 2))), (.ref wa), (.ref a1)]))
    refine go (fun _ k => XS.imul X8.here hx rfl (hb hby d13_27) rfl k) ?_
    show G (T8.setTop (mkF m 28 #[.val (.ref a1), .val (.int (Int32.ofNat i)), .val (.int (2 : Int32))] [(.int ((Int32.ofNat (sz + 2)) * (2 : Int32))), (.ref wa), (.ref a1)]))
    rw [show ((Int32.ofNat (sz + 2)) * (2 : Int32)) = (Int32.ofNat ((sz + 2) * 2)) from own_onmul (sz + 2) 2]
    show G (T8.setTop (mkF m 28 #[.val (.ref a1), .val (.int (Int32.ofNat i)), .val (.int (2 : Int32))] [(.int (Int32.ofNat ((sz + 2) * 2))), (.ref wa), (.ref a1)]))
    obtain ⟨_, _, ⟨T9, L9, k9, n9⟩, -, X9, ⟨Lc9, hQ9, l9, y9, z9⟩, st9⟩ := Jvm.LawKit.callS X8 hx (y := (⟨"java/util/Arrays", "copyOf", "([JI)[J"⟩ : MethodName)) hown (mvT hZ (hw _ (List.mem_of_getElem? (i := 81) rfl))) (mvT hZ (hw _ (List.mem_of_getElem? (i := 82) rfl))) (mvT hZ (hw _ (List.mem_of_getElem? (i := 32) rfl))) (mvT hZ (hw _ (List.mem_of_getElem? (i := 83) rfl))) (by decide) (backOf (W := 1) (rm15 l Z a0 hw [] wa ((sz + 2) * 2) (cb * 2) kw h0 n0 Z0 VL EL (by omega) (by omega) (by omega)) hZ (hw _ (List.mem_of_getElem? (i := 83) rfl)) (hw _ (List.mem_of_getElem? (i := 32) rfl)) (by decide) (by decide)) (g := (mkF m 28 #[.val (.ref a1), .val (.int (Int32.ofNat i)), .val (.int (2 : Int32))] [(.int (Int32.ofNat ((sz + 2) * 2))), (.ref wa), (.ref a1)])) rfl (by rw [hml]; rfl) (argsL := [(.ref wa), (.int (Int32.ofNat ((sz + 2) * 2)))]) (rest := [(.ref a1)]) (lenOf pd_13_1 rfl) rfl (by show 2 * 0 + _ ≤ _; exact Nat.le_of_eq rfl) (hb hby d13_28) (fun _ _ => ⟨rfl, e8, (by decide : 0 + 1 ≤ _), (by decide : 0 + 12 ≤ _)⟩)
    dsimp only [Pt.U, Pt.locs, Pt.cells, Pt.slots] at X9 l9 y9 z9 st9 hQ9
    subst l9 y9 z9
    obtain ⟨bc9, kc9, rfl, N9q, Kc9, c9_0, c9_1, c9_2⟩ := hQ9
    have ne_a1_bc9 : a1 ≠ bc9 := Nat.ne_of_lt (Nat.lt_of_lt_of_le E.lt c9_0)
    have ne_wa_bc9 : wa ≠ bc9 := Nat.ne_of_lt (Nat.lt_of_lt_of_le VL.lt c9_0)
    have g_bc9 : n0 ≤ bc9 := Nat.le_trans Z0 c9_0
    have sz_bc9 : h0.size ≤ bc9 := Nat.le_trans K0.1 c9_0
    have f10 := E.keep Kc9
    have f11 := F1.keep Kc9 nin0
    have f12 := F2.keep Kc9 nin0
    have f13 := VL.keep Kc9 nin0
    have f14 := EL.keep Kc9
    have K9 : Keep h0 T9.heap [a1, wa] := K0.trans Kc9 all0
    have Zs9 : n0 ≤ T9.heap.size := Nat.le_trans Z0 Kc9.1
    have N9 := Fr.app N8 N9q
    refine go st9 ?_
    show G (T9.setTop (mkF m 31 #[.val (.ref a1), .val (.int (Int32.ofNat i)), .val (.int (2 : Int32))] [(.ref bc9), (.ref a1)]))
    obtain ⟨T15, h15, X15, e15, W15, st15⟩ := putF X9 hx hZ hown (host := "") (Or.inl (hw _ (List.mem_of_getElem? (i := 49) rfl))) Via.refl rfl f11 f10 (Or.inl (hw _ (List.mem_of_getElem? (i := 50) rfl))) (hw _ (List.mem_of_getElem? (i := 28) rfl)) (ty := (.array .long)) (by decide) rfl rfl (g := (mkF m 31 #[.val (.ref a1), .val (.int (Int32.ofNat i)), .val (.int (2 : Int32))] [(.ref bc9), (.ref a1)])) rfl rfl (hb hby d13_31)
    have f16 := f10.wr W15
    have f17 := f12.other W15 (Or.inr (slot_ne (Or.inl (hw _ (List.mem_of_getElem? (i := 52) rfl))) (Or.inl (hw _ (List.mem_of_getElem? (i := 50) rfl))) (by decide) (t := .int) (t' := (.array .long)) (by decide) (by decide)))
    have f18 := f13.other W15 (Ne.symm hne)
    have f19 := f14.wr W15
    have f20 := c9_1.other W15 (Ne.symm ne_a1_bc9)
    have f21 := c9_2.wr W15
    have K15 : Keep h0 h15 [a1, wa] := K9.wr W15 (Or.inl (List.mem_of_getElem? (i := 0) rfl))
    have Zs15 : n0 ≤ h15.size := Nat.le_trans Zs9 (Keep.of_wr W15).1
    have N15 := Fr.snoc X15 N9 g_a1
    have Fw15 := f11.same W15
    refine go st15 ?_
    show G (T15.setTop (mkF m 34 #[.val (.ref a1), .val (.int (Int32.ofNat i)), .val (.int (2 : Int32))] []))
    refine go (fun _ k => XS.aloadN X15.here hx rfl (hb hby d13_34) rfl rfl k) ?_
    show G (T15.setTop (mkF m 35 #[.val (.ref a1), .val (.int (Int32.ofNat i)), .val (.int (2 : Int32))] [(.ref a1)]))
    obtain ⟨T22, X22, e22, st22⟩ := getF X15 hx hZ hown (host := "") (Or.inl (hw _ (List.mem_of_getElem? (i := 49) rfl))) Via.refl e15 Fw15 (g := (mkF m 35 #[.val (.ref a1), .val (.int (Int32.ofNat i)), .val (.int (2 : Int32))] [(.ref a1)])) rfl rfl (hb hby d13_35)
    refine go st22 ?_
    show G (T22.setTop (mkF m 38 #[.val (.ref a1), .val (.int (Int32.ofNat i)), .val (.int (2 : Int32))] [(.ref bc9)]))
    refine go (fun _ k => XS.iloadN X22.here hx rfl (hb hby d13_38) rfl k) ?_
    show G (T22.setTop (mkF m 39 #[.val (.ref a1), .val (.int (Int32.ofNat i)), .val (.int (2 : Int32))] [(.int (Int32.ofNat i)), (.ref bc9)]))
    refine go (fun _ k => XS.iloadN X22.here hx rfl (hb hby d13_39) rfl k) ?_
    show G (T22.setTop (mkF m 40 #[.val (.ref a1), .val (.int (Int32.ofNat i)), .val (.int (2 : Int32))] [(.int (2 : Int32)), (.int (Int32.ofNat i)), (.ref bc9)]))
    refine go (fun _ k => XS.imul X22.here hx rfl (hb hby d13_40) rfl k) ?_
    show G (T22.setTop (mkF m 41 #[.val (.ref a1), .val (.int (Int32.ofNat i)), .val (.int (2 : Int32))] [(.int ((Int32.ofNat i) * (2 : Int32))), (.ref bc9)]))
    rw [show ((Int32.ofNat i) * (2 : Int32)) = (Int32.ofNat (i * 2)) from own_onmul i 2]
    show G (T22.setTop (mkF m 41 #[.val (.ref a1), .val (.int (Int32.ofNat i)), .val (.int (2 : Int32))] [(.int (Int32.ofNat (i * 2))), (.ref bc9)]))
    refine go (fun _ k => XS.aloadN X22.here hx rfl (hb hby d13_41) rfl rfl k) ?_
    show G (T22.setTop (mkF m 42 #[.val (.ref a1), .val (.int (Int32.ofNat i)), .val (.int (2 : Int32))] [(.ref a1), (.int (Int32.ofNat (i * 2))), (.ref bc9)]))
    obtain ⟨T23, X23, e23, st23⟩ := getF X22 hx hZ hown (host := "") (Or.inl (hw _ (List.mem_of_getElem? (i := 49) rfl))) Via.refl e22 Fw15 (g := (mkF m 42 #[.val (.ref a1), .val (.int (Int32.ofNat i)), .val (.int (2 : Int32))] [(.ref a1), (.int (Int32.ofNat (i * 2))), (.ref bc9)])) rfl rfl (hb hby d13_42)
    refine go st23 ?_
    show G (T23.setTop (mkF m 45 #[.val (.ref a1), .val (.int (Int32.ofNat i)), .val (.int (2 : Int32))] [(.ref bc9), (.int (Int32.ofNat (i * 2))), (.ref bc9)]))
    refine go (fun _ k => XS.iloadN X23.here hx rfl (hb hby d13_45) rfl k) ?_
    show G (T23.setTop (mkF m 46 #[.val (.ref a1), .val (.int (Int32.ofNat i)), .val (.int (2 : Int32))] [(.int (Int32.ofNat i)), (.ref bc9), (.int (Int32.ofNat (i * 2))), (.ref bc9)]))
    refine go (fun _ k => XS.iconst X23.here hx rfl (hb hby d13_46) k) ?_
    show G (T23.setTop (mkF m 47 #[.val (.ref a1), .val (.int (Int32.ofNat i)), .val (.int (2 : Int32))] [(.int (1 : Int32)), (.int (Int32.ofNat i)), (.ref bc9), (.int (Int32.ofNat (i * 2))), (.ref bc9)]))
    refine go (fun _ k => XS.iadd X23.here hx rfl (hb hby d13_47) rfl k) ?_
    show G (T23.setTop (mkF m 48 #[.val (.ref a1), .val (.int (Int32.ofNat i)), .val (.int (2 : Int32))] [(.int ((Int32.ofNat i) + (1 : Int32))), (.ref bc9), (.int (Int32.ofNat (i * 2))), (.ref bc9)]))
    rw [show ((Int32.ofNat i) + (1 : Int32)) = (Int32.ofNat (i + 1)) from own_onadd i 1]
    show G (T23.setTop (mkF m 48 #[.val (.ref a1), .val (.int (Int32.ofNat i)), .val (.int (2 : Int32))] [(.int (Int32.ofNat (i + 1))), (.ref bc9), (.int (Int32.ofNat (i * 2))), (.ref bc9)]))
    refine go (fun _ k => XS.iloadN X23.here hx rfl (hb hby d13_48) rfl k) ?_
    show G (T23.setTop (mkF m 49 #[.val (.ref a1), .val (.int (Int32.ofNat i)), .val (.int (2 : Int32))] [(.int (2 : Int32)), (.int (Int32.ofNat (i + 1))), (.ref bc9), (.int (Int32.ofNat (i * 2))), (.ref bc9)]))
    refine go (fun _ k => XS.imul X23.here hx rfl (hb hby d13_49) rfl k) ?_
    show G (T23.setTop (mkF m 50 #[.val (.ref a1), .val (.int (Int32.ofNat i)), .val (.int (2 : Int32))] [(.int ((Int32.ofNat (i + 1)) * (2 : Int32))), (.ref bc9), (.int (Int32.ofNat (i * 2))), (.ref bc9)]))
    rw [show ((Int32.ofNat (i + 1)) * (2 : Int32)) = (Int32.ofNat ((i + 1) * 2)) from own_onmul (i + 1) 2]
    show G (T23.setTop (mkF m 50 #[.val (.ref a1), .val (.int (Int32.ofNat i)), .val (.int (2 : Int32))] [(.int (Int32.ofNat ((i + 1) * 2))), (.ref bc9), (.int (Int32.ofNat (i * 2))), (.ref bc9)]))
    refine go (fun _ k => XS.aloadN X23.here hx rfl (hb hby d13_50) rfl rfl k) ?_
    show G (T23.setTop (mkF m 51 #[.val (.ref a1), .val (.int (Int32.ofNat i)), .val (.int (2 : Int32))] [(.ref a1), (.int (Int32.ofNat ((i + 1) * 2))), (.ref bc9), (.int (Int32.ofNat (i * 2))), (.ref bc9)]))
    obtain ⟨T24, X24, e24, st24⟩ := getF X23 hx hZ hown (host := "") (Or.inl (hw _ (List.mem_of_getElem? (i := 51) rfl))) Via.refl e23 f17 (g := (mkF m 51 #[.val (.ref a1), .val (.int (Int32.ofNat i)), .val (.int (2 : Int32))] [(.ref a1), (.int (Int32.ofNat ((i + 1) * 2))), (.ref bc9), (.int (Int32.ofNat (i * 2))), (.ref bc9)])) rfl rfl (hb hby d13_51)
    refine go st24 ?_
    show G (T24.setTop (mkF m 54 #[.val (.ref a1), .val (.int (Int32.ofNat i)), .val (.int (2 : Int32))] [(.int (Int32.ofNat sz)), (.int (Int32.ofNat ((i + 1) * 2))), (.ref bc9), (.int (Int32.ofNat (i * 2))), (.ref bc9)]))
    refine go (fun _ k => XS.iloadN X24.here hx rfl (hb hby d13_54) rfl k) ?_
    show G (T24.setTop (mkF m 55 #[.val (.ref a1), .val (.int (Int32.ofNat i)), .val (.int (2 : Int32))] [(.int (Int32.ofNat i)), (.int (Int32.ofNat sz)), (.int (Int32.ofNat ((i + 1) * 2))), (.ref bc9), (.int (Int32.ofNat (i * 2))), (.ref bc9)]))
    refine go (fun _ k => XS.isub X24.here hx rfl (hb hby d13_55) rfl k) ?_
    show G (T24.setTop (mkF m 56 #[.val (.ref a1), .val (.int (Int32.ofNat i)), .val (.int (2 : Int32))] [(.int ((Int32.ofNat sz) - (Int32.ofNat i))), (.int (Int32.ofNat ((i + 1) * 2))), (.ref bc9), (.int (Int32.ofNat (i * 2))), (.ref bc9)]))
    rw [show ((Int32.ofNat sz) - (Int32.ofNat i)) = (Int32.ofNat (sz - i)) from own_onsub sz i (by omega)]
    show G (T24.setTop (mkF m 56 #[.val (.ref a1), .val (.int (Int32.ofNat i)), .val (.int (2 : Int32))] [(.int (Int32.ofNat (sz - i))), (.int (Int32.ofNat ((i + 1) * 2))), (.ref bc9), (.int (Int32.ofNat (i * 2))), (.ref bc9)]))
    refine go (fun _ k => XS.iloadN X24.here hx rfl (hb hby d13_56) rfl k) ?_
    show G (T24.setTop (mkF m 57 #[.val (.ref a1), .val (.int (Int32.ofNat i)), .val (.int (2 : Int32))] [(.int (2 : Int32)), (.int (Int32.ofNat (sz - i))), (.int (Int32.ofNat ((i + 1) * 2))), (.ref bc9), (.int (Int32.ofNat (i * 2))), (.ref bc9)]))
    refine go (fun _ k => XS.imul X24.here hx rfl (hb hby d13_57) rfl k) ?_
    show G (T24.setTop (mkF m 58 #[.val (.ref a1), .val (.int (Int32.ofNat i)), .val (.int (2 : Int32))] [(.int ((Int32.ofNat (sz - i)) * (2 : Int32))), (.int (Int32.ofNat ((i + 1) * 2))), (.ref bc9), (.int (Int32.ofNat (i * 2))), (.ref bc9)]))
    rw [show ((Int32.ofNat (sz - i)) * (2 : Int32)) = (Int32.ofNat ((sz - i) * 2)) from own_onmul (sz - i) 2]
    show G (T24.setTop (mkF m 58 #[.val (.ref a1), .val (.int (Int32.ofNat i)), .val (.int (2 : Int32))] [(.int (Int32.ofNat ((sz - i) * 2))), (.int (Int32.ofNat ((i + 1) * 2))), (.ref bc9), (.int (Int32.ofNat (i * 2))), (.ref bc9)]))
    obtain ⟨va25, la25, VA25⟩ := id f20
    obtain ⟨vb25, lb25, VB25⟩ := id f20
    have qN25 : (Int32.ofNat ((sz - i) * 2)).toNatClampNeg = ((sz - i) * 2) := own_onnat _ (by omega)
    have qD25 : (Int32.ofNat ((i + 1) * 2)).toNatClampNeg = ((i + 1) * 2) := own_onnat _ (by omega)
    have qS25 : (Int32.ofNat (i * 2)).toNatClampNeg = (i * 2) := own_onnat _ (by omega)
    have qA25 : (Int32.ofNat ((sz + 2) * 2)).toNatClampNeg = ((sz + 2) * 2) := own_onnat _ (by omega)
    have qB25 : (Int32.ofNat ((sz + 2) * 2)).toNatClampNeg = ((sz + 2) * 2) := own_onnat _ (by omega)
    have i425 : (Int32.ofNat (i * 2)).toNatClampNeg + (Int32.ofNat ((sz - i) * 2)).toNatClampNeg ≤ (Int32.ofNat ((sz + 2) * 2)).toNatClampNeg := by omega
    have i525 : (Int32.ofNat ((i + 1) * 2)).toNatClampNeg + (Int32.ofNat ((sz - i) * 2)).toNatClampNeg ≤ (Int32.ofNat ((sz + 2) * 2)).toNatClampNeg := by omega
    have i625 : (Int32.ofNat ((i + 1) * 2)).toNatClampNeg + (Int32.ofNat ((sz - i) * 2)).toNatClampNeg ≤ vb25.length := by omega
    obtain ⟨T25, h25, Lx25, X25, e25, N25, Kp25, Vc25, st25⟩ := cpA X24 hx hZ hown (hw _ (List.mem_of_getElem? (i := 84) rfl)) (hw _ (List.mem_of_getElem? (i := 44) rfl)) (hw _ (List.mem_of_getElem? (i := 42) rfl)) (hw _ (List.mem_of_getElem? (i := 43) rfl)) e24 VA25 VB25 (sp := Int32.ofNat (i * 2)) (dp := Int32.ofNat ((i + 1) * 2)) (nn := Int32.ofNat ((sz - i) * 2)) (Or.inl ⟨rfl, rfl⟩) (own_onnn _ (by omega)) (own_onnn _ (by omega)) (own_onnn _ (by omega)) i425 i525 rfl i625 N15 g_bc9 (g := (mkF m 58 #[.val (.ref a1), .val (.int (Int32.ofNat i)), .val (.int (2 : Int32))] [(.int (Int32.ofNat ((sz - i) * 2))), (.int (Int32.ofNat ((i + 1) * 2))), (.ref bc9), (.int (Int32.ofNat (i * 2))), (.ref bc9)])) rfl (by rw [hml]; rfl) rfl (hb hby d13_58) (by decide) (W := 0) (by show 2 * 0 + _ ≤ _; exact Nat.le_of_eq rfl) (by decide)
    have f26 := f16.keep Kp25
    have f27 := Fw15.keep Kp25 (ninS ne_a1_bc9 nin0)
    have f28 := f17.keep Kp25 (ninS ne_a1_bc9 nin0)
    have f29 := f18.keep Kp25 (ninS ne_wa_bc9 nin0)
    have f30 := f19.keep Kp25
    have f31 := f21.keep Kp25
    have K25 : Keep h0 h25 [a1, wa] := K15.trans Kp25 (allS (P := fun x => x ∈ [a1, wa] ∨ h0.size ≤ x) (Or.inr sz_bc9) all0)
    have Zs25 : n0 ≤ h25.size := Nat.le_trans Zs15 Kp25.1
    have V25 : LA Z h25 bc9 kc9 ((sz + 2) * 2) := ⟨_, own_cplen _ _ _ _ _ lb25 (by rw [List.length_map, List.length_range]) (by omega), Vc25⟩
    refine go st25 ?_
    show G (T25.setTop (mkF m 61 #[.val (.ref a1), .val (.int (Int32.ofNat i)), .val (.int (2 : Int32))] []))
    refine go (fun _ k => XS.aloadN X25.here hx rfl (hb hby d13_61) rfl rfl k) ?_
    show G (T25.setTop (mkF m 62 #[.val (.ref a1), .val (.int (Int32.ofNat i)), .val (.int (2 : Int32))] [(.ref a1)]))
    refine go (fun _ k => XS.dup X25.here hx rfl (hb hby d13_62) rfl rfl k) ?_
    show G (T25.setTop (mkF m 63 #[.val (.ref a1), .val (.int (Int32.ofNat i)), .val (.int (2 : Int32))] [(.ref a1), (.ref a1)]))
    obtain ⟨T32, X32, e32, st32⟩ := getF X25 hx hZ hown (host := "") (Or.inl (hw _ (List.mem_of_getElem? (i := 51) rfl))) Via.refl e25 f28 (g := (mkF m 63 #[.val (.ref a1), .val (.int (Int32.ofNat i)), .val (.int (2 : Int32))] [(.ref a1), (.ref a1)])) rfl rfl (hb hby d13_63)
    refine go st32 ?_
    show G (T32.setTop (mkF m 66 #[.val (.ref a1), .val (.int (Int32.ofNat i)), .val (.int (2 : Int32))] [(.int (Int32.ofNat sz)), (.ref a1)]))
    refine go (fun _ k => XS.iconst X32.here hx rfl (hb hby d13_66) k) ?_
    show G (T32.setTop (mkF m 67 #[.val (.ref a1), .val (.int (Int32.ofNat i)), .val (.int (2 : Int32))] [(.int (1 : Int32)), (.int (Int32.ofNat sz)), (.ref a1)]))
    refine go (fun _ k => XS.iadd X32.here hx rfl (hb hby d13_67) rfl k) ?_
    show G (T32.setTop (mkF m 68 #[.val (.ref a1), .val (.int (Int32.ofNat i)), .val (.int (2 : Int32))] [(.int ((Int32.ofNat sz) + (1 : Int32))), (.ref a1)]))
    rw [show ((Int32.ofNat sz) + (1 : Int32)) = (Int32.ofNat (sz + 1)) from own_onadd sz 1]
    show G (T32.setTop (mkF m 68 #[.val (.ref a1), .val (.int (Int32.ofNat i)), .val (.int (2 : Int32))] [(.int (Int32.ofNat (sz + 1))), (.ref a1)]))
    obtain ⟨T33, h33, X33, e33, W33, st33⟩ := putF X32 hx hZ hown (host := "") (Or.inl (hw _ (List.mem_of_getElem? (i := 51) rfl))) Via.refl e32 f28 f26 (Or.inl (hw _ (List.mem_of_getElem? (i := 52) rfl))) (hw _ (List.mem_of_getElem? (i := 28) rfl)) (ty := .int) (by decide) rfl rfl (g := (mkF m 68 #[.val (.ref a1), .val (.int (Int32.ofNat i)), .val (.int (2 : Int32))] [(.int (Int32.ofNat (sz + 1))), (.ref a1)])) rfl rfl (hb hby d13_68)
    have f34 := f26.wr W33
    have f35 := f27.other W33 (Or.inr (slot_ne (Or.inl (hw _ (List.mem_of_getElem? (i := 50) rfl))) (Or.inl (hw _ (List.mem_of_getElem? (i := 52) rfl))) (by decide) (t := (.array .long)) (t' := .int) (by decide) (by decide)))
    have f36 := f29.other W33 (Ne.symm hne)
    have f37 := f30.wr W33
    have f38 := f31.wr W33
    have f39 := V25.other W33 (Ne.symm ne_a1_bc9)
    have K33 : Keep h0 h33 [a1, wa] := K25.wr W33 (Or.inl (List.mem_of_getElem? (i := 0) rfl))
    have Zs33 : n0 ≤ h33.size := Nat.le_trans Zs25 (Keep.of_wr W33).1
    have N33 := Fr.snoc X33 N25 g_a1
    have Fw33 := f28.same W33
    refine go st33 ?_
    show G (T33.setTop (mkF m 71 #[.val (.ref a1), .val (.int (Int32.ofNat i)), .val (.int (2 : Int32))] []))
    rw [hG]
    refine own_fin X33 Bd.notSynchronized (v := none) (fun _ => rfl) (fun fs hr => X33.returnOut hx Bd.returns (hb hby d13_71) hr) ?_ (by decide) (by decide)
    show Q13w2 Z a1 wa kw sz cb i h0 n0 (none) T33.heap _
    rw [e33]
    exact ⟨bc9, kc9, (sz + 2), rfl, N33, K33, Or.inr sz_bc9, f35, Fw33, f39, f38, by omega, by omega⟩
  · show G (T2.setTop (mkF m 11 #[.val (.ref a1), .val (.int (Int32.ofNat i)), .val (.int (2 : Int32))] [(.int (Int32.ofNat (cb * 2))), (.int (Int32.ofNat (sz * 2)))]))
    have hc40 : ¬ ((Int32.ofNat (sz * 2)) = (Int32.ofNat (cb * 2))) := fun q => hN (by have := own_oninj (by omega) (by omega) q; omega)
    refine go (fun _ k => XS.icmpYes X2.here hx rfl (pc0 := 11) (pc' := 34) rfl (hb hby d13_11) rfl (feq hc40).2 (by decide) (by decide) k) ?_
    show G (T2.setTop (mkF m 34 #[.val (.ref a1), .val (.int (Int32.ofNat i)), .val (.int (2 : Int32))] []))
    refine go (fun _ k => XS.aloadN X2.here hx rfl (hb hby d13_34) rfl rfl k) ?_
    show G (T2.setTop (mkF m 35 #[.val (.ref a1), .val (.int (Int32.ofNat i)), .val (.int (2 : Int32))] [(.ref a1)]))
    obtain ⟨T41, X41, e41, st41⟩ := getF X2 hx hZ hown (host := "") (Or.inl (hw _ (List.mem_of_getElem? (i := 49) rfl))) Via.refl e2 F1 (g := (mkF m 35 #[.val (.ref a1), .val (.int (Int32.ofNat i)), .val (.int (2 : Int32))] [(.ref a1)])) rfl rfl (hb hby d13_35)
    refine go st41 ?_
    show G (T41.setTop (mkF m 38 #[.val (.ref a1), .val (.int (Int32.ofNat i)), .val (.int (2 : Int32))] [(.ref wa)]))
    refine go (fun _ k => XS.iloadN X41.here hx rfl (hb hby d13_38) rfl k) ?_
    show G (T41.setTop (mkF m 39 #[.val (.ref a1), .val (.int (Int32.ofNat i)), .val (.int (2 : Int32))] [(.int (Int32.ofNat i)), (.ref wa)]))
    refine go (fun _ k => XS.iloadN X41.here hx rfl (hb hby d13_39) rfl k) ?_
    show G (T41.setTop (mkF m 40 #[.val (.ref a1), .val (.int (Int32.ofNat i)), .val (.int (2 : Int32))] [(.int (2 : Int32)), (.int (Int32.ofNat i)), (.ref wa)]))
    refine go (fun _ k => XS.imul X41.here hx rfl (hb hby d13_40) rfl k) ?_
    show G (T41.setTop (mkF m 41 #[.val (.ref a1), .val (.int (Int32.ofNat i)), .val (.int (2 : Int32))] [(.int ((Int32.ofNat i) * (2 : Int32))), (.ref wa)]))
    rw [show ((Int32.ofNat i) * (2 : Int32)) = (Int32.ofNat (i * 2)) from own_onmul i 2]
    show G (T41.setTop (mkF m 41 #[.val (.ref a1), .val (.int (Int32.ofNat i)), .val (.int (2 : Int32))] [(.int (Int32.ofNat (i * 2))), (.ref wa)]))
    refine go (fun _ k => XS.aloadN X41.here hx rfl (hb hby d13_41) rfl rfl k) ?_
    show G (T41.setTop (mkF m 42 #[.val (.ref a1), .val (.int (Int32.ofNat i)), .val (.int (2 : Int32))] [(.ref a1), (.int (Int32.ofNat (i * 2))), (.ref wa)]))
    obtain ⟨T42, X42, e42, st42⟩ := getF X41 hx hZ hown (host := "") (Or.inl (hw _ (List.mem_of_getElem? (i := 49) rfl))) Via.refl e41 F1 (g := (mkF m 42 #[.val (.ref a1), .val (.int (Int32.ofNat i)), .val (.int (2 : Int32))] [(.ref a1), (.int (Int32.ofNat (i * 2))), (.ref wa)])) rfl rfl (hb hby d13_42)
    refine go st42 ?_
    show G (T42.setTop (mkF m 45 #[.val (.ref a1), .val (.int (Int32.ofNat i)), .val (.int (2 : Int32))] [(.ref wa), (.int (Int32.ofNat (i * 2))), (.ref wa)]))
    refine go (fun _ k => XS.iloadN X42.here hx rfl (hb hby d13_45) rfl k) ?_
    show G (T42.setTop (mkF m 46 #[.val (.ref a1), .val (.int (Int32.ofNat i)), .val (.int (2 : Int32))] [(.int (Int32.ofNat i)), (.ref wa), (.int (Int32.ofNat (i * 2))), (.ref wa)]))
    refine go (fun _ k => XS.iconst X42.here hx rfl (hb hby d13_46) k) ?_
    show G (T42.setTop (mkF m 47 #[.val (.ref a1), .val (.int (Int32.ofNat i)), .val (.int (2 : Int32))] [(.int (1 : Int32)), (.int (Int32.ofNat i)), (.ref wa), (.int (Int32.ofNat (i * 2))), (.ref wa)]))
    refine go (fun _ k => XS.iadd X42.here hx rfl (hb hby d13_47) rfl k) ?_
    show G (T42.setTop (mkF m 48 #[.val (.ref a1), .val (.int (Int32.ofNat i)), .val (.int (2 : Int32))] [(.int ((Int32.ofNat i) + (1 : Int32))), (.ref wa), (.int (Int32.ofNat (i * 2))), (.ref wa)]))
    rw [show ((Int32.ofNat i) + (1 : Int32)) = (Int32.ofNat (i + 1)) from own_onadd i 1]
    show G (T42.setTop (mkF m 48 #[.val (.ref a1), .val (.int (Int32.ofNat i)), .val (.int (2 : Int32))] [(.int (Int32.ofNat (i + 1))), (.ref wa), (.int (Int32.ofNat (i * 2))), (.ref wa)]))
    refine go (fun _ k => XS.iloadN X42.here hx rfl (hb hby d13_48) rfl k) ?_
    show G (T42.setTop (mkF m 49 #[.val (.ref a1), .val (.int (Int32.ofNat i)), .val (.int (2 : Int32))] [(.int (2 : Int32)), (.int (Int32.ofNat (i + 1))), (.ref wa), (.int (Int32.ofNat (i * 2))), (.ref wa)]))
    refine go (fun _ k => XS.imul X42.here hx rfl (hb hby d13_49) rfl k) ?_
    show G (T42.setTop (mkF m 50 #[.val (.ref a1), .val (.int (Int32.ofNat i)), .val (.int (2 : Int32))] [(.int ((Int32.ofNat (i + 1)) * (2 : Int32))), (.ref wa), (.int (Int32.ofNat (i * 2))), (.ref wa)]))
    rw [show ((Int32.ofNat (i + 1)) * (2 : Int32)) = (Int32.ofNat ((i + 1) * 2)) from own_onmul (i + 1) 2]
    show G (T42.setTop (mkF m 50 #[.val (.ref a1), .val (.int (Int32.ofNat i)), .val (.int (2 : Int32))] [(.int (Int32.ofNat ((i + 1) * 2))), (.ref wa), (.int (Int32.ofNat (i * 2))), (.ref wa)]))
    refine go (fun _ k => XS.aloadN X42.here hx rfl (hb hby d13_50) rfl rfl k) ?_
    show G (T42.setTop (mkF m 51 #[.val (.ref a1), .val (.int (Int32.ofNat i)), .val (.int (2 : Int32))] [(.ref a1), (.int (Int32.ofNat ((i + 1) * 2))), (.ref wa), (.int (Int32.ofNat (i * 2))), (.ref wa)]))
    obtain ⟨T43, X43, e43, st43⟩ := getF X42 hx hZ hown (host := "") (Or.inl (hw _ (List.mem_of_getElem? (i := 51) rfl))) Via.refl e42 F2 (g := (mkF m 51 #[.val (.ref a1), .val (.int (Int32.ofNat i)), .val (.int (2 : Int32))] [(.ref a1), (.int (Int32.ofNat ((i + 1) * 2))), (.ref wa), (.int (Int32.ofNat (i * 2))), (.ref wa)])) rfl rfl (hb hby d13_51)
    refine go st43 ?_
    show G (T43.setTop (mkF m 54 #[.val (.ref a1), .val (.int (Int32.ofNat i)), .val (.int (2 : Int32))] [(.int (Int32.ofNat sz)), (.int (Int32.ofNat ((i + 1) * 2))), (.ref wa), (.int (Int32.ofNat (i * 2))), (.ref wa)]))
    refine go (fun _ k => XS.iloadN X43.here hx rfl (hb hby d13_54) rfl k) ?_
    show G (T43.setTop (mkF m 55 #[.val (.ref a1), .val (.int (Int32.ofNat i)), .val (.int (2 : Int32))] [(.int (Int32.ofNat i)), (.int (Int32.ofNat sz)), (.int (Int32.ofNat ((i + 1) * 2))), (.ref wa), (.int (Int32.ofNat (i * 2))), (.ref wa)]))
    refine go (fun _ k => XS.isub X43.here hx rfl (hb hby d13_55) rfl k) ?_
    show G (T43.setTop (mkF m 56 #[.val (.ref a1), .val (.int (Int32.ofNat i)), .val (.int (2 : Int32))] [(.int ((Int32.ofNat sz) - (Int32.ofNat i))), (.int (Int32.ofNat ((i + 1) * 2))), (.ref wa), (.int (Int32.ofNat (i * 2))), (.ref wa)]))
    rw [show ((Int32.ofNat sz) - (Int32.ofNat i)) = (Int32.ofNat (sz - i)) from own_onsub sz i (by omega)]
    show G (T43.setTop (mkF m 56 #[.val (.ref a1), .val (.int (Int32.ofNat i)), .val (.int (2 : Int32))] [(.int (Int32.ofNat (sz - i))), (.int (Int32.ofNat ((i + 1) * 2))), (.ref wa), (.int (Int32.ofNat (i * 2))), (.ref wa)]))
    refine go (fun _ k => XS.iloadN X43.here hx rfl (hb hby d13_56) rfl k) ?_
    show G (T43.setTop (mkF m 57 #[.val (.ref a1), .val (.int (Int32.ofNat i)), .val (.int (2 : Int32))] [(.int (2 : Int32)), (.int (Int32.ofNat (sz - i))), (.int (Int32.ofNat ((i + 1) * 2))), (.ref wa), (.int (Int32.ofNat (i * 2))), (.ref wa)]))
    refine go (fun _ k => XS.imul X43.here hx rfl (hb hby d13_57) rfl k) ?_
    show G (T43.setTop (mkF m 58 #[.val (.ref a1), .val (.int (Int32.ofNat i)), .val (.int (2 : Int32))] [(.int ((Int32.ofNat (sz - i)) * (2 : Int32))), (.int (Int32.ofNat ((i + 1) * 2))), (.ref wa), (.int (Int32.ofNat (i * 2))), (.ref wa)]))
    rw [show ((Int32.ofNat (sz - i)) * (2 : Int32)) = (Int32.ofNat ((sz - i) * 2)) from own_onmul (sz - i) 2]
    show G (T43.setTop (mkF m 58 #[.val (.ref a1), .val (.int (Int32.ofNat i)), .val (.int (2 : Int32))] [(.int (Int32.ofNat ((sz - i) * 2))), (.int (Int32.ofNat ((i + 1) * 2))), (.ref wa), (.int (Int32.ofNat (i * 2))), (.ref wa)]))
    obtain ⟨va44, la44, VA44⟩ := id VL
    obtain ⟨vb44, lb44, VB44⟩ := id VL
    have qN44 : (Int32.ofNat ((sz - i) * 2)).toNatClampNeg = ((sz - i) * 2) := own_onnat _ (by omega)
    have qD44 : (Int32.ofNat ((i + 1) * 2)).toNatClampNeg = ((i + 1) * 2) := own_onnat _ (by omega)
    have qS44 : (Int32.ofNat (i * 2)).toNatClampNeg = (i * 2) := own_onnat _ (by omega)
    have qA44 : (Int32.ofNat (cb * 2)).toNatClampNeg = (cb * 2) := own_onnat _ (by omega)
    have qB44 : (Int32.ofNat (cb * 2)).toNatClampNeg = (cb * 2) := own_onnat _ (by omega)
    have i444 : (Int32.ofNat (i * 2)).toNatClampNeg + (Int32.ofNat ((sz - i) * 2)).toNatClampNeg ≤ (Int32.ofNat (cb * 2)).toNatClampNeg := by omega
    have i544 : (Int32.ofNat ((i + 1) * 2)).toNatClampNeg + (Int32.ofNat ((sz - i) * 2)).toNatClampNeg ≤ (Int32.ofNat (cb * 2)).toNatClampNeg := by omega
    have i644 : (Int32.ofNat ((i + 1) * 2)).toNatClampNeg + (Int32.ofNat ((sz - i) * 2)).toNatClampNeg ≤ vb44.length := by omega
    obtain ⟨T44, h44, Lx44, X44, e44, N44, Kp44, Vc44, st44⟩ := cpA X43 hx hZ hown (hw _ (List.mem_of_getElem? (i := 84) rfl)) (hw _ (List.mem_of_getElem? (i := 44) rfl)) (hw _ (List.mem_of_getElem? (i := 42) rfl)) (hw _ (List.mem_of_getElem? (i := 43) rfl)) e43 VA44 VB44 (sp := Int32.ofNat (i * 2)) (dp := Int32.ofNat ((i + 1) * 2)) (nn := Int32.ofNat ((sz - i) * 2)) (Or.inl ⟨rfl, rfl⟩) (own_onnn _ (by omega)) (own_onnn _ (by omega)) (own_onnn _ (by omega)) i444 i544 rfl i644 N0 g_wa (g := (mkF m 58 #[.val (.ref a1), .val (.int (Int32.ofNat i)), .val (.int (2 : Int32))] [(.int (Int32.ofNat ((sz - i) * 2))), (.int (Int32.ofNat ((i + 1) * 2))), (.ref wa), (.int (Int32.ofNat (i * 2))), (.ref wa)])) rfl (by rw [hml]; rfl) rfl (hb hby d13_58) (by decide) (W := 0) (by show 2 * 0 + _ ≤ _; exact Nat.le_of_eq rfl) (by decide)
    have f45 := E.keep Kp44
    have f46 := F1.keep Kp44 (ninS hne nin0)
    have f47 := F2.keep Kp44 (ninS hne nin0)
    have f48 := EL.keep Kp44
    have K44 : Keep h0 h44 [a1, wa] := K0.trans Kp44 (allS (P := fun x => x ∈ [a1, wa] ∨ h0.size ≤ x) (Or.inl (List.mem_of_getElem? (i := 1) rfl)) all0)
    have Zs44 : n0 ≤ h44.size := Nat.le_trans Z0 Kp44.1
    have V44 : LA Z h44 wa kw (cb * 2) := ⟨_, own_cplen _ _ _ _ _ lb44 (by rw [List.length_map, List.length_range]) (by omega), Vc44⟩
    refine go st44 ?_
    show G (T44.setTop (mkF m 61 #[.val (.ref a1), .val (.int (Int32.ofNat i)), .val (.int (2 : Int32))] []))
    refine go (fun _ k => XS.aloadN X44.here hx rfl (hb hby d13_61) rfl rfl k) ?_
    show G (T44.setTop (mkF m 62 #[.val (.ref a1), .val (.int (Int32.ofNat i)), .val (.int (2 : Int32))] [(.ref a1)]))
    refine go (fun _ k => XS.dup X44.here hx rfl (hb hby d13_62) rfl rfl k) ?_
    show G (T44.setTop (mkF m 63 #[.val (.ref a1), .val (.int (Int32.ofNat i)), .val (.int (2 : Int32))] [(.ref a1), (.ref a1)]))
    obtain ⟨T49, X49, e49, st49⟩ := getF X44 hx hZ hown (host := "") (Or.inl (hw _ (List.mem_of_getElem? (i := 51) rfl))) Via.refl e44 f47 (g := (mkF m 63 #[.val (.ref a1), .val (.int (Int32.ofNat i)), .val (.int (2 : Int32))] [(.ref a1), (.ref a1)])) rfl rfl (hb hby d13_63)
    refine go st49 ?_
    show G (T49.setTop (mkF m 66 #[.val (.ref a1), .val (.int (Int32.ofNat i)), .val (.int (2 : Int32))] [(.int (Int32.ofNat sz)), (.ref a1)]))
    refine go (fun _ k => XS.iconst X49.here hx rfl (hb hby d13_66) k) ?_
    show G (T49.setTop (mkF m 67 #[.val (.ref a1), .val (.int (Int32.ofNat i)), .val (.int (2 : Int32))] [(.int (1 : Int32)), (.int (Int32.ofNat sz)), (.ref a1)]))
    refine go (fun _ k => XS.iadd X49.here hx rfl (hb hby d13_67) rfl k) ?_
    show G (T49.setTop (mkF m 68 #[.val (.ref a1), .val (.int (Int32.ofNat i)), .val (.int (2 : Int32))] [(.int ((Int32.ofNat sz) + (1 : Int32))), (.ref a1)]))
    rw [show ((Int32.ofNat sz) + (1 : Int32)) = (Int32.ofNat (sz + 1)) from own_onadd sz 1]
    show G (T49.setTop (mkF m 68 #[.val (.ref a1), .val (.int (Int32.ofNat i)), .val (.int (2 : Int32))] [(.int (Int32.ofNat (sz + 1))), (.ref a1)]))
    obtain ⟨T50, h50, X50, e50, W50, st50⟩ := putF X49 hx hZ hown (host := "") (Or.inl (hw _ (List.mem_of_getElem? (i := 51) rfl))) Via.refl e49 f47 f45 (Or.inl (hw _ (List.mem_of_getElem? (i := 52) rfl))) (hw _ (List.mem_of_getElem? (i := 28) rfl)) (ty := .int) (by decide) rfl rfl (g := (mkF m 68 #[.val (.ref a1), .val (.int (Int32.ofNat i)), .val (.int (2 : Int32))] [(.int (Int32.ofNat (sz + 1))), (.ref a1)])) rfl rfl (hb hby d13_68)
    have f51 := f45.wr W50
    have f52 := f46.other W50 (Or.inr (slot_ne (Or.inl (hw _ (List.mem_of_getElem? (i := 50) rfl))) (Or.inl (hw _ (List.mem_of_getElem? (i := 52) rfl))) (by decide) (t := (.array .long)) (t' := .int) (by decide) (by decide)))
    have f53 := f48.wr W50
    have f54 := V44.other W50 (Ne.symm hne)
    have K50 : Keep h0 h50 [a1, wa] := K44.wr W50 (Or.inl (List.mem_of_getElem? (i := 0) rfl))
    have Zs50 : n0 ≤ h50.size := Nat.le_trans Zs44 (Keep.of_wr W50).1
    have N50 := Fr.snoc X50 N44 g_a1
    have Fw50 := f47.same W50
    refine go st50 ?_
    show G (T50.setTop (mkF m 71 #[.val (.ref a1), .val (.int (Int32.ofNat i)), .val (.int (2 : Int32))] []))
    rw [hG]
    refine own_fin X50 Bd.notSynchronized (v := none) (fun _ => rfl) (fun fs hr => X50.returnOut hx Bd.returns (hb hby d13_71) hr) ?_ (by decide) (by decide)
    show Q13w2 Z a1 wa kw sz cb i h0 n0 (none) T50.heap _
    rw [e50]
    exact ⟨wa, kw, cb, rfl, N50, K50, Or.inl rfl, f52, Fw50, f54, f53, by omega, by omega⟩

theorem ef_rm17w2 (m : MethodId) (a1 : Addr) (i : Nat) : entryFrame m #[(.ref a1), (.long (Int64.ofNat i))] 4 = mkF m 0 #[.val (.ref a1), .val (.long (Int64.ofNat i)), .second, .unset] [] := by first | (simp [entryFrame, mkF, argsToLocals, Value.category]; done) | rfl
def Q17w2 (Z : State) (a1 : Addr) (i : Nat) (ca ck wa : Addr) (kc kw : ClassId) (sz cb : Nat) (h0 : Heap) (n0 : Nat) (v : Option Value) (h : Heap) (L : List Loc) : Prop := v = none ∧ Fr n0 L ∧ Keep h0 h [ck, wa] ∧ Fld Z h ck "com/example/kerros/kerros/store/SortedChunks$Chunk" "words" "[J" (.ref wa) ∧ Fld Z h ck "com/example/kerros/kerros/store/SortedChunks$Chunk" "size" "I" (.int (Int32.ofNat (sz - 1))) ∧ LA Z h wa kw (cb * 2)
set_option maxRecDepth 65536 in
set_option maxHeartbeats 40000000 in
theorem rm17w2 (l : Launch) (Z : State) (a0 : Array Value) (hw : ∀ d ∈ tables_1, d.before a0 Z = true) (ws : List Jvm.Cond) (a1 : Addr) (i : Nat) (ca ck wa : Addr) (kc kw : ClassId) (sz cb : Nat) (h0 : Heap) (n0 : Nat) (Z0 : n0 ≤ h0.size) (F1 : Fld Z h0 a1 "com/example/kerros/kerros/store/SortedChunks" "width" "I" (.int (2 : Int32))) (F2 : Fld Z h0 a1 "com/example/kerros/kerros/store/SortedChunks" "used" "I" (.int (1 : Int32))) (F3 : Fld Z h0 a1 "com/example/kerros/kerros/store/SortedChunks" "chunks" "[Lcom/example/kerros/kerros/store/SortedChunks$Chunk;" (.ref ca)) (VC : Arv Z h0 ca kc (.object "com/example/kerros/kerros/store/SortedChunks$Chunk") (1 : Int32) [(.ref ck)] .null) (E : Exa Z h0 ck "com/example/kerros/kerros/store/SortedChunks$Chunk") (F4 : Fld Z h0 ck "com/example/kerros/kerros/store/SortedChunks$Chunk" "words" "[J" (.ref wa)) (F5 : Fld Z h0 ck "com/example/kerros/kerros/store/SortedChunks$Chunk" "size" "I" (.int (Int32.ofNat sz))) (VL : LA Z h0 wa kw (cb * 2)) (EL : Exa Z h0 wa "[J") (ne1 : a1 ≠ ck) (ne2 : a1 ≠ wa) (ne3 : ca ≠ ck) (ne4 : ca ≠ wa) (ne5 : ck ≠ wa) (g_ck : n0 ≤ ck) (g_wa : n0 ≤ wa) (hsc : sz ≤ cb) (hc5 : cb ≤ 5) (hi : i < sz) :
    MetFree l (⟨"com/example/kerros/kerros/store/SortedChunks", "remove", "(J)V"⟩ : MethodName) (head1 (Jvm.Cond.code (⟨"com/example/kerros/kerros/store/SortedChunks", "remove", "(J)V"⟩ : MethodName) prog_86_method_11_code 4 none :: ws) ({ frames := 2, cells := 0, slots := 0, locals := 60 } : Room)) (fun a U => a = #[(.ref a1), (.long (Int64.ofNat i))] ∧ Z.Warmed39 U.vm ∧ U.heap = h0) (fun _ _ _ _ _ => True) (fun _ U o U' => ∃ v L, o = .returned v ∧ Q17w2 Z a1 i ca ck wa kc kw sz cb h0 n0 v U'.heap L ∧ FrameEnd U o U' L ({ frames := 2, cells := 0, slots := 0, locals := 60 } : Room).cells ({ frames := 2, cells := 0, slots := 0, locals := 60 } : Room).slots) := by
  refine MetFree.of_bodySF (plainFor_of_name pn_17) hisR ?_
  intro p e s m args below meth c s₁ Bd hml0 hP hK
  obtain ⟨rfl, hZ, hh⟩ := hP
  have hx := Bd.exec
  have hby := Bd.bytes
  have hml : c.maxLocals = 4 := hml0
  have hown : s.vm.findClass "com/example/kerros/kerros/store/SortedChunks" = some m.cls := findClass_of_methodNamed Bd.named
  have hnm := (name_of_methodNamed Bd.named Bd.method).1
  have X0 : Stand p l e ({ frames := 2, cells := 0, slots := 0, locals := 60 } : Room) s m #[(.ref a1), (.long (Int64.ofNat i))] below meth c s₁ [] 0 0 := Stand.of_body Bd
  have e0 : s₁.heap = h0 := by rw [← hh, Bd.state]; rfl
  have N0 := Fr.nil n0
  obtain ⟨G, hG⟩ : ∃ G : State → Prop, G = OwnG p e below s ({ frames := 2, cells := 0, slots := 0, locals := 60 } : Room).cells ({ frames := 2, cells := 0, slots := 0, locals := 60 } : Room).slots (Q17w2 Z a1 i ca ck wa kc kw sz cb h0 n0) := ⟨_, rfl⟩
  have go : ∀ {A B : State}, (∀ t, Steps p.tables e below A t → Steps p.tables e below B t) → G A → G B := fun h k => by rw [hG] at k ⊢; exact OwnG.go h k
  suffices k0 : G (s₁.setTop (mkF m 0 #[.val (.ref a1), .val (.long (Int64.ofNat i)), .second, .unset] [])) by
    rw [hG] at k0; exact OwnG.go (fun t k => castTop (ef_rm17w2 m a1 i) k) k0
  have K0 : Keep h0 h0 [ck, wa] := Keep.refl _ _
  refine go (fun _ k => XS.lloadN X0.here hx rfl (hb hby d17_0) rfl k) ?_
  show G (s₁.setTop (mkF m 1 #[.val (.ref a1), .val (.long (Int64.ofNat i)), .second, .unset] [(.long (Int64.ofNat i))]))
  obtain ⟨_, _, ⟨T1, L1, k1, n1⟩, -, X1, ⟨Lc1, hQ1, l1, y1, z1⟩, st1⟩ := Jvm.LawKit.callS X0 hx (y := (⟨"com/example/kerros/kerros/store/SortedChunks", "chunkOf", "(J)I"⟩ : MethodName)) hown (mvT hZ (hw _ (List.mem_of_getElem? (i := 65) rfl))) (mvT hZ (hw _ (List.mem_of_getElem? (i := 66) rfl))) (mvT hZ (hw _ (List.mem_of_getElem? (i := 6) rfl))) (mvT hZ (hw _ (List.mem_of_getElem? (i := 67) rfl))) (by decide) (backOf (W := 0) (rm11 l Z a0 hw [] i h0 n0 Z0 (by omega)) hZ (hw _ (List.mem_of_getElem? (i := 67) rfl)) (hw _ (List.mem_of_getElem? (i := 6) rfl)) (by decide) (by decide)) (g := (mkF m 1 #[.val (.ref a1), .val (.long (Int64.ofNat i)), .second, .unset] [(.long (Int64.ofNat i))])) rfl (by rw [hml]; rfl) (argsL := [(.long (Int64.ofNat i))]) (rest := []) (lenOf pd_17_0 rfl) rfl (by show 2 * 0 + _ ≤ _; exact Nat.le_of_eq rfl) (hb hby d17_1) (fun _ _ => ⟨rfl, e0, (by decide : 0 + 0 ≤ _), (by decide : 0 + 0 ≤ _)⟩)
  dsimp only [Pt.U, Pt.locs, Pt.cells, Pt.slots] at X1 l1 y1 z1 st1 hQ1
  subst l1 y1 z1
  obtain ⟨rfl, N1q, e1⟩ := hQ1
  have N1 := Fr.app N0 N1q
  refine go st1 ?_
  show G (T1.setTop (mkF m 4 #[.val (.ref a1), .val (.long (Int64.ofNat i)), .second, .unset] [(.int (0 : Int32))]))
  refine go (fun _ k => XS.istoreN X1.here hx rfl (hb hby d17_4) rfl (l' := #[.val (.ref a1), .val (.long (Int64.ofNat i)), .second, .val (.int (0 : Int32))]) rfl k) ?_
  show G (T1.setTop (mkF m 5 #[.val (.ref a1), .val (.long (Int64.ofNat i)), .second, .val (.int (0 : Int32))] []))
  refine go (fun _ k => XS.aloadN X1.here hx rfl (hb hby d17_5) rfl rfl k) ?_
  show G (T1.setTop (mkF m 6 #[.val (.ref a1), .val (.long (Int64.ofNat i)), .second, .val (.int (0 : Int32))] [(.ref a1)]))
  obtain ⟨T2, X2, e2, st2⟩ := getF X1 hx hZ hown (host := "") (Or.inl (hw _ (List.mem_of_getElem? (i := 23) rfl))) Via.refl e1 F3 (g := (mkF m 6 #[.val (.ref a1), .val (.long (Int64.ofNat i)), .second, .val (.int (0 : Int32))] [(.ref a1)])) rfl rfl (hb hby d17_6)
  refine go st2 ?_
  show G (T2.setTop (mkF m 9 #[.val (.ref a1), .val (.long (Int64.ofNat i)), .second, .val (.int (0 : Int32))] [(.ref ca)]))
  refine go (fun _ k => XS.iloadN X2.here hx rfl (hb hby d17_9) rfl k) ?_
  show G (T2.setTop (mkF m 10 #[.val (.ref a1), .val (.long (Int64.ofNat i)), .second, .val (.int (0 : Int32))] [(.int (0 : Int32)), (.ref ca)]))
  obtain ⟨cl3, Ar3, qk3, qs3, qn3, qh3, qg3⟩ := id VC
  refine go (X2.aaload hx (j := (0 : Int32)) (v := (.ref ck)) (by rw [e2]; exact Ar3.1) (State.isArrayOf_alike hZ.alike Ar3.2.1) rfl Ar3.2.2 (inb_of qs3 ⟨by decide, by decide⟩) (Has.at qh3 (inb_of qs3 ⟨by decide, by decide⟩) rfl) (g := (mkF m 10 #[.val (.ref a1), .val (.long (Int64.ofNat i)), .second, .val (.int (0 : Int32))] [(.int (0 : Int32)), (.ref ca)])) rfl rfl (hb hby d17_10)) ?_
  show G (T2.setTop (mkF m 11 #[.val (.ref a1), .val (.long (Int64.ofNat i)), .second, .val (.int (0 : Int32))] [(.ref ck)]))
  refine go (fun _ k => XS.lloadN X2.here hx rfl (hb hby d17_11) rfl k) ?_
  show G (T2.setTop (mkF m 12 #[.val (.ref a1), .val (.long (Int64.ofNat i)), .second, .val (.int (0 : Int32))] [(.long (Int64.ofNat i)), (.ref ck)]))
  obtain ⟨_, _, ⟨T4, L4, k4, n4⟩, -, X4, ⟨Lc4, hQ4, l4, y4, z4⟩, st4⟩ := Jvm.LawKit.callS X2 hx (y := (⟨"com/example/kerros/kerros/store/SortedChunks", "indexOf", "(J)I"⟩ : MethodName)) hown (mvT hZ (hw _ (List.mem_of_getElem? (i := 68) rfl))) (mvT hZ (hw _ (List.mem_of_getElem? (i := 69) rfl))) (mvT hZ (hw _ (List.mem_of_getElem? (i := 6) rfl))) (mvT hZ (hw _ (List.mem_of_getElem? (i := 70) rfl))) (by decide) (backOf (W := 1) (rm12 l Z a0 hw [] i h0 n0 Z0 (by omega)) hZ (hw _ (List.mem_of_getElem? (i := 70) rfl)) (hw _ (List.mem_of_getElem? (i := 6) rfl)) (by decide) (by decide)) (g := (mkF m 12 #[.val (.ref a1), .val (.long (Int64.ofNat i)), .second, .val (.int (0 : Int32))] [(.long (Int64.ofNat i)), (.ref ck)])) rfl (by rw [hml]; rfl) (argsL := [(.long (Int64.ofNat i))]) (rest := [(.ref ck)]) (lenOf pd_17_0 rfl) rfl (by show 2 * 0 + _ ≤ _; exact Nat.le_of_eq rfl) (hb hby d17_12) (fun _ _ => ⟨rfl, e2, (by decide : 0 + 0 ≤ _), (by decide : 0 + 0 ≤ _)⟩)
  dsimp only [Pt.U, Pt.locs, Pt.cells, Pt.slots] at X4 l4 y4 z4 st4 hQ4
  subst l4 y4 z4
  obtain ⟨rfl, N4q, e4⟩ := hQ4
  have N4 := Fr.app N1 N4q
  refine go st4 ?_
  show G (T4.setTop (mkF m 15 #[.val (.ref a1), .val (.long (Int64.ofNat i)), .second, .val (.int (0 : Int32))] [(.int (Int32.ofNat i)), (.ref ck)]))
  refine go (fun _ k => XS.aloadN X4.here hx rfl (hb hby d17_15) rfl rfl k) ?_
  show G (T4.setTop (mkF m 16 #[.val (.ref a1), .val (.long (Int64.ofNat i)), .second, .val (.int (0 : Int32))] [(.ref a1), (.int (Int32.ofNat i)), (.ref ck)]))
  obtain ⟨T5, X5, e5, st5⟩ := getF X4 hx hZ hown (host := "") (Or.inl (hw _ (List.mem_of_getElem? (i := 13) rfl))) Via.refl e4 F1 (g := (mkF m 16 #[.val (.ref a1), .val (.long (Int64.ofNat i)), .second, .val (.int (0 : Int32))] [(.ref a1), (.int (Int32.ofNat i)), (.ref ck)])) rfl rfl (hb hby d17_16)
  refine go st5 ?_
  show G (T5.setTop (mkF m 19 #[.val (.ref a1), .val (.long (Int64.ofNat i)), .second, .val (.int (0 : Int32))] [(.int (2 : Int32)), (.int (Int32.ofNat i)), (.ref ck)]))
  obtain ⟨cq6, qa6, qc6⟩ := E.cell
  obtain ⟨_, ⟨T6, L6, k6, n6⟩, X6, ⟨Lc6, hQ6, l6, y6, z6⟩, st6⟩ := own_privR X5 hx hZ (y := (⟨"com/example/kerros/kerros/store/SortedChunks$Chunk", "remove", "(II)V"⟩ : MethodName)) hown (hw _ (List.mem_of_getElem? (i := 106) rfl)) (hw _ (List.mem_of_getElem? (i := 107) rfl)) (hw _ (List.mem_of_getElem? (i := 108) rfl)) (hw _ (List.mem_of_getElem? (i := 28) rfl)) (hw _ (List.mem_of_getElem? (i := 109) rfl)) (by decide) (backOf (W := 0) (rm18w2 l Z a0 hw [] ck wa kw sz cb i h0 n0 Z0 E F4 F5 VL EL ne5 g_ck g_wa hsc hc5 (by omega)) hZ (hw _ (List.mem_of_getElem? (i := 109) rfl)) (hw _ (List.mem_of_getElem? (i := 29) rfl)) (by decide) (by decide)) (g := (mkF m 19 #[.val (.ref a1), .val (.long (Int64.ofNat i)), .second, .val (.int (0 : Int32))] [(.int (2 : Int32)), (.int (Int32.ofNat i)), (.ref ck)])) rfl (by rw [hml]; rfl) (a := ck) (by rw [e5]; exact qa6) qc6 (argsL := [(.int (Int32.ofNat i)), (.int (2 : Int32))]) (rest := []) (lenOf pd_17_1 rfl) rfl (by show 2 * 0 + _ ≤ _; exact Nat.le_of_eq rfl) (hb hby d17_19) ⟨rfl, e5, (by decide : 0 + 0 ≤ _), (by decide : 0 + 0 ≤ _)⟩
  dsimp only [Pt.U, Pt.locs, Pt.cells, Pt.slots] at X6 l6 y6 z6 st6 hQ6
  subst l6 y6 z6
  obtain ⟨rfl, N6q, Kc6, c6_0, c6_1, c6_2⟩ := hQ6
  have f7 := F1.keep Kc6 (ninS ne1 (ninS ne2 nin0))
  have f8 := F2.keep Kc6 (ninS ne1 (ninS ne2 nin0))
  have f9 := F3.keep Kc6 (ninS ne1 (ninS ne2 nin0))
  have f10 := VC.keep Kc6 (ninS ne3 (ninS ne4 nin0))
  have f11 := E.keep Kc6
  have f12 := EL.keep Kc6
  have K6 : Keep h0 T6.heap [ck, wa] := K0.trans Kc6 (allS (P := fun x => x ∈ [ck, wa] ∨ h0.size ≤ x) (Or.inl (List.mem_of_getElem? (i := 0) rfl)) (allS (P := fun x => x ∈ [ck, wa] ∨ h0.size ≤ x) (Or.inl (List.mem_of_getElem? (i := 1) rfl)) all0))
  have Zs6 : n0 ≤ T6.heap.size := Nat.le_trans Z0 Kc6.1
  have N6 := Fr.app N4 N6q
  refine go (fun _ k => st6.trans k) ?_
  show G (T6.setTop (mkF m 22 #[.val (.ref a1), .val (.long (Int64.ofNat i)), .second, .val (.int (0 : Int32))] []))
  refine go (fun _ k => XS.aloadN X6.here hx rfl (hb hby d17_22) rfl rfl k) ?_
  show G (T6.setTop (mkF m 23 #[.val (.ref a1), .val (.long (Int64.ofNat i)), .second, .val (.int (0 : Int32))] [(.ref a1)]))
  obtain ⟨T13, X13, e13, st13⟩ := getF X6 hx hZ hown (host := "") (Or.inl (hw _ (List.mem_of_getElem? (i := 19) rfl))) Via.refl rfl f8 (g := (mkF m 23 #[.val (.ref a1), .val (.long (Int64.ofNat i)), .second, .val (.int (0 : Int32))] [(.ref a1)])) rfl rfl (hb hby d17_23)
  refine go st13 ?_
  show G (T13.setTop (mkF m 26 #[.val (.ref a1), .val (.long (Int64.ofNat i)), .second, .val (.int (0 : Int32))] [(.int (1 : Int32))]))
  refine go (fun _ k => XS.iconst X13.here hx rfl (hb hby d17_26) k) ?_
  show G (T13.setTop (mkF m 27 #[.val (.ref a1), .val (.long (Int64.ofNat i)), .second, .val (.int (0 : Int32))] [(.int (1 : Int32)), (.int (1 : Int32))]))
  have hc14 : ¬ ((1 : Int32) < (1 : Int32)) := (by decide)
  refine go (fun _ k => XS.icmpYes X13.here hx rfl (pc0 := 27) (pc' := 35) rfl (hb hby d17_27) rfl (flt hc14).2.2.2 (by decide) (by decide) k) ?_
  show G (T13.setTop (mkF m 35 #[.val (.ref a1), .val (.long (Int64.ofNat i)), .second, .val (.int (0 : Int32))] []))
  rw [hG]
  refine own_fin X13 Bd.notSynchronized (v := none) (fun _ => rfl) (fun fs hr => X13.returnOut hx Bd.returns (hb hby d17_35) hr) ?_ (by decide) (by decide)
  show Q17w2 Z a1 i ca ck wa kc kw sz cb h0 n0 (none) T13.heap _
  rw [e13]
  exact ⟨rfl, N6, K6, c6_0, c6_1, c6_2⟩

theorem ef_rm10w2 (m : MethodId) (a1 : Addr) (i : Nat) : entryFrame m #[(.ref a1), (.long (Int64.ofNat i))] 9 = mkF m 0 #[.val (.ref a1), .val (.long (Int64.ofNat i)), .second, .unset, .unset, .unset, .unset, .unset, .unset] [] := by first | (simp [entryFrame, mkF, argsToLocals, Value.category]; done) | rfl
def Q10w2 (Z : State) (a1 : Addr) (i : Nat) (ca ck wa : Addr) (kc kw : ClassId) (sz cb : Nat) (h0 : Heap) (n0 : Nat) (v : Option Value) (h : Heap) (L : List Loc) : Prop := ∃ (wa' : Addr) (kw' : ClassId) (d' : Nat), v = some (.long (Int64.ofNat i)) ∧ Fr n0 L ∧ Keep h0 h [ck, wa] ∧ (wa' = wa ∨ h0.size ≤ wa') ∧ Fld Z h ck "com/example/kerros/kerros/store/SortedChunks$Chunk" "words" "[J" (.ref wa') ∧ Fld Z h ck "com/example/kerros/kerros/store/SortedChunks$Chunk" "size" "I" (.int (Int32.ofNat (sz + 1))) ∧ LA Z h wa' kw' (d' * 2) ∧ Exa Z h wa' "[J" ∧ sz + 1 ≤ d' ∧ d' ≤ 5
set_option maxRecDepth 65536 in
set_option maxHeartbeats 40000000 in
theorem rm10w2 (l : Launch) (Z : State) (a0 : Array Value) (hw : ∀ d ∈ tables_1, d.before a0 Z = true) (ws : List Jvm.Cond) (a1 : Addr) (i : Nat) (ca ck wa : Addr) (kc kw : ClassId) (sz cb : Nat) (h0 : Heap) (n0 : Nat) (Z0 : n0 ≤ h0.size) (F1 : Fld Z h0 a1 "com/example/kerros/kerros/store/SortedChunks" "width" "I" (.int (2 : Int32))) (F2 : Fld Z h0 a1 "com/example/kerros/kerros/store/SortedChunks" "used" "I" (.int (1 : Int32))) (F3 : Fld Z h0 a1 "com/example/kerros/kerros/store/SortedChunks" "chunks" "[Lcom/example/kerros/kerros/store/SortedChunks$Chunk;" (.ref ca)) (VC : Arv Z h0 ca kc (.object "com/example/kerros/kerros/store/SortedChunks$Chunk") (1 : Int32) [(.ref ck)] .null) (E : Exa Z h0 ck "com/example/kerros/kerros/store/SortedChunks$Chunk") (F4 : Fld Z h0 ck "com/example/kerros/kerros/store/SortedChunks$Chunk" "words" "[J" (.ref wa)) (F5 : Fld Z h0 ck "com/example/kerros/kerros/store/SortedChunks$Chunk" "size" "I" (.int (Int32.ofNat sz))) (VL : LA Z h0 wa kw (cb * 2)) (EL : Exa Z h0 wa "[J") (ne1 : a1 ≠ ck) (ne2 : a1 ≠ wa) (ne3 : ca ≠ ck) (ne4 : ca ≠ wa) (ne5 : ck ≠ wa) (g_ck : n0 ≤ ck) (g_wa : n0 ≤ wa) (hsc : sz ≤ cb) (hc5 : cb ≤ 5) (hi : i ≤ sz) (hs3 : sz ≤ 3) :
    MetFree l (⟨"com/example/kerros/kerros/store/SortedChunks", "insert", "(J)J"⟩ : MethodName) (head1 (Jvm.Cond.code (⟨"com/example/kerros/kerros/store/SortedChunks", "insert", "(J)J"⟩ : MethodName) prog_86_method_10_code 9 (some .long) :: ws) ({ frames := 3, cells := 1, slots := 12, locals := 90 } : Room)) (fun a U => a = #[(.ref a1), (.long (Int64.ofNat i))] ∧ Z.Warmed39 U.vm ∧ U.heap = h0) (fun _ _ _ _ _ => True) (fun _ U o U' => ∃ v L, o = .returned v ∧ Q10w2 Z a1 i ca ck wa kc kw sz cb h0 n0 v U'.heap L ∧ FrameEnd U o U' L ({ frames := 3, cells := 1, slots := 12, locals := 90 } : Room).cells ({ frames := 3, cells := 1, slots := 12, locals := 90 } : Room).slots) := by
  refine MetFree.of_bodySF (plainFor_of_name pn_10) hisR ?_
  intro p e s m args below meth c s₁ Bd hml0 hP hK
  obtain ⟨rfl, hZ, hh⟩ := hP
  have hx := Bd.exec
  have hby := Bd.bytes
  have hml : c.maxLocals = 9 := hml0
  have hown : s.vm.findClass "com/example/kerros/kerros/store/SortedChunks" = some m.cls := findClass_of_methodNamed Bd.named
  have hnm := (name_of_methodNamed Bd.named Bd.method).1
  have X0 : Stand p l e ({ frames := 3, cells := 1, slots := 12, locals := 90 } : Room) s m #[(.ref a1), (.long (Int64.ofNat i))] below meth c s₁ [] 0 0 := Stand.of_body Bd
  have e0 : s₁.heap = h0 := by rw [← hh, Bd.state]; rfl
  have N0 := Fr.nil n0
  obtain ⟨G, hG⟩ : ∃ G : State → Prop, G = OwnG p e below s ({ frames := 3, cells := 1, slots := 12, locals := 90 } : Room).cells ({ frames := 3, cells := 1, slots := 12, locals := 90 } : Room).slots (Q10w2 Z a1 i ca ck wa kc kw sz cb h0 n0) := ⟨_, rfl⟩
  have go : ∀ {A B : State}, (∀ t, Steps p.tables e below A t → Steps p.tables e below B t) → G A → G B := fun h k => by rw [hG] at k ⊢; exact OwnG.go h k
  suffices k0 : G (s₁.setTop (mkF m 0 #[.val (.ref a1), .val (.long (Int64.ofNat i)), .second, .unset, .unset, .unset, .unset, .unset, .unset] [])) by
    rw [hG] at k0; exact OwnG.go (fun t k => castTop (ef_rm10w2 m a1 i) k) k0
  have K0 : Keep h0 h0 [ck, wa] := Keep.refl _ _
  refine go (fun _ k => XS.lloadN X0.here hx rfl (hb hby d10_0) rfl k) ?_
  show G (s₁.setTop (mkF m 1 #[.val (.ref a1), .val (.long (Int64.ofNat i)), .second, .unset, .unset, .unset, .unset, .unset, .unset] [(.long (Int64.ofNat i))]))
  obtain ⟨_, _, ⟨T1, L1, k1, n1⟩, -, X1, ⟨Lc1, hQ1, l1, y1, z1⟩, st1⟩ := Jvm.LawKit.callS X0 hx (y := (⟨"com/example/kerros/kerros/store/SortedChunks", "chunkOf", "(J)I"⟩ : MethodName)) hown (mvT hZ (hw _ (List.mem_of_getElem? (i := 65) rfl))) (mvT hZ (hw _ (List.mem_of_getElem? (i := 66) rfl))) (mvT hZ (hw _ (List.mem_of_getElem? (i := 6) rfl))) (mvT hZ (hw _ (List.mem_of_getElem? (i := 67) rfl))) (by decide) (backOf (W := 0) (rm11 l Z a0 hw [] i h0 n0 Z0 (by omega)) hZ (hw _ (List.mem_of_getElem? (i := 67) rfl)) (hw _ (List.mem_of_getElem? (i := 6) rfl)) (by decide) (by decide)) (g := (mkF m 1 #[.val (.ref a1), .val (.long (Int64.ofNat i)), .second, .unset, .unset, .unset, .unset, .unset, .unset] [(.long (Int64.ofNat i))])) rfl (by rw [hml]; rfl) (argsL := [(.long (Int64.ofNat i))]) (rest := []) (lenOf pd_10_0 rfl) rfl (by show 2 * 0 + _ ≤ _; exact Nat.le_of_eq rfl) (hb hby d10_1) (fun _ _ => ⟨rfl, e0, (by decide : 0 + 0 ≤ _), (by decide : 0 + 0 ≤ _)⟩)
  dsimp only [Pt.U, Pt.locs, Pt.cells, Pt.slots] at X1 l1 y1 z1 st1 hQ1
  subst l1 y1 z1
  obtain ⟨rfl, N1q, e1⟩ := hQ1
  have N1 := Fr.app N0 N1q
  refine go st1 ?_
  show G (T1.setTop (mkF m 4 #[.val (.ref a1), .val (.long (Int64.ofNat i)), .second, .unset, .unset, .unset, .unset, .unset, .unset] [(.int (0 : Int32))]))
  refine go (fun _ k => XS.istoreN X1.here hx rfl (hb hby d10_4) rfl (l' := #[.val (.ref a1), .val (.long (Int64.ofNat i)), .second, .val (.int (0 : Int32)), .unset, .unset, .unset, .unset, .unset]) rfl k) ?_
  show G (T1.setTop (mkF m 5 #[.val (.ref a1), .val (.long (Int64.ofNat i)), .second, .val (.int (0 : Int32)), .unset, .unset, .unset, .unset, .unset] []))
  refine go (fun _ k => XS.lloadN X1.here hx rfl (hb hby d10_5) rfl k) ?_
  show G (T1.setTop (mkF m 6 #[.val (.ref a1), .val (.long (Int64.ofNat i)), .second, .val (.int (0 : Int32)), .unset, .unset, .unset, .unset, .unset] [(.long (Int64.ofNat i))]))
  obtain ⟨_, _, ⟨T2, L2, k2, n2⟩, -, X2, ⟨Lc2, hQ2, l2, y2, z2⟩, st2⟩ := Jvm.LawKit.callS X1 hx (y := (⟨"com/example/kerros/kerros/store/SortedChunks", "indexOf", "(J)I"⟩ : MethodName)) hown (mvT hZ (hw _ (List.mem_of_getElem? (i := 68) rfl))) (mvT hZ (hw _ (List.mem_of_getElem? (i := 69) rfl))) (mvT hZ (hw _ (List.mem_of_getElem? (i := 6) rfl))) (mvT hZ (hw _ (List.mem_of_getElem? (i := 70) rfl))) (by decide) (backOf (W := 0) (rm12 l Z a0 hw [] i h0 n0 Z0 (by omega)) hZ (hw _ (List.mem_of_getElem? (i := 70) rfl)) (hw _ (List.mem_of_getElem? (i := 6) rfl)) (by decide) (by decide)) (g := (mkF m 6 #[.val (.ref a1), .val (.long (Int64.ofNat i)), .second, .val (.int (0 : Int32)), .unset, .unset, .unset, .unset, .unset] [(.long (Int64.ofNat i))])) rfl (by rw [hml]; rfl) (argsL := [(.long (Int64.ofNat i))]) (rest := []) (lenOf pd_10_0 rfl) rfl (by show 2 * 0 + _ ≤ _; exact Nat.le_of_eq rfl) (hb hby d10_6) (fun _ _ => ⟨rfl, e1, (by decide : 0 + 0 ≤ _), (by decide : 0 + 0 ≤ _)⟩)
  dsimp only [Pt.U, Pt.locs, Pt.cells, Pt.slots] at X2 l2 y2 z2 st2 hQ2
  subst l2 y2 z2
  obtain ⟨rfl, N2q, e2⟩ := hQ2
  have N2 := Fr.app N1 N2q
  refine go st2 ?_
  show G (T2.setTop (mkF m 9 #[.val (.ref a1), .val (.long (Int64.ofNat i)), .second, .val (.int (0 : Int32)), .unset, .unset, .unset, .unset, .unset] [(.int (Int32.ofNat i))]))
  refine go (fun _ k => XS.istore X2.here hx rfl (hb hby d10_9) rfl (l' := #[.val (.ref a1), .val (.long (Int64.ofNat i)), .second, .val (.int (0 : Int32)), .val (.int (Int32.ofNat i)), .unset, .unset, .unset, .unset]) rfl k) ?_
  show G (T2.setTop (mkF m 11 #[.val (.ref a1), .val (.long (Int64.ofNat i)), .second, .val (.int (0 : Int32)), .val (.int (Int32.ofNat i)), .unset, .unset, .unset, .unset] []))
  refine go (fun _ k => XS.aloadN X2.here hx rfl (hb hby d10_11) rfl rfl k) ?_
  show G (T2.setTop (mkF m 12 #[.val (.ref a1), .val (.long (Int64.ofNat i)), .second, .val (.int (0 : Int32)), .val (.int (Int32.ofNat i)), .unset, .unset, .unset, .unset] [(.ref a1)]))
  obtain ⟨T3, X3, e3, st3⟩ := getF X2 hx hZ hown (host := "") (Or.inl (hw _ (List.mem_of_getElem? (i := 23) rfl))) Via.refl e2 F3 (g := (mkF m 12 #[.val (.ref a1), .val (.long (Int64.ofNat i)), .second, .val (.int (0 : Int32)), .val (.int (Int32.ofNat i)), .unset, .unset, .unset, .unset] [(.ref a1)])) rfl rfl (hb hby d10_12)
  refine go st3 ?_
  show G (T3.setTop (mkF m 15 #[.val (.ref a1), .val (.long (Int64.ofNat i)), .second, .val (.int (0 : Int32)), .val (.int (Int32.ofNat i)), .unset, .unset, .unset, .unset] [(.ref ca)]))
  refine go (fun _ k => XS.iloadN X3.here hx rfl (hb hby d10_15) rfl k) ?_
  show G (T3.setTop (mkF m 16 #[.val (.ref a1), .val (.long (Int64.ofNat i)), .second, .val (.int (0 : Int32)), .val (.int (Int32.ofNat i)), .unset, .unset, .unset, .unset] [(.int (0 : Int32)), (.ref ca)]))
  obtain ⟨cl4, Ar4, qk4, qs4, qn4, qh4, qg4⟩ := id VC
  refine go (X3.aaload hx (j := (0 : Int32)) (v := (.ref ck)) (by rw [e3]; exact Ar4.1) (State.isArrayOf_alike hZ.alike Ar4.2.1) rfl Ar4.2.2 (inb_of qs4 ⟨by decide, by decide⟩) (Has.at qh4 (inb_of qs4 ⟨by decide, by decide⟩) rfl) (g := (mkF m 16 #[.val (.ref a1), .val (.long (Int64.ofNat i)), .second, .val (.int (0 : Int32)), .val (.int (Int32.ofNat i)), .unset, .unset, .unset, .unset] [(.int (0 : Int32)), (.ref ca)])) rfl rfl (hb hby d10_16)) ?_
  show G (T3.setTop (mkF m 17 #[.val (.ref a1), .val (.long (Int64.ofNat i)), .second, .val (.int (0 : Int32)), .val (.int (Int32.ofNat i)), .unset, .unset, .unset, .unset] [(.ref ck)]))
  refine go (fun _ k => XS.astore X3.here hx rfl (hb hby d10_17) rfl rfl (l' := #[.val (.ref a1), .val (.long (Int64.ofNat i)), .second, .val (.int (0 : Int32)), .val (.int (Int32.ofNat i)), .val (.ref ck), .unset, .unset, .unset]) rfl k) ?_
  show G (T3.setTop (mkF m 19 #[.val (.ref a1), .val (.long (Int64.ofNat i)), .second, .val (.int (0 : Int32)), .val (.int (Int32.ofNat i)), .val (.ref ck), .unset, .unset, .unset] []))
  refine go (fun _ k => XS.aload X3.here hx rfl (hb hby d10_19) rfl rfl k) ?_
  show G (T3.setTop (mkF m 21 #[.val (.ref a1), .val (.long (Int64.ofNat i)), .second, .val (.int (0 : Int32)), .val (.int (Int32.ofNat i)), .val (.ref ck), .unset, .unset, .unset] [(.ref ck)]))
  refine go (own_getR X3 hx hZ hown (hw _ (List.mem_of_getElem? (i := 59) rfl)) e3 F5 (g := (mkF m 21 #[.val (.ref a1), .val (.long (Int64.ofNat i)), .second, .val (.int (0 : Int32)), .val (.int (Int32.ofNat i)), .val (.ref ck), .unset, .unset, .unset] [(.ref ck)])) rfl rfl (hb hby d10_21)) ?_
  show G (T3.setTop (mkF m 24 #[.val (.ref a1), .val (.long (Int64.ofNat i)), .second, .val (.int (0 : Int32)), .val (.int (Int32.ofNat i)), .val (.ref ck), .unset, .unset, .unset] [(.int (Int32.ofNat sz))]))
  refine go (fun _ k => XS.sipush X3.here hx rfl (hb hby d10_24) k) ?_
  show G (T3.setTop (mkF m 27 #[.val (.ref a1), .val (.long (Int64.ofNat i)), .second, .val (.int (0 : Int32)), .val (.int (Int32.ofNat i)), .val (.ref ck), .unset, .unset, .unset] [(.int (128 : Int32)), (.int (Int32.ofNat sz))]))
  have hc6 : (Int32.ofNat sz) < (128 : Int32) := (own_onlt (x := sz) (y := 128) (by omega) (by omega)).mpr (by omega)
  refine go (fun _ k => XS.icmpNo X3.here hx rfl (hb hby d10_27) rfl (tlt hc6).2.1 k) ?_
  show G (T3.setTop (mkF m 30 #[.val (.ref a1), .val (.long (Int64.ofNat i)), .second, .val (.int (0 : Int32)), .val (.int (Int32.ofNat i)), .val (.ref ck), .unset, .unset, .unset] []))
  refine go (fun _ k => XS.aload X3.here hx rfl (hb hby d10_30) rfl rfl k) ?_
  show G (T3.setTop (mkF m 32 #[.val (.ref a1), .val (.long (Int64.ofNat i)), .second, .val (.int (0 : Int32)), .val (.int (Int32.ofNat i)), .val (.ref ck), .unset, .unset, .unset] [(.ref ck)]))
  refine go (fun _ k => XS.iload X3.here hx rfl (hb hby d10_32) rfl k) ?_
  show G (T3.setTop (mkF m 34 #[.val (.ref a1), .val (.long (Int64.ofNat i)), .second, .val (.int (0 : Int32)), .val (.int (Int32.ofNat i)), .val (.ref ck), .unset, .unset, .unset] [(.int (Int32.ofNat i)), (.ref ck)]))
  refine go (fun _ k => XS.aloadN X3.here hx rfl (hb hby d10_34) rfl rfl k) ?_
  show G (T3.setTop (mkF m 35 #[.val (.ref a1), .val (.long (Int64.ofNat i)), .second, .val (.int (0 : Int32)), .val (.int (Int32.ofNat i)), .val (.ref ck), .unset, .unset, .unset] [(.ref a1), (.int (Int32.ofNat i)), (.ref ck)]))
  obtain ⟨T7, X7, e7, st7⟩ := getF X3 hx hZ hown (host := "") (Or.inl (hw _ (List.mem_of_getElem? (i := 13) rfl))) Via.refl e3 F1 (g := (mkF m 35 #[.val (.ref a1), .val (.long (Int64.ofNat i)), .second, .val (.int (0 : Int32)), .val (.int (Int32.ofNat i)), .val (.ref ck), .unset, .unset, .unset] [(.ref a1), (.int (Int32.ofNat i)), (.ref ck)])) rfl rfl (hb hby d10_35)
  refine go st7 ?_
  show G (T7.setTop (mkF m 38 #[.val (.ref a1), .val (.long (Int64.ofNat i)), .second, .val (.int (0 : Int32)), .val (.int (Int32.ofNat i)), .val (.ref ck), .unset, .unset, .unset] [(.int (2 : Int32)), (.int (Int32.ofNat i)), (.ref ck)]))
  obtain ⟨cq8, qa8, qc8⟩ := E.cell
  obtain ⟨_, ⟨T8, L8, k8, n8⟩, X8, ⟨Lc8, hQ8, l8, y8, z8⟩, st8⟩ := own_privR X7 hx hZ (y := (⟨"com/example/kerros/kerros/store/SortedChunks$Chunk", "insert", "(II)V"⟩ : MethodName)) hown (hw _ (List.mem_of_getElem? (i := 72) rfl)) (hw _ (List.mem_of_getElem? (i := 73) rfl)) (hw _ (List.mem_of_getElem? (i := 74) rfl)) (hw _ (List.mem_of_getElem? (i := 28) rfl)) (hw _ (List.mem_of_getElem? (i := 75) rfl)) (by decide) (backOf (W := 0) (rm13w2 l Z a0 hw [] ck wa kw sz cb i h0 n0 Z0 E F4 F5 VL EL ne5 g_ck g_wa hsc hc5 (by omega) hs3) hZ (hw _ (List.mem_of_getElem? (i := 75) rfl)) (hw _ (List.mem_of_getElem? (i := 29) rfl)) (by decide) (by decide)) (g := (mkF m 38 #[.val (.ref a1), .val (.long (Int64.ofNat i)), .second, .val (.int (0 : Int32)), .val (.int (Int32.ofNat i)), .val (.ref ck), .unset, .unset, .unset] [(.int (2 : Int32)), (.int (Int32.ofNat i)), (.ref ck)])) rfl (by rw [hml]; rfl) (a := ck) (by rw [e7]; exact qa8) qc8 (argsL := [(.int (Int32.ofNat i)), (.int (2 : Int32))]) (rest := []) (lenOf pd_10_1 rfl) rfl (by show 2 * 0 + _ ≤ _; exact Nat.le_of_eq rfl) (hb hby d10_38) ⟨rfl, e7, (by decide : 0 + 1 ≤ _), (by decide : 0 + 12 ≤ _)⟩
  dsimp only [Pt.U, Pt.locs, Pt.cells, Pt.slots] at X8 l8 y8 z8 st8 hQ8
  subst l8 y8 z8
  obtain ⟨wx8, kx8, dx8, rfl, N8q, Kc8, c8_0, c8_1, c8_2, c8_3, c8_4, c8_5, c8_6⟩ := hQ8
  have ne_a1_wx8 : a1 ≠ wx8 := c8_0.elim (fun q => by rw [q]; exact ne2) (fun q => Nat.ne_of_lt (Nat.lt_of_lt_of_le F1.lt q))
  have ne_ca_wx8 : ca ≠ wx8 := c8_0.elim (fun q => by rw [q]; exact ne4) (fun q => Nat.ne_of_lt (Nat.lt_of_lt_of_le VC.lt q))
  have ne_ck_wx8 : ck ≠ wx8 := c8_0.elim (fun q => by rw [q]; exact ne5) (fun q => Nat.ne_of_lt (Nat.lt_of_lt_of_le E.lt q))
  have g_wx8 : n0 ≤ wx8 := c8_0.elim (fun q => by rw [q]; exact g_wa) (fun q => Nat.le_trans Z0 q)
  have f9 := F1.keep Kc8 (ninS ne1 (ninS ne2 nin0))
  have f10 := F2.keep Kc8 (ninS ne1 (ninS ne2 nin0))
  have f11 := F3.keep Kc8 (ninS ne1 (ninS ne2 nin0))
  have f12 := VC.keep Kc8 (ninS ne3 (ninS ne4 nin0))
  have f13 := E.keep Kc8
  have f14 := EL.keep Kc8
  have K8 : Keep h0 T8.heap [ck, wa] := K0.trans Kc8 (allS (P := fun x => x ∈ [ck, wa] ∨ h0.size ≤ x) (Or.inl (List.mem_of_getElem? (i := 0) rfl)) (allS (P := fun x => x ∈ [ck, wa] ∨ h0.size ≤ x) (Or.inl (List.mem_of_getElem? (i := 1) rfl)) all0))
  have Zs8 : n0 ≤ T8.heap.size := Nat.le_trans Z0 Kc8.1
  have N8 := Fr.app N2 N8q
  refine go (fun _ k => st8.trans k) ?_
  show G (T8.setTop (mkF m 41 #[.val (.ref a1), .val (.long (Int64.ofNat i)), .second, .val (.int (0 : Int32)), .val (.int (Int32.ofNat i)), .val (.ref ck), .unset, .unset, .unset] []))
  refine go (fun _ k => XS.lloadN X8.here hx rfl (hb hby d10_41) rfl k) ?_
  show G (T8.setTop (mkF m 42 #[.val (.ref a1), .val (.long (Int64.ofNat i)), .second, .val (.int (0 : Int32)), .val (.int (Int32.ofNat i)), .val (.ref ck), .unset, .unset, .unset] [(.long (Int64.ofNat i))]))
  refine go (fun _ k => XS.lstore X8.here hx rfl (hb hby d10_42) rfl (l' := #[.val (.ref a1), .val (.long (Int64.ofNat i)), .second, .val (.int (0 : Int32)), .val (.int (Int32.ofNat i)), .val (.ref ck), .val (.long (Int64.ofNat i)), .second, .unset]) rfl k) ?_
  show G (T8.setTop (mkF m 44 #[.val (.ref a1), .val (.long (Int64.ofNat i)), .second, .val (.int (0 : Int32)), .val (.int (Int32.ofNat i)), .val (.ref ck), .val (.long (Int64.ofNat i)), .second, .unset] []))
  refine go (fun _ k => XS.goto X8.here hx rfl (pc0 := 44) (pc' := 234) rfl (hb hby d10_44) (by decide) (by decide) k) ?_
  show G (T8.setTop (mkF m 234 #[.val (.ref a1), .val (.long (Int64.ofNat i)), .second, .val (.int (0 : Int32)), .val (.int (Int32.ofNat i)), .val (.ref ck), .val (.long (Int64.ofNat i)), .second, .unset] []))
  refine go (fun _ k => XS.lload X8.here hx rfl (hb hby d10_234) rfl k) ?_
  show G (T8.setTop (mkF m 236 #[.val (.ref a1), .val (.long (Int64.ofNat i)), .second, .val (.int (0 : Int32)), .val (.int (Int32.ofNat i)), .val (.ref ck), .val (.long (Int64.ofNat i)), .second, .unset] [(.long (Int64.ofNat i))]))
  rw [hG]
  refine own_fin X8 Bd.notSynchronized (v := some (.long (Int64.ofNat i))) (fun h => by rw [Bd.returns] at h; cases h) (fun fs hr => retOut X8 hx Bd.returns rfl (by simp [FieldType.isReference, Value.isRef]) (hb hby d10_236) hr) ?_ (by decide) (by decide)
  show Q10w2 Z a1 i ca ck wa kc kw sz cb h0 n0 (some (.long (Int64.ofNat i))) T8.heap _
  exact ⟨wx8, kx8, dx8, rfl, N8, K8, c8_0, c8_1, c8_2, c8_3, c8_4, c8_5, c8_6⟩

theorem ef_rm16w2 (m : MethodId) (a1 : Addr) (q4 : Int64) (i : Nat) : entryFrame m #[(.ref a1), (.long (Int64.ofNat i)), (.int (0 : Int32)), (.long q4)] 6 = mkF m 0 #[.val (.ref a1), .val (.long (Int64.ofNat i)), .second, .val (.int (0 : Int32)), .val (.long q4), .second] [] := by first | (simp [entryFrame, mkF, argsToLocals, Value.category]; done) | rfl
def Q16w2 (Z : State) (a1 : Addr) (q4 : Int64) (i : Nat) (ca ck wa : Addr) (kc kw : ClassId) (sz cb : Nat) (h0 : Heap) (n0 : Nat) (v : Option Value) (h : Heap) (L : List Loc) : Prop := v = none ∧ Fr n0 L ∧ Keep h0 h [wa] ∧ LA Z h wa kw (cb * 2)
set_option maxRecDepth 65536 in
set_option maxHeartbeats 40000000 in
theorem rm16w2 (l : Launch) (Z : State) (a0 : Array Value) (hw : ∀ d ∈ tables_1, d.before a0 Z = true) (ws : List Jvm.Cond) (a1 : Addr) (q4 : Int64) (i : Nat) (ca ck wa : Addr) (kc kw : ClassId) (sz cb : Nat) (h0 : Heap) (n0 : Nat) (Z0 : n0 ≤ h0.size) (F1 : Fld Z h0 a1 "com/example/kerros/kerros/store/SortedChunks" "width" "I" (.int (2 : Int32))) (F2 : Fld Z h0 a1 "com/example/kerros/kerros/store/SortedChunks" "used" "I" (.int (1 : Int32))) (F3 : Fld Z h0 a1 "com/example/kerros/kerros/store/SortedChunks" "chunks" "[Lcom/example/kerros/kerros/store/SortedChunks$Chunk;" (.ref ca)) (VC : Arv Z h0 ca kc (.object "com/example/kerros/kerros/store/SortedChunks$Chunk") (1 : Int32) [(.ref ck)] .null) (E : Exa Z h0 ck "com/example/kerros/kerros/store/SortedChunks$Chunk") (F4 : Fld Z h0 ck "com/example/kerros/kerros/store/SortedChunks$Chunk" "words" "[J" (.ref wa)) (F5 : Fld Z h0 ck "com/example/kerros/kerros/store/SortedChunks$Chunk" "size" "I" (.int (Int32.ofNat sz))) (VL : LA Z h0 wa kw (cb * 2)) (EL : Exa Z h0 wa "[J") (ne1 : a1 ≠ ck) (ne2 : a1 ≠ wa) (ne3 : ca ≠ ck) (ne4 : ca ≠ wa) (ne5 : ck ≠ wa) (g_ck : n0 ≤ ck) (g_wa : n0 ≤ wa) (hsc : sz ≤ cb) (hc5 : cb ≤ 5) (hi : i < sz) :
    MetFree l (⟨"com/example/kerros/kerros/store/SortedChunks", "setWord", "(JIJ)V"⟩ : MethodName) (head1 (Jvm.Cond.code (⟨"com/example/kerros/kerros/store/SortedChunks", "setWord", "(JIJ)V"⟩ : MethodName) prog_86_method_9_code 6 none :: ws) ({ frames := 1, cells := 0, slots := 0, locals := 30 } : Room)) (fun a U => a = #[(.ref a1), (.long (Int64.ofNat i)), (.int (0 : Int32)), (.long q4)] ∧ Z.Warmed39 U.vm ∧ U.heap = h0) (fun _ _ _ _ _ => True) (fun _ U o U' => ∃ v L, o = .returned v ∧ Q16w2 Z a1 q4 i ca ck wa kc kw sz cb h0 n0 v U'.heap L ∧ FrameEnd U o U' L ({ frames := 1, cells := 0, slots := 0, locals := 30 } : Room).cells ({ frames := 1, cells := 0, slots := 0, locals := 30 } : Room).slots) := by
  refine MetFree.of_bodySF (plainFor_of_name pn_16) hisR ?_
  intro p e s m args below meth c s₁ Bd hml0 hP hK
  obtain ⟨rfl, hZ, hh⟩ := hP
  have hx := Bd.exec
  have hby := Bd.bytes
  have hml : c.maxLocals = 6 := hml0
  have hown : s.vm.findClass "com/example/kerros/kerros/store/SortedChunks" = some m.cls := findClass_of_methodNamed Bd.named
  have hnm := (name_of_methodNamed Bd.named Bd.method).1
  have X0 : Stand p l e ({ frames := 1, cells := 0, slots := 0, locals := 30 } : Room) s m #[(.ref a1), (.long (Int64.ofNat i)), (.int (0 : Int32)), (.long q4)] below meth c s₁ [] 0 0 := Stand.of_body Bd
  have e0 : s₁.heap = h0 := by rw [← hh, Bd.state]; rfl
  have N0 := Fr.nil n0
  obtain ⟨G, hG⟩ : ∃ G : State → Prop, G = OwnG p e below s ({ frames := 1, cells := 0, slots := 0, locals := 30 } : Room).cells ({ frames := 1, cells := 0, slots := 0, locals := 30 } : Room).slots (Q16w2 Z a1 q4 i ca ck wa kc kw sz cb h0 n0) := ⟨_, rfl⟩
  have go : ∀ {A B : State}, (∀ t, Steps p.tables e below A t → Steps p.tables e below B t) → G A → G B := fun h k => by rw [hG] at k ⊢; exact OwnG.go h k
  suffices k0 : G (s₁.setTop (mkF m 0 #[.val (.ref a1), .val (.long (Int64.ofNat i)), .second, .val (.int (0 : Int32)), .val (.long q4), .second] [])) by
    rw [hG] at k0; exact OwnG.go (fun t k => castTop (ef_rm16w2 m a1 q4 i) k) k0
  have K0 : Keep h0 h0 [wa] := Keep.refl _ _
  refine go (fun _ k => XS.aloadN X0.here hx rfl (hb hby d16_0) rfl rfl k) ?_
  show G (s₁.setTop (mkF m 1 #[.val (.ref a1), .val (.long (Int64.ofNat i)), .second, .val (.int (0 : Int32)), .val (.long q4), .second] [(.ref a1)]))
  obtain ⟨T1, X1, e1, st1⟩ := getF X0 hx hZ hown (host := "") (Or.inl (hw _ (List.mem_of_getElem? (i := 23) rfl))) Via.refl e0 F3 (g := (mkF m 1 #[.val (.ref a1), .val (.long (Int64.ofNat i)), .second, .val (.int (0 : Int32)), .val (.long q4), .second] [(.ref a1)])) rfl rfl (hb hby d16_1)
  refine go st1 ?_
  show G (T1.setTop (mkF m 4 #[.val (.ref a1), .val (.long (Int64.ofNat i)), .second, .val (.int (0 : Int32)), .val (.long q4), .second] [(.ref ca)]))
  refine go (fun _ k => XS.lloadN X1.here hx rfl (hb hby d16_4) rfl k) ?_
  show G (T1.setTop (mkF m 5 #[.val (.ref a1), .val (.long (Int64.ofNat i)), .second, .val (.int (0 : Int32)), .val (.long q4), .second] [(.long (Int64.ofNat i)), (.ref ca)]))
  obtain ⟨_, _, ⟨T2, L2, k2, n2⟩, -, X2, ⟨Lc2, hQ2, l2, y2, z2⟩, st2⟩ := Jvm.LawKit.callS X1 hx (y := (⟨"com/example/kerros/kerros/store/SortedChunks", "chunkOf", "(J)I"⟩ : MethodName)) hown (mvT hZ (hw _ (List.mem_of_getElem? (i := 65) rfl))) (mvT hZ (hw _ (List.mem_of_getElem? (i := 66) rfl))) (mvT hZ (hw _ (List.mem_of_getElem? (i := 6) rfl))) (mvT hZ (hw _ (List.mem_of_getElem? (i := 67) rfl))) (by decide) (backOf (W := 1) (rm11 l Z a0 hw [] i h0 n0 Z0 (by omega)) hZ (hw _ (List.mem_of_getElem? (i := 67) rfl)) (hw _ (List.mem_of_getElem? (i := 6) rfl)) (by decide) (by decide)) (g := (mkF m 5 #[.val (.ref a1), .val (.long (Int64.ofNat i)), .second, .val (.int (0 : Int32)), .val (.long q4), .second] [(.long (Int64.ofNat i)), (.ref ca)])) rfl (by rw [hml]; rfl) (argsL := [(.long (Int64.ofNat i))]) (rest := [(.ref ca)]) (lenOf pd_16_0 rfl) rfl (by show 2 * 0 + _ ≤ _; exact Nat.le_of_eq rfl) (hb hby d16_5) (fun _ _ => ⟨rfl, e1, (by decide : 0 + 0 ≤ _), (by decide : 0 + 0 ≤ _)⟩)
  dsimp only [Pt.U, Pt.locs, Pt.cells, Pt.slots] at X2 l2 y2 z2 st2 hQ2
  subst l2 y2 z2
  obtain ⟨rfl, N2q, e2⟩ := hQ2
  have N2 := Fr.app N0 N2q
  refine go st2 ?_
  show G (T2.setTop (mkF m 8 #[.val (.ref a1), .val (.long (Int64.ofNat i)), .second, .val (.int (0 : Int32)), .val (.long q4), .second] [(.int (0 : Int32)), (.ref ca)]))
  obtain ⟨cl3, Ar3, qk3, qs3, qn3, qh3, qg3⟩ := id VC
  refine go (X2.aaload hx (j := (0 : Int32)) (v := (.ref ck)) (by rw [e2]; exact Ar3.1) (State.isArrayOf_alike hZ.alike Ar3.2.1) rfl Ar3.2.2 (inb_of qs3 ⟨by decide, by decide⟩) (Has.at qh3 (inb_of qs3 ⟨by decide, by decide⟩) rfl) (g := (mkF m 8 #[.val (.ref a1), .val (.long (Int64.ofNat i)), .second, .val (.int (0 : Int32)), .val (.long q4), .second] [(.int (0 : Int32)), (.ref ca)])) rfl rfl (hb hby d16_8)) ?_
  show G (T2.setTop (mkF m 9 #[.val (.ref a1), .val (.long (Int64.ofNat i)), .second, .val (.int (0 : Int32)), .val (.long q4), .second] [(.ref ck)]))
  refine go (own_getR X2 hx hZ hown (hw _ (List.mem_of_getElem? (i := 91) rfl)) e2 F4 (g := (mkF m 9 #[.val (.ref a1), .val (.long (Int64.ofNat i)), .second, .val (.int (0 : Int32)), .val (.long q4), .second] [(.ref ck)])) rfl rfl (hb hby d16_9)) ?_
  show G (T2.setTop (mkF m 12 #[.val (.ref a1), .val (.long (Int64.ofNat i)), .second, .val (.int (0 : Int32)), .val (.long q4), .second] [(.ref wa)]))
  refine go (fun _ k => XS.lloadN X2.here hx rfl (hb hby d16_12) rfl k) ?_
  show G (T2.setTop (mkF m 13 #[.val (.ref a1), .val (.long (Int64.ofNat i)), .second, .val (.int (0 : Int32)), .val (.long q4), .second] [(.long (Int64.ofNat i)), (.ref wa)]))
  obtain ⟨_, _, ⟨T5, L5, k5, n5⟩, -, X5, ⟨Lc5, hQ5, l5, y5, z5⟩, st5⟩ := Jvm.LawKit.callS X2 hx (y := (⟨"com/example/kerros/kerros/store/SortedChunks", "indexOf", "(J)I"⟩ : MethodName)) hown (mvT hZ (hw _ (List.mem_of_getElem? (i := 68) rfl))) (mvT hZ (hw _ (List.mem_of_getElem? (i := 69) rfl))) (mvT hZ (hw _ (List.mem_of_getElem? (i := 6) rfl))) (mvT hZ (hw _ (List.mem_of_getElem? (i := 70) rfl))) (by decide) (backOf (W := 1) (rm12 l Z a0 hw [] i h0 n0 Z0 (by omega)) hZ (hw _ (List.mem_of_getElem? (i := 70) rfl)) (hw _ (List.mem_of_getElem? (i := 6) rfl)) (by decide) (by decide)) (g := (mkF m 13 #[.val (.ref a1), .val (.long (Int64.ofNat i)), .second, .val (.int (0 : Int32)), .val (.long q4), .second] [(.long (Int64.ofNat i)), (.ref wa)])) rfl (by rw [hml]; rfl) (argsL := [(.long (Int64.ofNat i))]) (rest := [(.ref wa)]) (lenOf pd_16_0 rfl) rfl (by show 2 * 0 + _ ≤ _; exact Nat.le_of_eq rfl) (hb hby d16_13) (fun _ _ => ⟨rfl, e2, (by decide : 0 + 0 ≤ _), (by decide : 0 + 0 ≤ _)⟩)
  dsimp only [Pt.U, Pt.locs, Pt.cells, Pt.slots] at X5 l5 y5 z5 st5 hQ5
  subst l5 y5 z5
  obtain ⟨rfl, N5q, e5⟩ := hQ5
  have N5 := Fr.app N2 N5q
  refine go st5 ?_
  show G (T5.setTop (mkF m 16 #[.val (.ref a1), .val (.long (Int64.ofNat i)), .second, .val (.int (0 : Int32)), .val (.long q4), .second] [(.int (Int32.ofNat i)), (.ref wa)]))
  refine go (fun _ k => XS.aloadN X5.here hx rfl (hb hby d16_16) rfl rfl k) ?_
  show G (T5.setTop (mkF m 17 #[.val (.ref a1), .val (.long (Int64.ofNat i)), .second, .val (.int (0 : Int32)), .val (.long q4), .second] [(.ref a1), (.int (Int32.ofNat i)), (.ref wa)]))
  obtain ⟨T6, X6, e6, st6⟩ := getF X5 hx hZ hown (host := "") (Or.inl (hw _ (List.mem_of_getElem? (i := 13) rfl))) Via.refl e5 F1 (g := (mkF m 17 #[.val (.ref a1), .val (.long (Int64.ofNat i)), .second, .val (.int (0 : Int32)), .val (.long q4), .second] [(.ref a1), (.int (Int32.ofNat i)), (.ref wa)])) rfl rfl (hb hby d16_17)
  refine go st6 ?_
  show G (T6.setTop (mkF m 20 #[.val (.ref a1), .val (.long (Int64.ofNat i)), .second, .val (.int (0 : Int32)), .val (.long q4), .second] [(.int (2 : Int32)), (.int (Int32.ofNat i)), (.ref wa)]))
  refine go (fun _ k => XS.imul X6.here hx rfl (hb hby d16_20) rfl k) ?_
  show G (T6.setTop (mkF m 21 #[.val (.ref a1), .val (.long (Int64.ofNat i)), .second, .val (.int (0 : Int32)), .val (.long q4), .second] [(.int ((Int32.ofNat i) * (2 : Int32))), (.ref wa)]))
  rw [show ((Int32.ofNat i) * (2 : Int32)) = (Int32.ofNat (i * 2)) from own_onmul i 2]
  show G (T6.setTop (mkF m 21 #[.val (.ref a1), .val (.long (Int64.ofNat i)), .second, .val (.int (0 : Int32)), .val (.long q4), .second] [(.int (Int32.ofNat (i * 2))), (.ref wa)]))
  refine go (fun _ k => XS.iloadN X6.here hx rfl (hb hby d16_21) rfl k) ?_
  show G (T6.setTop (mkF m 22 #[.val (.ref a1), .val (.long (Int64.ofNat i)), .second, .val (.int (0 : Int32)), .val (.long q4), .second] [(.int (0 : Int32)), (.int (Int32.ofNat (i * 2))), (.ref wa)]))
  refine go (fun _ k => XS.iadd X6.here hx rfl (hb hby d16_22) rfl k) ?_
  show G (T6.setTop (mkF m 23 #[.val (.ref a1), .val (.long (Int64.ofNat i)), .second, .val (.int (0 : Int32)), .val (.long q4), .second] [(.int ((Int32.ofNat (i * 2)) + (0 : Int32))), (.ref wa)]))
  rw [show ((Int32.ofNat (i * 2)) + (0 : Int32)) = (Int32.ofNat ((i * 2) + 0)) from own_onadd (i * 2) 0]
  show G (T6.setTop (mkF m 23 #[.val (.ref a1), .val (.long (Int64.ofNat i)), .second, .val (.int (0 : Int32)), .val (.long q4), .second] [(.int (Int32.ofNat ((i * 2) + 0))), (.ref wa)]))
  refine go (fun _ k => XS.lload X6.here hx rfl (hb hby d16_23) rfl k) ?_
  show G (T6.setTop (mkF m 25 #[.val (.ref a1), .val (.long (Int64.ofNat i)), .second, .val (.int (0 : Int32)), .val (.long q4), .second] [(.long q4), (.int (Int32.ofNat ((i * 2) + 0))), (.ref wa)]))
  obtain ⟨vb7, lb7, VB7⟩ := id VL
  obtain ⟨cl8, Ar8, qk8, qs8, qn8, qh8, qg8⟩ := id VB7
  obtain ⟨T8, h8, X8, e8, W8, st8⟩ := stJ X6 hx hZ e6 Ar8 (j := (Int32.ofNat ((i * 2) + 0))) (inb_of qs8 ⟨own_onnn ((i * 2) + 0) (by omega), (own_onlt (by omega) (by omega)).mpr (by omega)⟩) (g := (mkF m 25 #[.val (.ref a1), .val (.long (Int64.ofNat i)), .second, .val (.int (0 : Int32)), .val (.long q4), .second] [(.long q4), (.int (Int32.ofNat ((i * 2) + 0))), (.ref wa)])) rfl rfl (hb hby d16_25)
  have V8 : Arv Z h8 wa kw .long (Int32.ofNat (cb * 2)) (vb7.set (((i * 2) + 0)) (.long q4)) (.long (0 : Int64)) := Arv.set Ar8 qk8 qs8 qn8 qh8 qg8 rfl W8 (((i * 2) + 0)) (own_onnat _ (by omega)) (by rw [lb7]; omega)
  have f9 := F1.other W8 (Or.inl ne2)
  have f10 := F2.other W8 (Or.inl ne2)
  have f11 := F3.other W8 (Or.inl ne2)
  have f12 := VC.other W8 ne4
  have f13 := E.wr W8
  have f14 := F4.other W8 (Or.inl ne5)
  have f15 := F5.other W8 (Or.inl ne5)
  have f16 := EL.wr W8
  have K8 : Keep h0 h8 [wa] := K0.wr W8 (Or.inl (List.mem_of_getElem? (i := 0) rfl))
  have Zs8 : n0 ≤ h8.size := Nat.le_trans Z0 (Keep.of_wr W8).1
  have N8 := Fr.snoc X8 N5 g_wa
  have V8b : LA Z h8 wa kw (cb * 2) := ⟨_, by rw [List.length_set]; exact lb7, V8⟩
  refine go st8 ?_
  show G (T8.setTop (mkF m 26 #[.val (.ref a1), .val (.long (Int64.ofNat i)), .second, .val (.int (0 : Int32)), .val (.long q4), .second] []))
  rw [hG]
  refine own_fin X8 Bd.notSynchronized (v := none) (fun _ => rfl) (fun fs hr => X8.returnOut hx Bd.returns (hb hby d16_26) hr) ?_ (by decide) (by decide)
  show Q16w2 Z a1 q4 i ca ck wa kc kw sz cb h0 n0 (none) T8.heap _
  rw [e8]
  exact ⟨rfl, N8, K8, V8b⟩

theorem d9_0 : decode prog_86_method_12_code 0 = .ok (.aload_n 0, 1) := by decide +kernel
theorem d9_1 : decode prog_86_method_12_code 1 = .ok (.getfield 27, 3) := by decide +kernel
theorem d9_4 : decode prog_86_method_12_code 4 = .ok (.iconst 0, 1) := by decide +kernel
theorem d9_5 : decode prog_86_method_12_code 5 = .ok (.aaload, 1) := by decide +kernel
theorem d9_6 : decode prog_86_method_12_code 6 = .ok (.getfield 61, 3) := by decide +kernel
theorem d9_9 : decode prog_86_method_12_code 9 = .ok (.ifCond .ne 7, 3) := by decide +kernel
theorem d9_12 : decode prog_86_method_12_code 12 = .ok (.iconst 1, 1) := by decide +kernel
theorem d9_13 : decode prog_86_method_12_code 13 = .ok (.goto 4, 3) := by decide +kernel
theorem d9_16 : decode prog_86_method_12_code 16 = .ok (.iconst 0, 1) := by decide +kernel
theorem d9_17 : decode prog_86_method_12_code 17 = .ok (.ireturn, 1) := by decide +kernel
theorem pn_9 : plainName "com/example/kerros/kerros/store/SortedChunks" = true := by first | (simp [plainName, overriddenIn]; done) | decide +kernel
theorem ef_rm9 (m : MethodId) (a1 : Addr) : entryFrame m #[(.ref a1)] 1 = mkF m 0 #[.val (.ref a1)] [] := by first | (simp [entryFrame, mkF, argsToLocals, Value.category]; done) | rfl
def Q9 (Z : State) (a1 : Addr) (ca ck : Addr) (kc : ClassId) (x : Int32) (h0 : Heap) (n0 : Nat) (v : Option Value) (h : Heap) (L : List Loc) : Prop := v = some (.int (emp x)) ∧ Fr n0 L ∧ h = h0
set_option maxRecDepth 65536 in
set_option maxHeartbeats 40000000 in
theorem rm9 (l : Launch) (Z : State) (a0 : Array Value) (hw : ∀ d ∈ tables_1, d.before a0 Z = true) (ws : List Jvm.Cond) (a1 : Addr) (ca ck : Addr) (kc : ClassId) (x : Int32) (h0 : Heap) (n0 : Nat) (Z0 : n0 ≤ h0.size) (F3 : Fld Z h0 a1 "com/example/kerros/kerros/store/SortedChunks" "chunks" "[Lcom/example/kerros/kerros/store/SortedChunks$Chunk;" (.ref ca)) (VC : Arv Z h0 ca kc (.object "com/example/kerros/kerros/store/SortedChunks$Chunk") (1 : Int32) [(.ref ck)] .null) (F5 : Fld Z h0 ck "com/example/kerros/kerros/store/SortedChunks$Chunk" "size" "I" (.int x)) :
    MetFree l (⟨"com/example/kerros/kerros/store/SortedChunks", "isEmpty", "()Z"⟩ : MethodName) (head1 (Jvm.Cond.code (⟨"com/example/kerros/kerros/store/SortedChunks", "isEmpty", "()Z"⟩ : MethodName) prog_86_method_12_code 1 (some .boolean) :: ws) ({ frames := 0, cells := 0, slots := 0, locals := 0 } : Room)) (fun a U => a = #[(.ref a1)] ∧ Z.Warmed39 U.vm ∧ U.heap = h0) (fun _ _ _ _ _ => True) (fun _ U o U' => ∃ v L, o = .returned v ∧ Q9 Z a1 ca ck kc x h0 n0 v U'.heap L ∧ FrameEnd U o U' L ({ frames := 0, cells := 0, slots := 0, locals := 0 } : Room).cells ({ frames := 0, cells := 0, slots := 0, locals := 0 } : Room).slots) := by
  refine MetFree.of_bodySF (plainFor_of_name pn_9) hisR ?_
  intro p e s m args below meth c s₁ Bd hml0 hP hK
  obtain ⟨rfl, hZ, hh⟩ := hP
  have hx := Bd.exec
  have hby := Bd.bytes
  have hml : c.maxLocals = 1 := hml0
  have hown : s.vm.findClass "com/example/kerros/kerros/store/SortedChunks" = some m.cls := findClass_of_methodNamed Bd.named
  have hnm := (name_of_methodNamed Bd.named Bd.method).1
  have X0 : Stand p l e ({ frames := 0, cells := 0, slots := 0, locals := 0 } : Room) s m #[(.ref a1)] below meth c s₁ [] 0 0 := Stand.of_body Bd
  have e0 : s₁.heap = h0 := by rw [← hh, Bd.state]; rfl
  have N0 := Fr.nil n0
  obtain ⟨G, hG⟩ : ∃ G : State → Prop, G = OwnG p e below s ({ frames := 0, cells := 0, slots := 0, locals := 0 } : Room).cells ({ frames := 0, cells := 0, slots := 0, locals := 0 } : Room).slots (Q9 Z a1 ca ck kc x h0 n0) := ⟨_, rfl⟩
  have go : ∀ {A B : State}, (∀ t, Steps p.tables e below A t → Steps p.tables e below B t) → G A → G B := fun h k => by rw [hG] at k ⊢; exact OwnG.go h k
  suffices k0 : G (s₁.setTop (mkF m 0 #[.val (.ref a1)] [])) by
    rw [hG] at k0; exact OwnG.go (fun t k => castTop (ef_rm9 m a1) k) k0
  refine go (fun _ k => XS.aloadN X0.here hx rfl (hb hby d9_0) rfl rfl k) ?_
  show G (s₁.setTop (mkF m 1 #[.val (.ref a1)] [(.ref a1)]))
  obtain ⟨T1, X1, e1, st1⟩ := getF X0 hx hZ hown (host := "") (Or.inl (hw _ (List.mem_of_getElem? (i := 23) rfl))) Via.refl e0 F3 (g := (mkF m 1 #[.val (.ref a1)] [(.ref a1)])) rfl rfl (hb hby d9_1)
  refine go st1 ?_
  show G (T1.setTop (mkF m 4 #[.val (.ref a1)] [(.ref ca)]))
  refine go (fun _ k => XS.iconst X1.here hx rfl (hb hby d9_4) k) ?_
  show G (T1.setTop (mkF m 5 #[.val (.ref a1)] [(.int (0 : Int32)), (.ref ca)]))
  obtain ⟨cl2, Ar2, qk2, qs2, qn2, qh2, qg2⟩ := id VC
  refine go (X1.aaload hx (j := (0 : Int32)) (v := (.ref ck)) (by rw [e1]; exact Ar2.1) (State.isArrayOf_alike hZ.alike Ar2.2.1) rfl Ar2.2.2 (inb_of qs2 ⟨by decide, by decide⟩) (Has.at qh2 (inb_of qs2 ⟨by decide, by decide⟩) rfl) (g := (mkF m 5 #[.val (.ref a1)] [(.int (0 : Int32)), (.ref ca)])) rfl rfl (hb hby d9_5)) ?_
  show G (T1.setTop (mkF m 6 #[.val (.ref a1)] [(.ref ck)]))
  refine go (own_getR X1 hx hZ hown (hw _ (List.mem_of_getElem? (i := 59) rfl)) e1 F5 (g := (mkF m 6 #[.val (.ref a1)] [(.ref ck)])) rfl rfl (hb hby d9_6)) ?_
  show G (T1.setTop (mkF m 9 #[.val (.ref a1)] [(.int x)]))
  by_cases hc9_4 : x = (0 : Int32)
  · refine go (fun _ k => XS.ifNo X1.here hx rfl (hb hby d9_9) rfl ((if0 _ _).trans (teq hc9_4).2) k) ?_
    show G (T1.setTop (mkF m 12 #[.val (.ref a1)] []))
    refine go (fun _ k => XS.iconst X1.here hx rfl (hb hby d9_12) k) ?_
    show G (T1.setTop (mkF m 13 #[.val (.ref a1)] [(.int (1 : Int32))]))
    refine go (fun _ k => XS.goto X1.here hx rfl (pc0 := 13) (pc' := 17) rfl (hb hby d9_13) (by decide) (by decide) k) ?_
    show G (T1.setTop (mkF m 17 #[.val (.ref a1)] [(.int (1 : Int32))]))
    rw [hG]
    refine own_fin X1 Bd.notSynchronized (v := some (.int (1 : Int32))) (fun h => by rw [Bd.returns] at h; cases h) (fun fs hr => retOut X1 hx Bd.returns rfl (by simp [FieldType.isReference, Value.isRef]) (hb hby d9_17) hr) ?_ (by decide) (by decide)
    show Q9 Z a1 ca ck kc x h0 n0 (some (.int (1 : Int32))) T1.heap _
    rw [e1]
    exact ⟨by rw [emp, if_pos hc9_4], N0, rfl⟩
  · refine go (fun _ k => XS.ifYes X1.here hx rfl (pc0 := 9) (pc' := 16) rfl (hb hby d9_9) rfl ((if0 _ _).trans (feq hc9_4).2) (by decide) (by decide) k) ?_
    show G (T1.setTop (mkF m 16 #[.val (.ref a1)] []))
    refine go (fun _ k => XS.iconst X1.here hx rfl (hb hby d9_16) k) ?_
    show G (T1.setTop (mkF m 17 #[.val (.ref a1)] [(.int (0 : Int32))]))
    rw [hG]
    refine own_fin X1 Bd.notSynchronized (v := some (.int (0 : Int32))) (fun h => by rw [Bd.returns] at h; cases h) (fun fs hr => retOut X1 hx Bd.returns rfl (by simp [FieldType.isReference, Value.isRef]) (hb hby d9_17) hr) ?_ (by decide) (by decide)
    show Q9 Z a1 ca ck kc x h0 n0 (some (.int (0 : Int32))) T1.heap _
    rw [e1]
    exact ⟨by rw [emp, if_neg hc9_4], N0, rfl⟩

theorem pn_0 : plainName "com/example/kerros/kerros/store/SortedChunksIsEmptyPinLaw" = true := by first | (simp [plainName, overriddenIn]; done) | decide +kernel
theorem pd_0_0 : parseMethodDescriptor "(I[JI)V" = some ⟨[.int, (.array .long), .int], none⟩ := by decide +kernel
theorem pd_0_1 : parseMethodDescriptor "()Z" = some ⟨[], some .boolean⟩ := by decide +kernel
theorem pd_0_2 : parseMethodDescriptor "(J)J" = some ⟨[.long], some .long⟩ := by decide +kernel
theorem pd_0_3 : parseMethodDescriptor "(JIJ)V" = some ⟨[.long, .int, .long], none⟩ := by decide +kernel
theorem pd_0_4 : parseMethodDescriptor "(J)V" = some ⟨[.long], none⟩ := by decide +kernel
theorem ef_rm0 (m : MethodId) (p1 : Int32) (p2 : Int32) (p3 : Int32) (p4 : Int32) : entryFrame m #[(.int p1), (.int p2), (.int p3), (.int p4)] maxLocals = mkF m 0 #[.val (.int p1), .val (.int p2), .val (.int p3), .val (.int p4), .unset, .unset, .unset, .unset, .unset, .unset, .unset, .unset, .unset, .unset, .unset] [] := by first | (simp [entryFrame, mkF, argsToLocals, Value.category, maxLocals]; done) | rfl
def Q0 (Z : State) (p1 : Int32) (p2 : Int32) (p3 : Int32) (p4 : Int32) (h0 : Heap) (n0 : Nat) (v : Option Value) (h : Heap) (L : List Loc) : Prop := v = some (.int (1 : Int32)) ∧ Fr n0 L
set_option maxRecDepth 65536 in
set_option maxHeartbeats 40000000 in
theorem rm0 (l : Launch) (Z : State) (a0 : Array Value) (hw : ∀ d ∈ tables_1, d.before a0 Z = true) (ws : List Jvm.Cond) (p1 : Int32) (p2 : Int32) (p3 : Int32) (p4 : Int32) (h0 : Heap) (n0 : Nat) (Z0 : n0 ≤ h0.size) :
    MetFree l x (head1 (Jvm.Cond.code x code maxLocals ret :: ws) room_1) (fun a U => a = #[(.int p1), (.int p2), (.int p3), (.int p4)] ∧ Z.Warmed39 U.vm ∧ U.heap = h0) (fun _ _ _ _ _ => True) (fun _ U o U' => ∃ v L, o = .returned v ∧ Q0 Z p1 p2 p3 p4 h0 n0 v U'.heap L ∧ FrameEnd U o U' L room_1.cells room_1.slots) := by
  refine MetFree.of_bodySF (plainFor_of_name pn_0) hisR ?_
  intro p e s m args below meth c s₁ Bd hml0 hP hK
  obtain ⟨rfl, hZ, hh⟩ := hP
  have hx := Bd.exec
  have hby := Bd.bytes
  have hml : c.maxLocals = 15 := hml0
  have hown : s.vm.findClass "com/example/kerros/kerros/store/SortedChunksIsEmptyPinLaw" = some m.cls := findClass_of_methodNamed Bd.named
  have hnm := (name_of_methodNamed Bd.named Bd.method).1
  have X0 : Stand p l e room_1 s m #[(.int p1), (.int p2), (.int p3), (.int p4)] below meth c s₁ [] 0 0 := Stand.of_body Bd
  have e0 : s₁.heap = h0 := by rw [← hh, Bd.state]; rfl
  have N0 := Fr.nil n0
  obtain ⟨G, hG⟩ : ∃ G : State → Prop, G = OwnG p e below s room_1.cells room_1.slots (Q0 Z p1 p2 p3 p4 h0 n0) := ⟨_, rfl⟩
  have go : ∀ {A B : State}, (∀ t, Steps p.tables e below A t → Steps p.tables e below B t) → G A → G B := fun h k => by rw [hG] at k ⊢; exact OwnG.go h k
  suffices k0 : G (s₁.setTop (mkF m 0 #[.val (.int p1), .val (.int p2), .val (.int p3), .val (.int p4), .unset, .unset, .unset, .unset, .unset, .unset, .unset, .unset, .unset, .unset, .unset] [])) by
    rw [hG] at k0; exact OwnG.go (fun t k => castTop (ef_rm0 m p1 p2 p3 p4) k) k0
  refine go (fun _ k => XS.iconst X0.here hx rfl (hb hby at_0) k) ?_
  show G (s₁.setTop (mkF m 1 #[.val (.int p1), .val (.int p2), .val (.int p3), .val (.int p4), .unset, .unset, .unset, .unset, .unset, .unset, .unset, .unset, .unset, .unset, .unset] [(.int (1 : Int32))]))
  refine go (fun _ k => XS.iloadN X0.here hx rfl (hb hby at_1) rfl k) ?_
  show G (s₁.setTop (mkF m 2 #[.val (.int p1), .val (.int p2), .val (.int p3), .val (.int p4), .unset, .unset, .unset, .unset, .unset, .unset, .unset, .unset, .unset, .unset, .unset] [(.int p1), (.int (1 : Int32))]))
  refine go (fun _ k => XS.iconst X0.here hx rfl (hb hby at_2) k) ?_
  show G (s₁.setTop (mkF m 3 #[.val (.int p1), .val (.int p2), .val (.int p3), .val (.int p4), .unset, .unset, .unset, .unset, .unset, .unset, .unset, .unset, .unset, .unset, .unset] [(.int (1 : Int32)), (.int p1), (.int (1 : Int32))]))
  refine go (fun _ k => XS.iand X0.here hx rfl (hb hby at_3) rfl k) ?_
  show G (s₁.setTop (mkF m 4 #[.val (.int p1), .val (.int p2), .val (.int p3), .val (.int p4), .unset, .unset, .unset, .unset, .unset, .unset, .unset, .unset, .unset, .unset, .unset] [(.int (p1 &&& (1 : Int32))), (.int (1 : Int32))]))
  refine go (fun _ k => XS.iadd X0.here hx rfl (hb hby at_4) rfl k) ?_
  show G (s₁.setTop (mkF m 5 #[.val (.int p1), .val (.int p2), .val (.int p3), .val (.int p4), .unset, .unset, .unset, .unset, .unset, .unset, .unset, .unset, .unset, .unset, .unset] [(.int ((1 : Int32) + (p1 &&& (1 : Int32))))]))
  refine go (fun _ k => XS.istore X0.here hx rfl (hb hby at_5) rfl (l' := #[.val (.int p1), .val (.int p2), .val (.int p3), .val (.int p4), .val (.int ((1 : Int32) + (p1 &&& (1 : Int32)))), .unset, .unset, .unset, .unset, .unset, .unset, .unset, .unset, .unset, .unset]) rfl k) ?_
  show G (s₁.setTop (mkF m 7 #[.val (.int p1), .val (.int p2), .val (.int p3), .val (.int p4), .val (.int ((1 : Int32) + (p1 &&& (1 : Int32)))), .unset, .unset, .unset, .unset, .unset, .unset, .unset, .unset, .unset, .unset] []))
  refine go (fun _ k => XS.iloadN X0.here hx rfl (hb hby at_7) rfl k) ?_
  show G (s₁.setTop (mkF m 8 #[.val (.int p1), .val (.int p2), .val (.int p3), .val (.int p4), .val (.int ((1 : Int32) + (p1 &&& (1 : Int32)))), .unset, .unset, .unset, .unset, .unset, .unset, .unset, .unset, .unset, .unset] [(.int p2)]))
  refine go (X0.ldcInt hx hown (mvT hZ (hw _ (List.mem_of_getElem? (i := 0) rfl))) (g := (mkF m 8 #[.val (.int p1), .val (.int p2), .val (.int p3), .val (.int p4), .val (.int ((1 : Int32) + (p1 &&& (1 : Int32)))), .unset, .unset, .unset, .unset, .unset, .unset, .unset, .unset, .unset, .unset] [(.int p2)])) rfl (hb hby at_8)) ?_
  show G (s₁.setTop (mkF m 10 #[.val (.int p1), .val (.int p2), .val (.int p3), .val (.int p4), .val (.int ((1 : Int32) + (p1 &&& (1 : Int32)))), .unset, .unset, .unset, .unset, .unset, .unset, .unset, .unset, .unset, .unset] [(.int (2147483647 : Int32)), (.int p2)]))
  refine go (fun _ k => XS.iand X0.here hx rfl (hb hby at_10) rfl k) ?_
  show G (s₁.setTop (mkF m 11 #[.val (.int p1), .val (.int p2), .val (.int p3), .val (.int p4), .val (.int ((1 : Int32) + (p1 &&& (1 : Int32)))), .unset, .unset, .unset, .unset, .unset, .unset, .unset, .unset, .unset, .unset] [(.int (p2 &&& (2147483647 : Int32)))]))
  refine go (fun _ k => XS.iconst X0.here hx rfl (hb hby at_11) k) ?_
  show G (s₁.setTop (mkF m 12 #[.val (.int p1), .val (.int p2), .val (.int p3), .val (.int p4), .val (.int ((1 : Int32) + (p1 &&& (1 : Int32)))), .unset, .unset, .unset, .unset, .unset, .unset, .unset, .unset, .unset, .unset] [(.int (4 : Int32)), (.int (p2 &&& (2147483647 : Int32)))]))
  refine go (fun _ k => iremM X0 hx rfl (hb hby at_12) rfl (by decide) k) ?_
  show G (s₁.setTop (mkF m 13 #[.val (.int p1), .val (.int p2), .val (.int p3), .val (.int p4), .val (.int ((1 : Int32) + (p1 &&& (1 : Int32)))), .unset, .unset, .unset, .unset, .unset, .unset, .unset, .unset, .unset, .unset] [(.int ((p2 &&& (2147483647 : Int32)) % (4 : Int32)))]))
  refine go (fun _ k => XS.istore X0.here hx rfl (hb hby at_13) rfl (l' := #[.val (.int p1), .val (.int p2), .val (.int p3), .val (.int p4), .val (.int ((1 : Int32) + (p1 &&& (1 : Int32)))), .val (.int ((p2 &&& (2147483647 : Int32)) % (4 : Int32))), .unset, .unset, .unset, .unset, .unset, .unset, .unset, .unset, .unset]) rfl k) ?_
  show G (s₁.setTop (mkF m 15 #[.val (.int p1), .val (.int p2), .val (.int p3), .val (.int p4), .val (.int ((1 : Int32) + (p1 &&& (1 : Int32)))), .val (.int ((p2 &&& (2147483647 : Int32)) % (4 : Int32))), .unset, .unset, .unset, .unset, .unset, .unset, .unset, .unset, .unset] []))
  obtain ⟨n, hn4, hne⟩ := own_rem p2 4 (by omega) (by omega)
  rw [show ((p2 &&& (2147483647 : Int32)) % (4 : Int32)) = (Int32.ofNat n) from hne]
  have hwd := own_width p1
  generalize ((1 : Int32) + (p1 &&& (1 : Int32))) = z4 at hwd
  rcases hwd with rfl | rfl
  · show G (s₁.setTop (mkF m 15 #[.val (.int p1), .val (.int p2), .val (.int p3), .val (.int p4), .val (.int (1 : Int32)), .val (.int (Int32.ofNat n)), .unset, .unset, .unset, .unset, .unset, .unset, .unset, .unset, .unset] []))
    refine go (fun _ k => XS.bipush X0.here hx rfl (hb hby at_15) k) ?_
    show G (s₁.setTop (mkF m 17 #[.val (.int p1), .val (.int p2), .val (.int p3), .val (.int p4), .val (.int (1 : Int32)), .val (.int (Int32.ofNat n)), .unset, .unset, .unset, .unset, .unset, .unset, .unset, .unset, .unset] [(.int (6 : Int32))]))
    obtain ⟨T1, h1, k1, X1, e1, E1, A1, B1, st1⟩ := newPE X0 hx hZ (hw _ (List.mem_of_getElem? (i := 1) rfl)) e0 (g := (mkF m 17 #[.val (.int p1), .val (.int p2), .val (.int p3), .val (.int p4), .val (.int (1 : Int32)), .val (.int (Int32.ofNat n)), .unset, .unset, .unset, .unset, .unset, .unset, .unset, .unset, .unset] [(.int (6 : Int32))])) rfl (hb hby at_17) rfl (by decide) (cap := 6) (by decide) (by decide) (by decide) (by decide) (ad := "[J") (by decide)
    obtain ⟨b1, ga1⟩ : ∃ z, z = h0.size := ⟨_, rfl⟩
    have g_b1 : n0 ≤ b1 := Nat.le_trans Z0 (Nat.le_of_eq ga1.symm)
    rw [← ga1] at A1 B1 st1
    have Zs1 : n0 ≤ h1.size := Nat.le_trans Z0 E1.1
    have V1 : Arv Z h1 b1 k1 .long (6 : Int32) [(.long (0 : Int64)), (.long (0 : Int64)), (.long (0 : Int64)), (.long (0 : Int64)), (.long (0 : Int64)), (.long (0 : Int64))] (.long (0 : Int64)) := (Arv.new A1 (by decide)).pad (pad_rep [] (.long (0 : Int64)) 6)
    refine go st1 ?_
    show G (T1.setTop (mkF m 19 #[.val (.int p1), .val (.int p2), .val (.int p3), .val (.int p4), .val (.int (1 : Int32)), .val (.int (Int32.ofNat n)), .unset, .unset, .unset, .unset, .unset, .unset, .unset, .unset, .unset] [(.ref b1)]))
    refine go (fun _ k => XS.astore X1.here hx rfl (hb hby at_19) rfl rfl (l' := #[.val (.int p1), .val (.int p2), .val (.int p3), .val (.int p4), .val (.int (1 : Int32)), .val (.int (Int32.ofNat n)), .val (.ref b1), .unset, .unset, .unset, .unset, .unset, .unset, .unset, .unset]) rfl k) ?_
    show G (T1.setTop (mkF m 21 #[.val (.int p1), .val (.int p2), .val (.int p3), .val (.int p4), .val (.int (1 : Int32)), .val (.int (Int32.ofNat n)), .val (.ref b1), .unset, .unset, .unset, .unset, .unset, .unset, .unset, .unset] []))
    refine go (fun _ k => XS.aload X1.here hx rfl (hb hby at_21) rfl rfl k) ?_
    show G (T1.setTop (mkF m 23 #[.val (.int p1), .val (.int p2), .val (.int p3), .val (.int p4), .val (.int (1 : Int32)), .val (.int (Int32.ofNat n)), .val (.ref b1), .unset, .unset, .unset, .unset, .unset, .unset, .unset, .unset] [(.ref b1)]))
    refine go (fun _ k => XS.iconst X1.here hx rfl (hb hby at_23) k) ?_
    show G (T1.setTop (mkF m 24 #[.val (.int p1), .val (.int p2), .val (.int p3), .val (.int p4), .val (.int (1 : Int32)), .val (.int (Int32.ofNat n)), .val (.ref b1), .unset, .unset, .unset, .unset, .unset, .unset, .unset, .unset] [(.int (0 : Int32)), (.ref b1)]))
    refine go (fun _ k => XS.lconst X1.here hx rfl (hb hby at_24) k) ?_
    show G (T1.setTop (mkF m 25 #[.val (.int p1), .val (.int p2), .val (.int p3), .val (.int p4), .val (.int (1 : Int32)), .val (.int (Int32.ofNat n)), .val (.ref b1), .unset, .unset, .unset, .unset, .unset, .unset, .unset, .unset] [(.long (0 : Int64)), (.int (0 : Int32)), (.ref b1)]))
    obtain ⟨cl2, Ar2, qk2, qs2, qn2, qh2, qg2⟩ := id V1
    obtain ⟨T2, h2, X2, e2, W2, st2⟩ := stJ X1 hx hZ e1 Ar2 (j := (0 : Int32)) (inb_of qs2 ⟨by decide, by decide⟩) (g := (mkF m 25 #[.val (.int p1), .val (.int p2), .val (.int p3), .val (.int p4), .val (.int (1 : Int32)), .val (.int (Int32.ofNat n)), .val (.ref b1), .unset, .unset, .unset, .unset, .unset, .unset, .unset, .unset] [(.long (0 : Int64)), (.int (0 : Int32)), (.ref b1)])) rfl rfl (hb hby at_25)
    have V2 : Arv Z h2 b1 k1 .long (6 : Int32) [(.long (0 : Int64)), (.long (0 : Int64)), (.long (0 : Int64)), (.long (0 : Int64)), (.long (0 : Int64)), (.long (0 : Int64))] (.long (0 : Int64)) := Arv.set Ar2 qk2 qs2 qn2 qh2 qg2 rfl W2 0 rfl (Nat.le_of_ble_eq_true rfl)
    have f3 := B1.wr W2
    have Zs2 : n0 ≤ h2.size := Nat.le_trans Zs1 (Keep.of_wr W2).1
    have N2 := Fr.snoc X2 N0 g_b1
    refine go st2 ?_
    show G (T2.setTop (mkF m 26 #[.val (.int p1), .val (.int p2), .val (.int p3), .val (.int p4), .val (.int (1 : Int32)), .val (.int (Int32.ofNat n)), .val (.ref b1), .unset, .unset, .unset, .unset, .unset, .unset, .unset, .unset] []))
    refine go (fun _ k => XS.iload X2.here hx rfl (hb hby at_26) rfl k) ?_
    show G (T2.setTop (mkF m 28 #[.val (.int p1), .val (.int p2), .val (.int p3), .val (.int p4), .val (.int (1 : Int32)), .val (.int (Int32.ofNat n)), .val (.ref b1), .unset, .unset, .unset, .unset, .unset, .unset, .unset, .unset] [(.int (1 : Int32))]))
    refine go (fun _ k => XS.iconst X2.here hx rfl (hb hby at_28) k) ?_
    show G (T2.setTop (mkF m 29 #[.val (.int p1), .val (.int p2), .val (.int p3), .val (.int p4), .val (.int (1 : Int32)), .val (.int (Int32.ofNat n)), .val (.ref b1), .unset, .unset, .unset, .unset, .unset, .unset, .unset, .unset] [(.int (1 : Int32)), (.int (1 : Int32))]))
    have hc4 : (1 : Int32) = (1 : Int32) := rfl
    refine go (fun _ k => XS.icmpNo X2.here hx rfl (hb hby at_29) rfl (teq hc4).2 k) ?_
    show G (T2.setTop (mkF m 32 #[.val (.int p1), .val (.int p2), .val (.int p3), .val (.int p4), .val (.int (1 : Int32)), .val (.int (Int32.ofNat n)), .val (.ref b1), .unset, .unset, .unset, .unset, .unset, .unset, .unset, .unset] []))
    refine go (fun _ k => XS.aload X2.here hx rfl (hb hby at_32) rfl rfl k) ?_
    show G (T2.setTop (mkF m 34 #[.val (.int p1), .val (.int p2), .val (.int p3), .val (.int p4), .val (.int (1 : Int32)), .val (.int (Int32.ofNat n)), .val (.ref b1), .unset, .unset, .unset, .unset, .unset, .unset, .unset, .unset] [(.ref b1)]))
    refine go (fun _ k => XS.iconst X2.here hx rfl (hb hby at_34) k) ?_
    show G (T2.setTop (mkF m 35 #[.val (.int p1), .val (.int p2), .val (.int p3), .val (.int p4), .val (.int (1 : Int32)), .val (.int (Int32.ofNat n)), .val (.ref b1), .unset, .unset, .unset, .unset, .unset, .unset, .unset, .unset] [(.int (1 : Int32)), (.ref b1)]))
    refine go (X2.ldc2Long hx hown (mvT hZ (hw _ (List.mem_of_getElem? (i := 2) rfl))) (g := (mkF m 35 #[.val (.int p1), .val (.int p2), .val (.int p3), .val (.int p4), .val (.int (1 : Int32)), .val (.int (Int32.ofNat n)), .val (.ref b1), .unset, .unset, .unset, .unset, .unset, .unset, .unset, .unset] [(.int (1 : Int32)), (.ref b1)])) rfl (hb hby at_35)) ?_
    show G (T2.setTop (mkF m 38 #[.val (.int p1), .val (.int p2), .val (.int p3), .val (.int p4), .val (.int (1 : Int32)), .val (.int (Int32.ofNat n)), .val (.ref b1), .unset, .unset, .unset, .unset, .unset, .unset, .unset, .unset] [(.long (10 : Int64)), (.int (1 : Int32)), (.ref b1)]))
    obtain ⟨cl5, Ar5, qk5, qs5, qn5, qh5, qg5⟩ := id V2
    obtain ⟨T5, h5, X5, e5, W5, st5⟩ := stJ X2 hx hZ e2 Ar5 (j := (1 : Int32)) (inb_of qs5 ⟨by decide, by decide⟩) (g := (mkF m 38 #[.val (.int p1), .val (.int p2), .val (.int p3), .val (.int p4), .val (.int (1 : Int32)), .val (.int (Int32.ofNat n)), .val (.ref b1), .unset, .unset, .unset, .unset, .unset, .unset, .unset, .unset] [(.long (10 : Int64)), (.int (1 : Int32)), (.ref b1)])) rfl rfl (hb hby at_38)
    have V5 : Arv Z h5 b1 k1 .long (6 : Int32) [(.long (0 : Int64)), (.long (10 : Int64)), (.long (0 : Int64)), (.long (0 : Int64)), (.long (0 : Int64)), (.long (0 : Int64))] (.long (0 : Int64)) := Arv.set Ar5 qk5 qs5 qn5 qh5 qg5 rfl W5 1 rfl (Nat.le_of_ble_eq_true rfl)
    have f6 := f3.wr W5
    have Zs5 : n0 ≤ h5.size := Nat.le_trans Zs2 (Keep.of_wr W5).1
    have N5 := Fr.snoc X5 N2 g_b1
    refine go st5 ?_
    show G (T5.setTop (mkF m 39 #[.val (.int p1), .val (.int p2), .val (.int p3), .val (.int p4), .val (.int (1 : Int32)), .val (.int (Int32.ofNat n)), .val (.ref b1), .unset, .unset, .unset, .unset, .unset, .unset, .unset, .unset] []))
    refine go (fun _ k => XS.aload X5.here hx rfl (hb hby at_39) rfl rfl k) ?_
    show G (T5.setTop (mkF m 41 #[.val (.int p1), .val (.int p2), .val (.int p3), .val (.int p4), .val (.int (1 : Int32)), .val (.int (Int32.ofNat n)), .val (.ref b1), .unset, .unset, .unset, .unset, .unset, .unset, .unset, .unset] [(.ref b1)]))
    refine go (fun _ k => XS.iconst X5.here hx rfl (hb hby at_41) k) ?_
    show G (T5.setTop (mkF m 42 #[.val (.int p1), .val (.int p2), .val (.int p3), .val (.int p4), .val (.int (1 : Int32)), .val (.int (Int32.ofNat n)), .val (.ref b1), .unset, .unset, .unset, .unset, .unset, .unset, .unset, .unset] [(.int (2 : Int32)), (.ref b1)]))
    refine go (X5.ldc2Long hx hown (mvT hZ (hw _ (List.mem_of_getElem? (i := 3) rfl))) (g := (mkF m 42 #[.val (.int p1), .val (.int p2), .val (.int p3), .val (.int p4), .val (.int (1 : Int32)), .val (.int (Int32.ofNat n)), .val (.ref b1), .unset, .unset, .unset, .unset, .unset, .unset, .unset, .unset] [(.int (2 : Int32)), (.ref b1)])) rfl (hb hby at_42)) ?_
    show G (T5.setTop (mkF m 45 #[.val (.int p1), .val (.int p2), .val (.int p3), .val (.int p4), .val (.int (1 : Int32)), .val (.int (Int32.ofNat n)), .val (.ref b1), .unset, .unset, .unset, .unset, .unset, .unset, .unset, .unset] [(.long (20 : Int64)), (.int (2 : Int32)), (.ref b1)]))
    obtain ⟨cl7, Ar7, qk7, qs7, qn7, qh7, qg7⟩ := id V5
    obtain ⟨T7, h7, X7, e7, W7, st7⟩ := stJ X5 hx hZ e5 Ar7 (j := (2 : Int32)) (inb_of qs7 ⟨by decide, by decide⟩) (g := (mkF m 45 #[.val (.int p1), .val (.int p2), .val (.int p3), .val (.int p4), .val (.int (1 : Int32)), .val (.int (Int32.ofNat n)), .val (.ref b1), .unset, .unset, .unset, .unset, .unset, .unset, .unset, .unset] [(.long (20 : Int64)), (.int (2 : Int32)), (.ref b1)])) rfl rfl (hb hby at_45)
    have V7 : Arv Z h7 b1 k1 .long (6 : Int32) [(.long (0 : Int64)), (.long (10 : Int64)), (.long (20 : Int64)), (.long (0 : Int64)), (.long (0 : Int64)), (.long (0 : Int64))] (.long (0 : Int64)) := Arv.set Ar7 qk7 qs7 qn7 qh7 qg7 rfl W7 2 rfl (Nat.le_of_ble_eq_true rfl)
    have f8 := f6.wr W7
    have Zs7 : n0 ≤ h7.size := Nat.le_trans Zs5 (Keep.of_wr W7).1
    have N7 := Fr.snoc X7 N5 g_b1
    refine go st7 ?_
    show G (T7.setTop (mkF m 46 #[.val (.int p1), .val (.int p2), .val (.int p3), .val (.int p4), .val (.int (1 : Int32)), .val (.int (Int32.ofNat n)), .val (.ref b1), .unset, .unset, .unset, .unset, .unset, .unset, .unset, .unset] []))
    refine go (fun _ k => XS.goto X7.here hx rfl (pc0 := 46) (pc' := 63) rfl (hb hby at_46) (by decide) (by decide) k) ?_
    show G (T7.setTop (mkF m 63 #[.val (.int p1), .val (.int p2), .val (.int p3), .val (.int p4), .val (.int (1 : Int32)), .val (.int (Int32.ofNat n)), .val (.ref b1), .unset, .unset, .unset, .unset, .unset, .unset, .unset, .unset] []))
    have VWL9 : LA Z h7 b1 k1 6 := ⟨_, rfl, V7⟩
    obtain ⟨T10, h10, X10, e10, E10, A10, D10, -, st10⟩ := newO X7 hx hZ hown (hw _ (List.mem_of_getElem? (i := 4) rfl)) (hw _ (List.mem_of_getElem? (i := 5) rfl)) (hw _ (List.mem_of_getElem? (i := 6) rfl)) e7 (g := (mkF m 63 #[.val (.int p1), .val (.int p2), .val (.int p3), .val (.int p4), .val (.int (1 : Int32)), .val (.int (Int32.ofNat n)), .val (.ref b1), .unset, .unset, .unset, .unset, .unset, .unset, .unset, .unset] [])) rfl (hb hby at_63) (by decide) (by decide)
    obtain ⟨b10, ga10⟩ : ∃ z, z = h7.size := ⟨_, rfl⟩
    have ne_b1_b10 : b1 ≠ b10 := Nat.ne_of_lt (Nat.lt_of_lt_of_le f8.lt (Nat.le_of_eq ga10.symm))
    have g_b10 : n0 ≤ b10 := Nat.le_trans Zs7 (Nat.le_of_eq ga10.symm)
    rw [← ga10] at A10 D10 st10
    have f11 := f8.ext E10
    have f12 := VWL9.ext E10
    have Zs10 : n0 ≤ h10.size := Nat.le_trans Zs7 E10.1
    have F10_width : Fld Z h10 b10 "com/example/kerros/kerros/store/SortedChunks" "width" "I" (.int (0 : Int32)) := D10 (Or.inr (hw _ (List.mem_of_getElem? (i := 14) rfl))) (ty := .int) (by decide)
    have F10_used : Fld Z h10 b10 "com/example/kerros/kerros/store/SortedChunks" "used" "I" (.int (0 : Int32)) := D10 (Or.inl (hw _ (List.mem_of_getElem? (i := 20) rfl))) (ty := .int) (by decide)
    have F10_chunks : Fld Z h10 b10 "com/example/kerros/kerros/store/SortedChunks" "chunks" "[Lcom/example/kerros/kerros/store/SortedChunks$Chunk;" .null := D10 (Or.inl (hw _ (List.mem_of_getElem? (i := 24) rfl))) (ty := (.array (.object "com/example/kerros/kerros/store/SortedChunks$Chunk"))) (by decide)
    refine go st10 ?_
    show G (T10.setTop (mkF m 66 #[.val (.int p1), .val (.int p2), .val (.int p3), .val (.int p4), .val (.int (1 : Int32)), .val (.int (Int32.ofNat n)), .val (.ref b1), .unset, .unset, .unset, .unset, .unset, .unset, .unset, .unset] [(.ref b10)]))
    refine go (fun _ k => XS.dup X10.here hx rfl (hb hby at_66) rfl rfl k) ?_
    show G (T10.setTop (mkF m 67 #[.val (.int p1), .val (.int p2), .val (.int p3), .val (.int p4), .val (.int (1 : Int32)), .val (.int (Int32.ofNat n)), .val (.ref b1), .unset, .unset, .unset, .unset, .unset, .unset, .unset, .unset] [(.ref b10), (.ref b10)]))
    refine go (fun _ k => XS.iload X10.here hx rfl (hb hby at_67) rfl k) ?_
    show G (T10.setTop (mkF m 69 #[.val (.int p1), .val (.int p2), .val (.int p3), .val (.int p4), .val (.int (1 : Int32)), .val (.int (Int32.ofNat n)), .val (.ref b1), .unset, .unset, .unset, .unset, .unset, .unset, .unset, .unset] [(.int (1 : Int32)), (.ref b10), (.ref b10)]))
    refine go (fun _ k => XS.aload X10.here hx rfl (hb hby at_69) rfl rfl k) ?_
    show G (T10.setTop (mkF m 71 #[.val (.int p1), .val (.int p2), .val (.int p3), .val (.int p4), .val (.int (1 : Int32)), .val (.int (Int32.ofNat n)), .val (.ref b1), .unset, .unset, .unset, .unset, .unset, .unset, .unset, .unset] [(.ref b1), (.int (1 : Int32)), (.ref b10), (.ref b10)]))
    refine go (fun _ k => XS.iload X10.here hx rfl (hb hby at_71) rfl k) ?_
    show G (T10.setTop (mkF m 73 #[.val (.int p1), .val (.int p2), .val (.int p3), .val (.int p4), .val (.int (1 : Int32)), .val (.int (Int32.ofNat n)), .val (.ref b1), .unset, .unset, .unset, .unset, .unset, .unset, .unset, .unset] [(.int (Int32.ofNat n)), (.ref b1), (.int (1 : Int32)), (.ref b10), (.ref b10)]))
    obtain ⟨_, _, ⟨T13, L13, k13, n13⟩, -, X13, ⟨Lc13, hQ13, l13, y13, z13⟩, st13⟩ := X10.specialBack hx (y := (⟨"com/example/kerros/kerros/store/SortedChunks", "<init>", "(I[JI)V"⟩ : MethodName)) rfl hown (mvT hZ (hw _ (List.mem_of_getElem? (i := 7) rfl))) (mvT hZ (hw _ (List.mem_of_getElem? (i := 8) rfl))) (mvT hZ (hw _ (List.mem_of_getElem? (i := 9) rfl))) (by decide) (backOf (W := 1) (rm1w1 l Z a0 hw [] b10 b1 n k1 h10 n0 Zs10 (by omega) F10_width F10_used F10_chunks A10 f12 f11 (Ne.symm ne_b1_b10) g_b10) hZ (hw _ (List.mem_of_getElem? (i := 9) rfl)) (hw _ (List.mem_of_getElem? (i := 6) rfl)) (by decide) (by decide)) (g := (mkF m 73 #[.val (.int p1), .val (.int p2), .val (.int p3), .val (.int p4), .val (.int (1 : Int32)), .val (.int (Int32.ofNat n)), .val (.ref b1), .unset, .unset, .unset, .unset, .unset, .unset, .unset, .unset] [(.int (Int32.ofNat n)), (.ref b1), (.int (1 : Int32)), (.ref b10), (.ref b10)])) rfl (by rw [hml]; rfl) (Steps.refl _) (a := b10) (argsL := [(.int (1 : Int32)), (.ref b1), (.int (Int32.ofNat n))]) (rest := [(.ref b10)]) (lenOf pd_0_0 rfl) rfl (by show 2 * 0 + _ ≤ _; exact Nat.le_of_eq rfl) (hb hby at_73) (fun _ _ => ⟨rfl, e10, (by decide : 2 + 3 ≤ _), (by decide : 9 + 15 ≤ _)⟩)
    dsimp only [Pt.U, Pt.locs, Pt.cells, Pt.slots] at X13 l13 y13 z13 st13 hQ13
    subst l13 y13 z13
    obtain ⟨ca13, ck13, wa13, kc13, kw13, cb13, rfl, N13q, Kc13, c13_0, c13_1, c13_2, c13_3, c13_4, c13_5, c13_6, c13_7, c13_8, c13_9, c13_10, c13_11, c13_12, c13_13, c13_14, c13_15, c13_16⟩ := hQ13
    have ne_b1_ca13 : b1 ≠ ca13 := Nat.ne_of_lt (Nat.lt_of_lt_of_le f11.lt c13_0)
    have ne_b10_ca13 : b10 ≠ ca13 := Nat.ne_of_lt (Nat.lt_of_lt_of_le A10.lt c13_0)
    have g_ca13 : n0 ≤ ca13 := Nat.le_trans Zs10 c13_0
    have ne_b1_ck13 : b1 ≠ ck13 := Nat.ne_of_lt (Nat.lt_of_lt_of_le f11.lt c13_1)
    have ne_b10_ck13 : b10 ≠ ck13 := Nat.ne_of_lt (Nat.lt_of_lt_of_le A10.lt c13_1)
    have g_ck13 : n0 ≤ ck13 := Nat.le_trans Zs10 c13_1
    have ne_b1_wa13 : b1 ≠ wa13 := Nat.ne_of_lt (Nat.lt_of_lt_of_le f11.lt c13_2)
    have ne_b10_wa13 : b10 ≠ wa13 := Nat.ne_of_lt (Nat.lt_of_lt_of_le A10.lt c13_2)
    have g_wa13 : n0 ≤ wa13 := Nat.le_trans Zs10 c13_2
    have f14 := f11.keep Kc13
    have f15 := f12.keep Kc13 (ninS ne_b1_b10 nin0)
    have f16 := A10.keep Kc13
    have Zs13 : n0 ≤ T13.heap.size := Nat.le_trans Zs10 Kc13.1
    have N13 := Fr.app N7 N13q
    refine go (fun _ k => st13.trans k) ?_
    show G (T13.setTop (mkF m 76 #[.val (.int p1), .val (.int p2), .val (.int p3), .val (.int p4), .val (.int (1 : Int32)), .val (.int (Int32.ofNat n)), .val (.ref b1), .unset, .unset, .unset, .unset, .unset, .unset, .unset, .unset] [(.ref b10)]))
    refine go (fun _ k => XS.astore X13.here hx rfl (hb hby at_76) rfl rfl (l' := #[.val (.int p1), .val (.int p2), .val (.int p3), .val (.int p4), .val (.int (1 : Int32)), .val (.int (Int32.ofNat n)), .val (.ref b1), .val (.ref b10), .unset, .unset, .unset, .unset, .unset, .unset, .unset]) rfl k) ?_
    show G (T13.setTop (mkF m 78 #[.val (.int p1), .val (.int p2), .val (.int p3), .val (.int p4), .val (.int (1 : Int32)), .val (.int (Int32.ofNat n)), .val (.ref b1), .val (.ref b10), .unset, .unset, .unset, .unset, .unset, .unset, .unset] []))
    refine go (fun _ k => XS.aload X13.here hx rfl (hb hby at_78) rfl rfl k) ?_
    show G (T13.setTop (mkF m 80 #[.val (.int p1), .val (.int p2), .val (.int p3), .val (.int p4), .val (.int (1 : Int32)), .val (.int (Int32.ofNat n)), .val (.ref b1), .val (.ref b10), .unset, .unset, .unset, .unset, .unset, .unset, .unset] [(.ref b10)]))
    obtain ⟨cq17, kq17, qa17, qb17, qc17⟩ := isOf hZ rfl f16
    obtain ⟨_, _, ⟨T17, L17, k17, n17⟩, -, X17, ⟨Lc17, hQ17, l17, y17, z17⟩, st17⟩ := X13.virtualBack hx (y := (⟨"com/example/kerros/kerros/store/SortedChunks", "isEmpty", "()Z"⟩ : MethodName)) (z := (⟨"com/example/kerros/kerros/store/SortedChunks", "isEmpty", "()Z"⟩ : MethodName)) hown (mvT hZ (hw _ (List.mem_of_getElem? (i := 54) rfl))) (mvT hZ (hw _ (List.mem_of_getElem? (i := 55) rfl))) (notFace_of_selects (args := #[]) (mvT hZ (hw _ (List.mem_of_getElem? (i := 57) rfl)))) (mvT hZ (hw _ (List.mem_of_getElem? (i := 57) rfl))) (mvT hZ (hw _ (List.mem_of_getElem? (i := 56) rfl))) (by decide) (backOf (W := 0) (rm9 l Z a0 hw [] b10 ca13 ck13 kc13 (Int32.ofNat n) T13.heap n0 Zs13 c13_8 c13_9 c13_12) hZ (hw _ (List.mem_of_getElem? (i := 58) rfl)) (hw _ (List.mem_of_getElem? (i := 6) rfl)) (by decide) (by decide)) qa17 qc17 (g := (mkF m 80 #[.val (.int p1), .val (.int p2), .val (.int p3), .val (.int p4), .val (.int (1 : Int32)), .val (.int (Int32.ofNat n)), .val (.ref b1), .val (.ref b10), .unset, .unset, .unset, .unset, .unset, .unset, .unset] [(.ref b10)])) rfl (by rw [hml]; rfl) (Steps.refl _) (argsL := []) (rest := []) (lenOf pd_0_1 rfl) rfl (by show 2 * 0 + _ ≤ _; exact Nat.le_of_eq rfl) (hb hby at_80) (fun _ _ => ⟨rfl, rfl, (by decide : 5 + 0 ≤ _), (by decide : 24 + 0 ≤ _)⟩)
    dsimp only [Pt.U, Pt.locs, Pt.cells, Pt.slots] at X17 l17 y17 z17 st17 hQ17
    subst l17 y17 z17
    obtain ⟨rfl, N17q, e17⟩ := hQ17
    have N17 := Fr.app N13 N17q
    refine go (fun _ k => st17.trans k) ?_
    show G (T17.setTop (mkF m 83 #[.val (.int p1), .val (.int p2), .val (.int p3), .val (.int p4), .val (.int (1 : Int32)), .val (.int (Int32.ofNat n)), .val (.ref b1), .val (.ref b10), .unset, .unset, .unset, .unset, .unset, .unset, .unset] [(.int (emp (Int32.ofNat n)))]))
    have J101_18 : G (T17.setTop (mkF m 101 #[.val (.int p1), .val (.int p2), .val (.int p3), .val (.int p4), .val (.int (1 : Int32)), .val (.int (Int32.ofNat n)), .val (.ref b1), .val (.ref b10), .unset, .unset, .unset, .unset, .unset, .unset, .unset] [(.int (1 : Int32))])) := by
      refine go (fun _ k => XS.istore X17.here hx rfl (hb hby at_101) rfl (l' := #[.val (.int p1), .val (.int p2), .val (.int p3), .val (.int p4), .val (.int (1 : Int32)), .val (.int (Int32.ofNat n)), .val (.ref b1), .val (.ref b10), .val (.int (1 : Int32)), .unset, .unset, .unset, .unset, .unset, .unset]) rfl k) ?_
      show G (T17.setTop (mkF m 103 #[.val (.int p1), .val (.int p2), .val (.int p3), .val (.int p4), .val (.int (1 : Int32)), .val (.int (Int32.ofNat n)), .val (.ref b1), .val (.ref b10), .val (.int (1 : Int32)), .unset, .unset, .unset, .unset, .unset, .unset] []))
      refine go (fun _ k => XS.iload X17.here hx rfl (hb hby at_103) rfl k) ?_
      show G (T17.setTop (mkF m 105 #[.val (.int p1), .val (.int p2), .val (.int p3), .val (.int p4), .val (.int (1 : Int32)), .val (.int (Int32.ofNat n)), .val (.ref b1), .val (.ref b10), .val (.int (1 : Int32)), .unset, .unset, .unset, .unset, .unset, .unset] [(.int (Int32.ofNat n))]))
      refine go (fun _ k => XS.istore X17.here hx rfl (hb hby at_105) rfl (l' := #[.val (.int p1), .val (.int p2), .val (.int p3), .val (.int p4), .val (.int (1 : Int32)), .val (.int (Int32.ofNat n)), .val (.ref b1), .val (.ref b10), .val (.int (1 : Int32)), .val (.int (Int32.ofNat n)), .unset, .unset, .unset, .unset, .unset]) rfl k) ?_
      show G (T17.setTop (mkF m 107 #[.val (.int p1), .val (.int p2), .val (.int p3), .val (.int p4), .val (.int (1 : Int32)), .val (.int (Int32.ofNat n)), .val (.ref b1), .val (.ref b10), .val (.int (1 : Int32)), .val (.int (Int32.ofNat n)), .unset, .unset, .unset, .unset, .unset] []))
      have J168_19 : G (T17.setTop (mkF m 168 #[.val (.int p1), .val (.int p2), .val (.int p3), .val (.int p4), .val (.int (1 : Int32)), .val (.int (Int32.ofNat n)), .val (.ref b1), .val (.ref b10), .val (.int (1 : Int32)), .val (.int (Int32.ofNat n)), .unset, .unset, .unset, .unset, .unset] [])) := by
        refine go (fun _ k => XS.iloadN X17.here hx rfl (hb hby at_168) rfl k) ?_
        show G (T17.setTop (mkF m 169 #[.val (.int p1), .val (.int p2), .val (.int p3), .val (.int p4), .val (.int (1 : Int32)), .val (.int (Int32.ofNat n)), .val (.ref b1), .val (.ref b10), .val (.int (1 : Int32)), .val (.int (Int32.ofNat n)), .unset, .unset, .unset, .unset, .unset] [(.int p3)]))
        refine go (fun _ k => XS.iconst X17.here hx rfl (hb hby at_169) k) ?_
        show G (T17.setTop (mkF m 170 #[.val (.int p1), .val (.int p2), .val (.int p3), .val (.int p4), .val (.int (1 : Int32)), .val (.int (Int32.ofNat n)), .val (.ref b1), .val (.ref b10), .val (.int (1 : Int32)), .val (.int (Int32.ofNat n)), .unset, .unset, .unset, .unset, .unset] [(.int (2 : Int32)), (.int p3)]))
        refine go (fun _ k => XS.iand X17.here hx rfl (hb hby at_170) rfl k) ?_
        show G (T17.setTop (mkF m 171 #[.val (.int p1), .val (.int p2), .val (.int p3), .val (.int p4), .val (.int (1 : Int32)), .val (.int (Int32.ofNat n)), .val (.ref b1), .val (.ref b10), .val (.int (1 : Int32)), .val (.int (Int32.ofNat n)), .unset, .unset, .unset, .unset, .unset] [(.int (p3 &&& (2 : Int32)))]))
        by_cases hc171_20 : (p3 &&& (2 : Int32)) = (0 : Int32)
        · refine go (fun _ k => XS.ifYes X17.here hx rfl (pc0 := 171) (pc' := 302) rfl (hb hby at_171) rfl ((if0 _ _).trans (teq hc171_20).1) (by decide) (by decide) k) ?_
          show G (T17.setTop (mkF m 302 #[.val (.int p1), .val (.int p2), .val (.int p3), .val (.int p4), .val (.int (1 : Int32)), .val (.int (Int32.ofNat n)), .val (.ref b1), .val (.ref b10), .val (.int (1 : Int32)), .val (.int (Int32.ofNat n)), .unset, .unset, .unset, .unset, .unset] []))
          refine go (fun _ k => XS.iload X17.here hx rfl (hb hby at_302) rfl k) ?_
          show G (T17.setTop (mkF m 304 #[.val (.int p1), .val (.int p2), .val (.int p3), .val (.int p4), .val (.int (1 : Int32)), .val (.int (Int32.ofNat n)), .val (.ref b1), .val (.ref b10), .val (.int (1 : Int32)), .val (.int (Int32.ofNat n)), .unset, .unset, .unset, .unset, .unset] [(.int (1 : Int32))]))
          rw [hG]
          refine own_fin X17 Bd.notSynchronized (v := some (.int (1 : Int32))) (fun h => by rw [Bd.returns] at h; cases h) (fun fs hr => retOut X17 hx Bd.returns rfl (by simp [FieldType.isReference, Value.isRef]) (hb hby at_304) hr) ?_ (by decide) (by decide)
          show Q0 Z p1 p2 p3 p4 h0 n0 (some (.int (1 : Int32))) T17.heap _
          rw [e17]
          exact ⟨rfl, N17⟩
        · refine go (fun _ k => XS.ifNo X17.here hx rfl (hb hby at_171) rfl ((if0 _ _).trans (feq hc171_20).1) k) ?_
          show G (T17.setTop (mkF m 174 #[.val (.int p1), .val (.int p2), .val (.int p3), .val (.int p4), .val (.int (1 : Int32)), .val (.int (Int32.ofNat n)), .val (.ref b1), .val (.ref b10), .val (.int (1 : Int32)), .val (.int (Int32.ofNat n)), .unset, .unset, .unset, .unset, .unset] []))
          refine go (fun _ k => XS.iloadN X17.here hx rfl (hb hby at_174) rfl k) ?_
          show G (T17.setTop (mkF m 175 #[.val (.int p1), .val (.int p2), .val (.int p3), .val (.int p4), .val (.int (1 : Int32)), .val (.int (Int32.ofNat n)), .val (.ref b1), .val (.ref b10), .val (.int (1 : Int32)), .val (.int (Int32.ofNat n)), .unset, .unset, .unset, .unset, .unset] [(.int p3)]))
          refine go (fun _ k => XS.iconst X17.here hx rfl (hb hby at_175) k) ?_
          show G (T17.setTop (mkF m 176 #[.val (.int p1), .val (.int p2), .val (.int p3), .val (.int p4), .val (.int (1 : Int32)), .val (.int (Int32.ofNat n)), .val (.ref b1), .val (.ref b10), .val (.int (1 : Int32)), .val (.int (Int32.ofNat n)), .unset, .unset, .unset, .unset, .unset] [(.int (4 : Int32)), (.int p3)]))
          refine go (fun _ k => XS.iand X17.here hx rfl (hb hby at_176) rfl k) ?_
          show G (T17.setTop (mkF m 177 #[.val (.int p1), .val (.int p2), .val (.int p3), .val (.int p4), .val (.int (1 : Int32)), .val (.int (Int32.ofNat n)), .val (.ref b1), .val (.ref b10), .val (.int (1 : Int32)), .val (.int (Int32.ofNat n)), .unset, .unset, .unset, .unset, .unset] [(.int (p3 &&& (4 : Int32)))]))
          by_cases hc177_21 : (p3 &&& (4 : Int32)) = (0 : Int32)
          · refine go (fun _ k => XS.ifYes X17.here hx rfl (pc0 := 177) (pc' := 184) rfl (hb hby at_177) rfl ((if0 _ _).trans (teq hc177_21).1) (by decide) (by decide) k) ?_
            show G (T17.setTop (mkF m 184 #[.val (.int p1), .val (.int p2), .val (.int p3), .val (.int p4), .val (.int (1 : Int32)), .val (.int (Int32.ofNat n)), .val (.ref b1), .val (.ref b10), .val (.int (1 : Int32)), .val (.int (Int32.ofNat n)), .unset, .unset, .unset, .unset, .unset] []))
            refine go (fun _ k => XS.iconst X17.here hx rfl (hb hby at_184) k) ?_
            show G (T17.setTop (mkF m 185 #[.val (.int p1), .val (.int p2), .val (.int p3), .val (.int p4), .val (.int (1 : Int32)), .val (.int (Int32.ofNat n)), .val (.ref b1), .val (.ref b10), .val (.int (1 : Int32)), .val (.int (Int32.ofNat n)), .unset, .unset, .unset, .unset, .unset] [(.int (0 : Int32))]))
            refine go (fun _ k => XS.istore X17.here hx rfl (hb hby at_185) rfl (l' := #[.val (.int p1), .val (.int p2), .val (.int p3), .val (.int p4), .val (.int (1 : Int32)), .val (.int (Int32.ofNat n)), .val (.ref b1), .val (.ref b10), .val (.int (1 : Int32)), .val (.int (Int32.ofNat n)), .val (.int (0 : Int32)), .unset, .unset, .unset, .unset]) rfl k) ?_
            show G (T17.setTop (mkF m 187 #[.val (.int p1), .val (.int p2), .val (.int p3), .val (.int p4), .val (.int (1 : Int32)), .val (.int (Int32.ofNat n)), .val (.ref b1), .val (.ref b10), .val (.int (1 : Int32)), .val (.int (Int32.ofNat n)), .val (.int (0 : Int32)), .unset, .unset, .unset, .unset] []))
            refine go (fun _ k => XS.iload X17.here hx rfl (hb hby at_187) rfl k) ?_
            show G (T17.setTop (mkF m 189 #[.val (.int p1), .val (.int p2), .val (.int p3), .val (.int p4), .val (.int (1 : Int32)), .val (.int (Int32.ofNat n)), .val (.ref b1), .val (.ref b10), .val (.int (1 : Int32)), .val (.int (Int32.ofNat n)), .val (.int (0 : Int32)), .unset, .unset, .unset, .unset] [(.int (0 : Int32))]))
            have hc22 : (0 : Int32) = (0 : Int32) := rfl
            refine go (fun _ k => XS.ifYes X17.here hx rfl (pc0 := 189) (pc' := 198) rfl (hb hby at_189) rfl ((if0 _ _).trans (teq hc22).1) (by decide) (by decide) k) ?_
            show G (T17.setTop (mkF m 198 #[.val (.int p1), .val (.int p2), .val (.int p3), .val (.int p4), .val (.int (1 : Int32)), .val (.int (Int32.ofNat n)), .val (.ref b1), .val (.ref b10), .val (.int (1 : Int32)), .val (.int (Int32.ofNat n)), .val (.int (0 : Int32)), .unset, .unset, .unset, .unset] []))
            refine go (fun _ k => XS.lconst X17.here hx rfl (hb hby at_198) k) ?_
            show G (T17.setTop (mkF m 199 #[.val (.int p1), .val (.int p2), .val (.int p3), .val (.int p4), .val (.int (1 : Int32)), .val (.int (Int32.ofNat n)), .val (.ref b1), .val (.ref b10), .val (.int (1 : Int32)), .val (.int (Int32.ofNat n)), .val (.int (0 : Int32)), .unset, .unset, .unset, .unset] [(.long (0 : Int64))]))
            refine go (fun _ k => XS.lstore X17.here hx rfl (hb hby at_199) rfl (l' := #[.val (.int p1), .val (.int p2), .val (.int p3), .val (.int p4), .val (.int (1 : Int32)), .val (.int (Int32.ofNat n)), .val (.ref b1), .val (.ref b10), .val (.int (1 : Int32)), .val (.int (Int32.ofNat n)), .val (.int (0 : Int32)), .val (.long (0 : Int64)), .second, .unset, .unset]) rfl k) ?_
            show G (T17.setTop (mkF m 201 #[.val (.int p1), .val (.int p2), .val (.int p3), .val (.int p4), .val (.int (1 : Int32)), .val (.int (Int32.ofNat n)), .val (.ref b1), .val (.ref b10), .val (.int (1 : Int32)), .val (.int (Int32.ofNat n)), .val (.int (0 : Int32)), .val (.long (0 : Int64)), .second, .unset, .unset] []))
            refine go (fun _ k => XS.aload X17.here hx rfl (hb hby at_201) rfl rfl k) ?_
            show G (T17.setTop (mkF m 203 #[.val (.int p1), .val (.int p2), .val (.int p3), .val (.int p4), .val (.int (1 : Int32)), .val (.int (Int32.ofNat n)), .val (.ref b1), .val (.ref b10), .val (.int (1 : Int32)), .val (.int (Int32.ofNat n)), .val (.int (0 : Int32)), .val (.long (0 : Int64)), .second, .unset, .unset] [(.ref b10)]))
            refine go (fun _ k => XS.lload X17.here hx rfl (hb hby at_203) rfl k) ?_
            show G (T17.setTop (mkF m 205 #[.val (.int p1), .val (.int p2), .val (.int p3), .val (.int p4), .val (.int (1 : Int32)), .val (.int (Int32.ofNat n)), .val (.ref b1), .val (.ref b10), .val (.int (1 : Int32)), .val (.int (Int32.ofNat n)), .val (.int (0 : Int32)), .val (.long (0 : Int64)), .second, .unset, .unset] [(.long (0 : Int64)), (.ref b10)]))
            obtain ⟨cq23, kq23, qa23, qb23, qc23⟩ := isOf hZ e17 f16
            obtain ⟨_, _, ⟨T23, L23, k23, n23⟩, -, X23, ⟨Lc23, hQ23, l23, y23, z23⟩, st23⟩ := X17.virtualBack hx (y := (⟨"com/example/kerros/kerros/store/SortedChunks", "insert", "(J)J"⟩ : MethodName)) (z := (⟨"com/example/kerros/kerros/store/SortedChunks", "insert", "(J)J"⟩ : MethodName)) hown (mvT hZ (hw _ (List.mem_of_getElem? (i := 60) rfl))) (mvT hZ (hw _ (List.mem_of_getElem? (i := 61) rfl))) (notFace_of_selects (args := #[]) (mvT hZ (hw _ (List.mem_of_getElem? (i := 63) rfl)))) (mvT hZ (hw _ (List.mem_of_getElem? (i := 63) rfl))) (mvT hZ (hw _ (List.mem_of_getElem? (i := 62) rfl))) (by decide) (backOf (W := 0) (rm10w1 l Z a0 hw [] b10 0 ca13 ck13 wa13 kc13 kw13 n cb13 T13.heap n0 Zs13 c13_6 c13_7 c13_8 c13_9 c13_10 c13_11 c13_12 c13_13 c13_14 ne_b10_ck13 ne_b10_wa13 c13_3 c13_4 c13_5 g_ck13 g_wa13 (by omega) (by omega) (by omega) (by omega)) hZ (hw _ (List.mem_of_getElem? (i := 64) rfl)) (hw _ (List.mem_of_getElem? (i := 6) rfl)) (by decide) (by decide)) qa23 qc23 (g := (mkF m 205 #[.val (.int p1), .val (.int p2), .val (.int p3), .val (.int p4), .val (.int (1 : Int32)), .val (.int (Int32.ofNat n)), .val (.ref b1), .val (.ref b10), .val (.int (1 : Int32)), .val (.int (Int32.ofNat n)), .val (.int (0 : Int32)), .val (.long (0 : Int64)), .second, .unset, .unset] [(.long (0 : Int64)), (.ref b10)])) rfl (by rw [hml]; rfl) (Steps.refl _) (argsL := [(.long (0 : Int64))]) (rest := []) (lenOf pd_0_2 rfl) rfl (by show 2 * 0 + _ ≤ _; exact Nat.le_of_eq rfl) (hb hby at_205) (fun _ _ => ⟨rfl, e17, (by decide : 5 + 1 ≤ _), (by decide : 24 + 12 ≤ _)⟩)
            dsimp only [Pt.U, Pt.locs, Pt.cells, Pt.slots] at X23 l23 y23 z23 st23 hQ23
            subst l23 y23 z23
            obtain ⟨wx23, kx23, dx23, rfl, N23q, Kc23, c23_0, c23_1, c23_2, c23_3, c23_4, c23_5, c23_6⟩ := hQ23
            have ne_b1_wx23 : b1 ≠ wx23 := c23_0.elim (fun q => by rw [q]; exact ne_b1_wa13) (fun q => Nat.ne_of_lt (Nat.lt_of_lt_of_le f14.lt q))
            have ne_b10_wx23 : b10 ≠ wx23 := c23_0.elim (fun q => by rw [q]; exact ne_b10_wa13) (fun q => Nat.ne_of_lt (Nat.lt_of_lt_of_le f16.lt q))
            have ne_ca13_wx23 : ca13 ≠ wx23 := c23_0.elim (fun q => by rw [q]; exact c13_4) (fun q => Nat.ne_of_lt (Nat.lt_of_lt_of_le c13_9.lt q))
            have ne_ck13_wx23 : ck13 ≠ wx23 := c23_0.elim (fun q => by rw [q]; exact c13_5) (fun q => Nat.ne_of_lt (Nat.lt_of_lt_of_le c13_10.lt q))
            have g_wx23 : n0 ≤ wx23 := c23_0.elim (fun q => by rw [q]; exact g_wa13) (fun q => Nat.le_trans Zs13 q)
            have f24 := f14.keep Kc23
            have f25 := f15.keep Kc23 (ninS ne_b1_ck13 (ninS ne_b1_wa13 nin0))
            have f26 := f16.keep Kc23
            have f27 := c13_6.keep Kc23 (ninS ne_b10_ck13 (ninS ne_b10_wa13 nin0))
            have f28 := c13_7.keep Kc23 (ninS ne_b10_ck13 (ninS ne_b10_wa13 nin0))
            have f29 := c13_8.keep Kc23 (ninS ne_b10_ck13 (ninS ne_b10_wa13 nin0))
            have f30 := c13_9.keep Kc23 (ninS c13_3 (ninS c13_4 nin0))
            have f31 := c13_10.keep Kc23
            have f32 := c13_14.keep Kc23
            have Zs23 : n0 ≤ T23.heap.size := Nat.le_trans Zs13 Kc23.1
            have N23 := Fr.app N17 N23q
            refine go (fun _ k => st23.trans k) ?_
            show G (T23.setTop (mkF m 208 #[.val (.int p1), .val (.int p2), .val (.int p3), .val (.int p4), .val (.int (1 : Int32)), .val (.int (Int32.ofNat n)), .val (.ref b1), .val (.ref b10), .val (.int (1 : Int32)), .val (.int (Int32.ofNat n)), .val (.int (0 : Int32)), .val (.long (0 : Int64)), .second, .unset, .unset] [(.long (Int64.ofNat 0))]))
            refine go (fun _ k => XS.lstore X23.here hx rfl (hb hby at_208) rfl (l' := #[.val (.int p1), .val (.int p2), .val (.int p3), .val (.int p4), .val (.int (1 : Int32)), .val (.int (Int32.ofNat n)), .val (.ref b1), .val (.ref b10), .val (.int (1 : Int32)), .val (.int (Int32.ofNat n)), .val (.int (0 : Int32)), .val (.long (0 : Int64)), .second, .val (.long (Int64.ofNat 0)), .second]) rfl k) ?_
            show G (T23.setTop (mkF m 210 #[.val (.int p1), .val (.int p2), .val (.int p3), .val (.int p4), .val (.int (1 : Int32)), .val (.int (Int32.ofNat n)), .val (.ref b1), .val (.ref b10), .val (.int (1 : Int32)), .val (.int (Int32.ofNat n)), .val (.int (0 : Int32)), .val (.long (0 : Int64)), .second, .val (.long (Int64.ofNat 0)), .second] []))
            refine go (fun _ k => XS.aload X23.here hx rfl (hb hby at_210) rfl rfl k) ?_
            show G (T23.setTop (mkF m 212 #[.val (.int p1), .val (.int p2), .val (.int p3), .val (.int p4), .val (.int (1 : Int32)), .val (.int (Int32.ofNat n)), .val (.ref b1), .val (.ref b10), .val (.int (1 : Int32)), .val (.int (Int32.ofNat n)), .val (.int (0 : Int32)), .val (.long (0 : Int64)), .second, .val (.long (Int64.ofNat 0)), .second] [(.ref b10)]))
            refine go (fun _ k => XS.lload X23.here hx rfl (hb hby at_212) rfl k) ?_
            show G (T23.setTop (mkF m 214 #[.val (.int p1), .val (.int p2), .val (.int p3), .val (.int p4), .val (.int (1 : Int32)), .val (.int (Int32.ofNat n)), .val (.ref b1), .val (.ref b10), .val (.int (1 : Int32)), .val (.int (Int32.ofNat n)), .val (.int (0 : Int32)), .val (.long (0 : Int64)), .second, .val (.long (Int64.ofNat 0)), .second] [(.long (Int64.ofNat 0)), (.ref b10)]))
            refine go (fun _ k => XS.iconst X23.here hx rfl (hb hby at_214) k) ?_
            show G (T23.setTop (mkF m 215 #[.val (.int p1), .val (.int p2), .val (.int p3), .val (.int p4), .val (.int (1 : Int32)), .val (.int (Int32.ofNat n)), .val (.ref b1), .val (.ref b10), .val (.int (1 : Int32)), .val (.int (Int32.ofNat n)), .val (.int (0 : Int32)), .val (.long (0 : Int64)), .second, .val (.long (Int64.ofNat 0)), .second] [(.int (0 : Int32)), (.long (Int64.ofNat 0)), (.ref b10)]))
            refine go (fun _ k => XS.iload X23.here hx rfl (hb hby at_215) rfl k) ?_
            show G (T23.setTop (mkF m 217 #[.val (.int p1), .val (.int p2), .val (.int p3), .val (.int p4), .val (.int (1 : Int32)), .val (.int (Int32.ofNat n)), .val (.ref b1), .val (.ref b10), .val (.int (1 : Int32)), .val (.int (Int32.ofNat n)), .val (.int (0 : Int32)), .val (.long (0 : Int64)), .second, .val (.long (Int64.ofNat 0)), .second] [(.int (0 : Int32)), (.int (0 : Int32)), (.long (Int64.ofNat 0)), (.ref b10)]))
            have hc33 : (0 : Int32) = (0 : Int32) := rfl
            refine go (fun _ k => XS.ifYes X23.here hx rfl (pc0 := 217) (pc' := 226) rfl (hb hby at_217) rfl ((if0 _ _).trans (teq hc33).1) (by decide) (by decide) k) ?_
            show G (T23.setTop (mkF m 226 #[.val (.int p1), .val (.int p2), .val (.int p3), .val (.int p4), .val (.int (1 : Int32)), .val (.int (Int32.ofNat n)), .val (.ref b1), .val (.ref b10), .val (.int (1 : Int32)), .val (.int (Int32.ofNat n)), .val (.int (0 : Int32)), .val (.long (0 : Int64)), .second, .val (.long (Int64.ofNat 0)), .second] [(.int (0 : Int32)), (.long (Int64.ofNat 0)), (.ref b10)]))
            refine go (X23.ldc2Long hx hown (mvT hZ (hw _ (List.mem_of_getElem? (i := 85) rfl))) (g := (mkF m 226 #[.val (.int p1), .val (.int p2), .val (.int p3), .val (.int p4), .val (.int (1 : Int32)), .val (.int (Int32.ofNat n)), .val (.ref b1), .val (.ref b10), .val (.int (1 : Int32)), .val (.int (Int32.ofNat n)), .val (.int (0 : Int32)), .val (.long (0 : Int64)), .second, .val (.long (Int64.ofNat 0)), .second] [(.int (0 : Int32)), (.long (Int64.ofNat 0)), (.ref b10)])) rfl (hb hby at_226)) ?_
            show G (T23.setTop (mkF m 229 #[.val (.int p1), .val (.int p2), .val (.int p3), .val (.int p4), .val (.int (1 : Int32)), .val (.int (Int32.ofNat n)), .val (.ref b1), .val (.ref b10), .val (.int (1 : Int32)), .val (.int (Int32.ofNat n)), .val (.int (0 : Int32)), .val (.long (0 : Int64)), .second, .val (.long (Int64.ofNat 0)), .second] [(.long (-1 : Int64)), (.int (0 : Int32)), (.long (Int64.ofNat 0)), (.ref b10)]))
            obtain ⟨cq34, kq34, qa34, qb34, qc34⟩ := isOf hZ rfl f26
            obtain ⟨_, _, ⟨T34, L34, k34, n34⟩, -, X34, ⟨Lc34, hQ34, l34, y34, z34⟩, st34⟩ := X23.virtualBack hx (y := (⟨"com/example/kerros/kerros/store/SortedChunks", "setWord", "(JIJ)V"⟩ : MethodName)) (z := (⟨"com/example/kerros/kerros/store/SortedChunks", "setWord", "(JIJ)V"⟩ : MethodName)) hown (mvT hZ (hw _ (List.mem_of_getElem? (i := 86) rfl))) (mvT hZ (hw _ (List.mem_of_getElem? (i := 87) rfl))) (notFace_of_selects (args := #[]) (mvT hZ (hw _ (List.mem_of_getElem? (i := 89) rfl)))) (mvT hZ (hw _ (List.mem_of_getElem? (i := 89) rfl))) (mvT hZ (hw _ (List.mem_of_getElem? (i := 88) rfl))) (by decide) (backOf (W := 0) (rm16w1 l Z a0 hw [] b10 (-1 : Int64) 0 ca13 ck13 wx23 kc13 kx23 (n + 1) dx23 T23.heap n0 Zs23 f27 f28 f29 f30 f31 c23_1 c23_2 c23_3 c23_4 ne_b10_ck13 ne_b10_wx23 c13_3 ne_ca13_wx23 ne_ck13_wx23 g_ck13 g_wx23 (by omega) (by omega) (by omega)) hZ (hw _ (List.mem_of_getElem? (i := 90) rfl)) (hw _ (List.mem_of_getElem? (i := 6) rfl)) (by decide) (by decide)) qa34 qc34 (g := (mkF m 229 #[.val (.int p1), .val (.int p2), .val (.int p3), .val (.int p4), .val (.int (1 : Int32)), .val (.int (Int32.ofNat n)), .val (.ref b1), .val (.ref b10), .val (.int (1 : Int32)), .val (.int (Int32.ofNat n)), .val (.int (0 : Int32)), .val (.long (0 : Int64)), .second, .val (.long (Int64.ofNat 0)), .second] [(.long (-1 : Int64)), (.int (0 : Int32)), (.long (Int64.ofNat 0)), (.ref b10)])) rfl (by rw [hml]; rfl) (Steps.refl _) (argsL := [(.long (Int64.ofNat 0)), (.int (0 : Int32)), (.long (-1 : Int64))]) (rest := []) (lenOf pd_0_3 rfl) rfl (by show 2 * 0 + _ ≤ _; exact Nat.le_of_eq rfl) (hb hby at_229) (fun _ _ => ⟨rfl, rfl, (by decide : 6 + 0 ≤ _), (by decide : 36 + 0 ≤ _)⟩)
            dsimp only [Pt.U, Pt.locs, Pt.cells, Pt.slots] at X34 l34 y34 z34 st34 hQ34
            subst l34 y34 z34
            obtain ⟨rfl, N34q, Kc34, c34_0⟩ := hQ34
            have f35 := f24.keep Kc34
            have f36 := f25.keep Kc34 (ninS ne_b1_wx23 nin0)
            have f37 := f26.keep Kc34
            have f38 := f27.keep Kc34 (ninS ne_b10_wx23 nin0)
            have f39 := f28.keep Kc34 (ninS ne_b10_wx23 nin0)
            have f40 := f29.keep Kc34 (ninS ne_b10_wx23 nin0)
            have f41 := f30.keep Kc34 (ninS ne_ca13_wx23 nin0)
            have f42 := f31.keep Kc34
            have f43 := f32.keep Kc34
            have f44 := c23_1.keep Kc34 (ninS ne_ck13_wx23 nin0)
            have f45 := c23_2.keep Kc34 (ninS ne_ck13_wx23 nin0)
            have f46 := c23_4.keep Kc34
            have Zs34 : n0 ≤ T34.heap.size := Nat.le_trans Zs23 Kc34.1
            have N34 := Fr.app N23 N34q
            refine go (fun _ k => st34.trans k) ?_
            show G (T34.setTop (mkF m 232 #[.val (.int p1), .val (.int p2), .val (.int p3), .val (.int p4), .val (.int (1 : Int32)), .val (.int (Int32.ofNat n)), .val (.ref b1), .val (.ref b10), .val (.int (1 : Int32)), .val (.int (Int32.ofNat n)), .val (.int (0 : Int32)), .val (.long (0 : Int64)), .second, .val (.long (Int64.ofNat 0)), .second] []))
            refine go (fun _ k => XS.iinc X34.here hx rfl (hb hby at_232) rfl (l' := #[.val (.int p1), .val (.int p2), .val (.int p3), .val (.int p4), .val (.int (1 : Int32)), .val (.int (Int32.ofNat n)), .val (.ref b1), .val (.ref b10), .val (.int (1 : Int32)), .val (.int ((Int32.ofNat n) + (1 : Int32))), .val (.int (0 : Int32)), .val (.long (0 : Int64)), .second, .val (.long (Int64.ofNat 0)), .second]) rfl k) ?_
            show G (T34.setTop (mkF m 235 #[.val (.int p1), .val (.int p2), .val (.int p3), .val (.int p4), .val (.int (1 : Int32)), .val (.int (Int32.ofNat n)), .val (.ref b1), .val (.ref b10), .val (.int (1 : Int32)), .val (.int ((Int32.ofNat n) + (1 : Int32))), .val (.int (0 : Int32)), .val (.long (0 : Int64)), .second, .val (.long (Int64.ofNat 0)), .second] []))
            rw [show ((Int32.ofNat n) + (1 : Int32)) = (Int32.ofNat (n + 1)) from own_onadd n 1]
            show G (T34.setTop (mkF m 235 #[.val (.int p1), .val (.int p2), .val (.int p3), .val (.int p4), .val (.int (1 : Int32)), .val (.int (Int32.ofNat n)), .val (.ref b1), .val (.ref b10), .val (.int (1 : Int32)), .val (.int (Int32.ofNat (n + 1))), .val (.int (0 : Int32)), .val (.long (0 : Int64)), .second, .val (.long (Int64.ofNat 0)), .second] []))
            refine go (fun _ k => XS.iload X34.here hx rfl (hb hby at_235) rfl k) ?_
            show G (T34.setTop (mkF m 237 #[.val (.int p1), .val (.int p2), .val (.int p3), .val (.int p4), .val (.int (1 : Int32)), .val (.int (Int32.ofNat n)), .val (.ref b1), .val (.ref b10), .val (.int (1 : Int32)), .val (.int (Int32.ofNat (n + 1))), .val (.int (0 : Int32)), .val (.long (0 : Int64)), .second, .val (.long (Int64.ofNat 0)), .second] [(.int (1 : Int32))]))
            have hc47 : ¬ ((1 : Int32) = (0 : Int32)) := (by decide)
            refine go (fun _ k => XS.ifNo X34.here hx rfl (hb hby at_237) rfl ((if0 _ _).trans (feq hc47).1) k) ?_
            show G (T34.setTop (mkF m 240 #[.val (.int p1), .val (.int p2), .val (.int p3), .val (.int p4), .val (.int (1 : Int32)), .val (.int (Int32.ofNat n)), .val (.ref b1), .val (.ref b10), .val (.int (1 : Int32)), .val (.int (Int32.ofNat (n + 1))), .val (.int (0 : Int32)), .val (.long (0 : Int64)), .second, .val (.long (Int64.ofNat 0)), .second] []))
            refine go (fun _ k => XS.aload X34.here hx rfl (hb hby at_240) rfl rfl k) ?_
            show G (T34.setTop (mkF m 242 #[.val (.int p1), .val (.int p2), .val (.int p3), .val (.int p4), .val (.int (1 : Int32)), .val (.int (Int32.ofNat n)), .val (.ref b1), .val (.ref b10), .val (.int (1 : Int32)), .val (.int (Int32.ofNat (n + 1))), .val (.int (0 : Int32)), .val (.long (0 : Int64)), .second, .val (.long (Int64.ofNat 0)), .second] [(.ref b10)]))
            obtain ⟨cq48, kq48, qa48, qb48, qc48⟩ := isOf hZ rfl f37
            obtain ⟨_, _, ⟨T48, L48, k48, n48⟩, -, X48, ⟨Lc48, hQ48, l48, y48, z48⟩, st48⟩ := X34.virtualBack hx (y := (⟨"com/example/kerros/kerros/store/SortedChunks", "isEmpty", "()Z"⟩ : MethodName)) (z := (⟨"com/example/kerros/kerros/store/SortedChunks", "isEmpty", "()Z"⟩ : MethodName)) hown (mvT hZ (hw _ (List.mem_of_getElem? (i := 54) rfl))) (mvT hZ (hw _ (List.mem_of_getElem? (i := 55) rfl))) (notFace_of_selects (args := #[]) (mvT hZ (hw _ (List.mem_of_getElem? (i := 57) rfl)))) (mvT hZ (hw _ (List.mem_of_getElem? (i := 57) rfl))) (mvT hZ (hw _ (List.mem_of_getElem? (i := 56) rfl))) (by decide) (backOf (W := 0) (rm9 l Z a0 hw [] b10 ca13 ck13 kc13 (Int32.ofNat (n + 1)) T34.heap n0 Zs34 f40 f41 f45) hZ (hw _ (List.mem_of_getElem? (i := 58) rfl)) (hw _ (List.mem_of_getElem? (i := 6) rfl)) (by decide) (by decide)) qa48 qc48 (g := (mkF m 242 #[.val (.int p1), .val (.int p2), .val (.int p3), .val (.int p4), .val (.int (1 : Int32)), .val (.int (Int32.ofNat n)), .val (.ref b1), .val (.ref b10), .val (.int (1 : Int32)), .val (.int (Int32.ofNat (n + 1))), .val (.int (0 : Int32)), .val (.long (0 : Int64)), .second, .val (.long (Int64.ofNat 0)), .second] [(.ref b10)])) rfl (by rw [hml]; rfl) (Steps.refl _) (argsL := []) (rest := []) (lenOf pd_0_1 rfl) rfl (by show 2 * 0 + _ ≤ _; exact Nat.le_of_eq rfl) (hb hby at_242) (fun _ _ => ⟨rfl, rfl, (by decide : 6 + 0 ≤ _), (by decide : 36 + 0 ≤ _)⟩)
            dsimp only [Pt.U, Pt.locs, Pt.cells, Pt.slots] at X48 l48 y48 z48 st48 hQ48
            subst l48 y48 z48
            obtain ⟨rfl, N48q, e48⟩ := hQ48
            have N48 := Fr.app N34 N48q
            refine go (fun _ k => st48.trans k) ?_
            show G (T48.setTop (mkF m 245 #[.val (.int p1), .val (.int p2), .val (.int p3), .val (.int p4), .val (.int (1 : Int32)), .val (.int (Int32.ofNat n)), .val (.ref b1), .val (.ref b10), .val (.int (1 : Int32)), .val (.int (Int32.ofNat (n + 1))), .val (.int (0 : Int32)), .val (.long (0 : Int64)), .second, .val (.long (Int64.ofNat 0)), .second] [(.int (emp (Int32.ofNat (n + 1))))]))
            have hc49 : (emp (Int32.ofNat (n + 1))) = (0 : Int32) := by rw [emp, if_neg (own_onne _ (by omega) (by omega))]
            refine go (fun _ k => XS.ifNo X48.here hx rfl (hb hby at_245) rfl ((if0 _ _).trans (teq hc49).2) k) ?_
            show G (T48.setTop (mkF m 248 #[.val (.int p1), .val (.int p2), .val (.int p3), .val (.int p4), .val (.int (1 : Int32)), .val (.int (Int32.ofNat n)), .val (.ref b1), .val (.ref b10), .val (.int (1 : Int32)), .val (.int (Int32.ofNat (n + 1))), .val (.int (0 : Int32)), .val (.long (0 : Int64)), .second, .val (.long (Int64.ofNat 0)), .second] []))
            refine go (fun _ k => XS.iconst X48.here hx rfl (hb hby at_248) k) ?_
            show G (T48.setTop (mkF m 249 #[.val (.int p1), .val (.int p2), .val (.int p3), .val (.int p4), .val (.int (1 : Int32)), .val (.int (Int32.ofNat n)), .val (.ref b1), .val (.ref b10), .val (.int (1 : Int32)), .val (.int (Int32.ofNat (n + 1))), .val (.int (0 : Int32)), .val (.long (0 : Int64)), .second, .val (.long (Int64.ofNat 0)), .second] [(.int (1 : Int32))]))
            refine go (fun _ k => XS.goto X48.here hx rfl (pc0 := 249) (pc' := 253) rfl (hb hby at_249) (by decide) (by decide) k) ?_
            show G (T48.setTop (mkF m 253 #[.val (.int p1), .val (.int p2), .val (.int p3), .val (.int p4), .val (.int (1 : Int32)), .val (.int (Int32.ofNat n)), .val (.ref b1), .val (.ref b10), .val (.int (1 : Int32)), .val (.int (Int32.ofNat (n + 1))), .val (.int (0 : Int32)), .val (.long (0 : Int64)), .second, .val (.long (Int64.ofNat 0)), .second] [(.int (1 : Int32))]))
            refine go (fun _ k => XS.istore X48.here hx rfl (hb hby at_253) rfl (l' := #[.val (.int p1), .val (.int p2), .val (.int p3), .val (.int p4), .val (.int (1 : Int32)), .val (.int (Int32.ofNat n)), .val (.ref b1), .val (.ref b10), .val (.int (1 : Int32)), .val (.int (Int32.ofNat (n + 1))), .val (.int (0 : Int32)), .val (.long (0 : Int64)), .second, .val (.long (Int64.ofNat 0)), .second]) rfl k) ?_
            show G (T48.setTop (mkF m 255 #[.val (.int p1), .val (.int p2), .val (.int p3), .val (.int p4), .val (.int (1 : Int32)), .val (.int (Int32.ofNat n)), .val (.ref b1), .val (.ref b10), .val (.int (1 : Int32)), .val (.int (Int32.ofNat (n + 1))), .val (.int (0 : Int32)), .val (.long (0 : Int64)), .second, .val (.long (Int64.ofNat 0)), .second] []))
            refine go (fun _ k => XS.iloadN X48.here hx rfl (hb hby at_255) rfl k) ?_
            show G (T48.setTop (mkF m 256 #[.val (.int p1), .val (.int p2), .val (.int p3), .val (.int p4), .val (.int (1 : Int32)), .val (.int (Int32.ofNat n)), .val (.ref b1), .val (.ref b10), .val (.int (1 : Int32)), .val (.int (Int32.ofNat (n + 1))), .val (.int (0 : Int32)), .val (.long (0 : Int64)), .second, .val (.long (Int64.ofNat 0)), .second] [(.int p3)]))
            refine go (fun _ k => XS.bipush X48.here hx rfl (hb hby at_256) k) ?_
            show G (T48.setTop (mkF m 258 #[.val (.int p1), .val (.int p2), .val (.int p3), .val (.int p4), .val (.int (1 : Int32)), .val (.int (Int32.ofNat n)), .val (.ref b1), .val (.ref b10), .val (.int (1 : Int32)), .val (.int (Int32.ofNat (n + 1))), .val (.int (0 : Int32)), .val (.long (0 : Int64)), .second, .val (.long (Int64.ofNat 0)), .second] [(.int (8 : Int32)), (.int p3)]))
            refine go (fun _ k => XS.iand X48.here hx rfl (hb hby at_258) rfl k) ?_
            show G (T48.setTop (mkF m 259 #[.val (.int p1), .val (.int p2), .val (.int p3), .val (.int p4), .val (.int (1 : Int32)), .val (.int (Int32.ofNat n)), .val (.ref b1), .val (.ref b10), .val (.int (1 : Int32)), .val (.int (Int32.ofNat (n + 1))), .val (.int (0 : Int32)), .val (.long (0 : Int64)), .second, .val (.long (Int64.ofNat 0)), .second] [(.int (p3 &&& (8 : Int32)))]))
            by_cases hc259_50 : (p3 &&& (8 : Int32)) = (0 : Int32)
            · refine go (fun _ k => XS.ifYes X48.here hx rfl (pc0 := 259) (pc' := 302) rfl (hb hby at_259) rfl ((if0 _ _).trans (teq hc259_50).1) (by decide) (by decide) k) ?_
              show G (T48.setTop (mkF m 302 #[.val (.int p1), .val (.int p2), .val (.int p3), .val (.int p4), .val (.int (1 : Int32)), .val (.int (Int32.ofNat n)), .val (.ref b1), .val (.ref b10), .val (.int (1 : Int32)), .val (.int (Int32.ofNat (n + 1))), .val (.int (0 : Int32)), .val (.long (0 : Int64)), .second, .val (.long (Int64.ofNat 0)), .second] []))
              refine go (fun _ k => XS.iload X48.here hx rfl (hb hby at_302) rfl k) ?_
              show G (T48.setTop (mkF m 304 #[.val (.int p1), .val (.int p2), .val (.int p3), .val (.int p4), .val (.int (1 : Int32)), .val (.int (Int32.ofNat n)), .val (.ref b1), .val (.ref b10), .val (.int (1 : Int32)), .val (.int (Int32.ofNat (n + 1))), .val (.int (0 : Int32)), .val (.long (0 : Int64)), .second, .val (.long (Int64.ofNat 0)), .second] [(.int (1 : Int32))]))
              rw [hG]
              refine own_fin X48 Bd.notSynchronized (v := some (.int (1 : Int32))) (fun h => by rw [Bd.returns] at h; cases h) (fun fs hr => retOut X48 hx Bd.returns rfl (by simp [FieldType.isReference, Value.isRef]) (hb hby at_304) hr) ?_ (by decide) (by decide)
              show Q0 Z p1 p2 p3 p4 h0 n0 (some (.int (1 : Int32))) T48.heap _
              rw [e48]
              exact ⟨rfl, N48⟩
            · refine go (fun _ k => XS.ifNo X48.here hx rfl (hb hby at_259) rfl ((if0 _ _).trans (feq hc259_50).1) k) ?_
              show G (T48.setTop (mkF m 262 #[.val (.int p1), .val (.int p2), .val (.int p3), .val (.int p4), .val (.int (1 : Int32)), .val (.int (Int32.ofNat n)), .val (.ref b1), .val (.ref b10), .val (.int (1 : Int32)), .val (.int (Int32.ofNat (n + 1))), .val (.int (0 : Int32)), .val (.long (0 : Int64)), .second, .val (.long (Int64.ofNat 0)), .second] []))
              refine go (fun _ k => XS.aload X48.here hx rfl (hb hby at_262) rfl rfl k) ?_
              show G (T48.setTop (mkF m 264 #[.val (.int p1), .val (.int p2), .val (.int p3), .val (.int p4), .val (.int (1 : Int32)), .val (.int (Int32.ofNat n)), .val (.ref b1), .val (.ref b10), .val (.int (1 : Int32)), .val (.int (Int32.ofNat (n + 1))), .val (.int (0 : Int32)), .val (.long (0 : Int64)), .second, .val (.long (Int64.ofNat 0)), .second] [(.ref b10)]))
              refine go (fun _ k => XS.lload X48.here hx rfl (hb hby at_264) rfl k) ?_
              show G (T48.setTop (mkF m 266 #[.val (.int p1), .val (.int p2), .val (.int p3), .val (.int p4), .val (.int (1 : Int32)), .val (.int (Int32.ofNat n)), .val (.ref b1), .val (.ref b10), .val (.int (1 : Int32)), .val (.int (Int32.ofNat (n + 1))), .val (.int (0 : Int32)), .val (.long (0 : Int64)), .second, .val (.long (Int64.ofNat 0)), .second] [(.long (Int64.ofNat 0)), (.ref b10)]))
              obtain ⟨cq51, kq51, qa51, qb51, qc51⟩ := isOf hZ e48 f37
              obtain ⟨_, _, ⟨T51, L51, k51, n51⟩, -, X51, ⟨Lc51, hQ51, l51, y51, z51⟩, st51⟩ := X48.virtualBack hx (y := (⟨"com/example/kerros/kerros/store/SortedChunks", "remove", "(J)V"⟩ : MethodName)) (z := (⟨"com/example/kerros/kerros/store/SortedChunks", "remove", "(J)V"⟩ : MethodName)) hown (mvT hZ (hw _ (List.mem_of_getElem? (i := 101) rfl))) (mvT hZ (hw _ (List.mem_of_getElem? (i := 102) rfl))) (notFace_of_selects (args := #[]) (mvT hZ (hw _ (List.mem_of_getElem? (i := 104) rfl)))) (mvT hZ (hw _ (List.mem_of_getElem? (i := 104) rfl))) (mvT hZ (hw _ (List.mem_of_getElem? (i := 103) rfl))) (by decide) (backOf (W := 0) (rm17w1 l Z a0 hw [] b10 0 ca13 ck13 wx23 kc13 kx23 (n + 1) dx23 T34.heap n0 Zs34 f38 f39 f40 f41 f42 f44 f45 c34_0 f46 ne_b10_ck13 ne_b10_wx23 c13_3 ne_ca13_wx23 ne_ck13_wx23 g_ck13 g_wx23 (by omega) (by omega) (by omega)) hZ (hw _ (List.mem_of_getElem? (i := 105) rfl)) (hw _ (List.mem_of_getElem? (i := 6) rfl)) (by decide) (by decide)) qa51 qc51 (g := (mkF m 266 #[.val (.int p1), .val (.int p2), .val (.int p3), .val (.int p4), .val (.int (1 : Int32)), .val (.int (Int32.ofNat n)), .val (.ref b1), .val (.ref b10), .val (.int (1 : Int32)), .val (.int (Int32.ofNat (n + 1))), .val (.int (0 : Int32)), .val (.long (0 : Int64)), .second, .val (.long (Int64.ofNat 0)), .second] [(.long (Int64.ofNat 0)), (.ref b10)])) rfl (by rw [hml]; rfl) (Steps.refl _) (argsL := [(.long (Int64.ofNat 0))]) (rest := []) (lenOf pd_0_4 rfl) rfl (by show 2 * 0 + _ ≤ _; exact Nat.le_of_eq rfl) (hb hby at_266) (fun _ _ => ⟨rfl, e48, (by decide : 6 + 0 ≤ _), (by decide : 36 + 0 ≤ _)⟩)
              dsimp only [Pt.U, Pt.locs, Pt.cells, Pt.slots] at X51 l51 y51 z51 st51 hQ51
              subst l51 y51 z51
              obtain ⟨rfl, N51q, Kc51, c51_0, c51_1, c51_2⟩ := hQ51
              have f52 := f35.keep Kc51
              have f53 := f36.keep Kc51 (ninS ne_b1_ck13 (ninS ne_b1_wx23 nin0))
              have f54 := f37.keep Kc51
              have f55 := f38.keep Kc51 (ninS ne_b10_ck13 (ninS ne_b10_wx23 nin0))
              have f56 := f39.keep Kc51 (ninS ne_b10_ck13 (ninS ne_b10_wx23 nin0))
              have f57 := f40.keep Kc51 (ninS ne_b10_ck13 (ninS ne_b10_wx23 nin0))
              have f58 := f41.keep Kc51 (ninS c13_3 (ninS ne_ca13_wx23 nin0))
              have f59 := f42.keep Kc51
              have f60 := f43.keep Kc51
              have f61 := f46.keep Kc51
              have Zs51 : n0 ≤ T51.heap.size := Nat.le_trans Zs34 Kc51.1
              have N51 := Fr.app N48 N51q
              refine go (fun _ k => st51.trans k) ?_
              show G (T51.setTop (mkF m 269 #[.val (.int p1), .val (.int p2), .val (.int p3), .val (.int p4), .val (.int (1 : Int32)), .val (.int (Int32.ofNat n)), .val (.ref b1), .val (.ref b10), .val (.int (1 : Int32)), .val (.int (Int32.ofNat (n + 1))), .val (.int (0 : Int32)), .val (.long (0 : Int64)), .second, .val (.long (Int64.ofNat 0)), .second] []))
              refine go (fun _ k => XS.iinc X51.here hx rfl (hb hby at_269) rfl (l' := #[.val (.int p1), .val (.int p2), .val (.int p3), .val (.int p4), .val (.int (1 : Int32)), .val (.int (Int32.ofNat n)), .val (.ref b1), .val (.ref b10), .val (.int (1 : Int32)), .val (.int ((Int32.ofNat (n + 1)) + (-1 : Int32))), .val (.int (0 : Int32)), .val (.long (0 : Int64)), .second, .val (.long (Int64.ofNat 0)), .second]) rfl k) ?_
              show G (T51.setTop (mkF m 272 #[.val (.int p1), .val (.int p2), .val (.int p3), .val (.int p4), .val (.int (1 : Int32)), .val (.int (Int32.ofNat n)), .val (.ref b1), .val (.ref b10), .val (.int (1 : Int32)), .val (.int ((Int32.ofNat (n + 1)) + (-1 : Int32))), .val (.int (0 : Int32)), .val (.long (0 : Int64)), .second, .val (.long (Int64.ofNat 0)), .second] []))
              rw [show ((Int32.ofNat (n + 1)) + (-1 : Int32)) = (Int32.ofNat ((n + 1) - 1)) from own_ondec (n + 1) (by omega)]
              show G (T51.setTop (mkF m 272 #[.val (.int p1), .val (.int p2), .val (.int p3), .val (.int p4), .val (.int (1 : Int32)), .val (.int (Int32.ofNat n)), .val (.ref b1), .val (.ref b10), .val (.int (1 : Int32)), .val (.int (Int32.ofNat ((n + 1) - 1))), .val (.int (0 : Int32)), .val (.long (0 : Int64)), .second, .val (.long (Int64.ofNat 0)), .second] []))
              refine go (fun _ k => XS.iload X51.here hx rfl (hb hby at_272) rfl k) ?_
              show G (T51.setTop (mkF m 274 #[.val (.int p1), .val (.int p2), .val (.int p3), .val (.int p4), .val (.int (1 : Int32)), .val (.int (Int32.ofNat n)), .val (.ref b1), .val (.ref b10), .val (.int (1 : Int32)), .val (.int (Int32.ofNat ((n + 1) - 1))), .val (.int (0 : Int32)), .val (.long (0 : Int64)), .second, .val (.long (Int64.ofNat 0)), .second] [(.int (1 : Int32))]))
              have hc62 : ¬ ((1 : Int32) = (0 : Int32)) := (by decide)
              refine go (fun _ k => XS.ifNo X51.here hx rfl (hb hby at_274) rfl ((if0 _ _).trans (feq hc62).1) k) ?_
              show G (T51.setTop (mkF m 277 #[.val (.int p1), .val (.int p2), .val (.int p3), .val (.int p4), .val (.int (1 : Int32)), .val (.int (Int32.ofNat n)), .val (.ref b1), .val (.ref b10), .val (.int (1 : Int32)), .val (.int (Int32.ofNat ((n + 1) - 1))), .val (.int (0 : Int32)), .val (.long (0 : Int64)), .second, .val (.long (Int64.ofNat 0)), .second] []))
              refine go (fun _ k => XS.aload X51.here hx rfl (hb hby at_277) rfl rfl k) ?_
              show G (T51.setTop (mkF m 279 #[.val (.int p1), .val (.int p2), .val (.int p3), .val (.int p4), .val (.int (1 : Int32)), .val (.int (Int32.ofNat n)), .val (.ref b1), .val (.ref b10), .val (.int (1 : Int32)), .val (.int (Int32.ofNat ((n + 1) - 1))), .val (.int (0 : Int32)), .val (.long (0 : Int64)), .second, .val (.long (Int64.ofNat 0)), .second] [(.ref b10)]))
              obtain ⟨cq63, kq63, qa63, qb63, qc63⟩ := isOf hZ rfl f54
              obtain ⟨_, _, ⟨T63, L63, k63, n63⟩, -, X63, ⟨Lc63, hQ63, l63, y63, z63⟩, st63⟩ := X51.virtualBack hx (y := (⟨"com/example/kerros/kerros/store/SortedChunks", "isEmpty", "()Z"⟩ : MethodName)) (z := (⟨"com/example/kerros/kerros/store/SortedChunks", "isEmpty", "()Z"⟩ : MethodName)) hown (mvT hZ (hw _ (List.mem_of_getElem? (i := 54) rfl))) (mvT hZ (hw _ (List.mem_of_getElem? (i := 55) rfl))) (notFace_of_selects (args := #[]) (mvT hZ (hw _ (List.mem_of_getElem? (i := 57) rfl)))) (mvT hZ (hw _ (List.mem_of_getElem? (i := 57) rfl))) (mvT hZ (hw _ (List.mem_of_getElem? (i := 56) rfl))) (by decide) (backOf (W := 0) (rm9 l Z a0 hw [] b10 ca13 ck13 kc13 (Int32.ofNat ((n + 1) - 1)) T51.heap n0 Zs51 f57 f58 c51_1) hZ (hw _ (List.mem_of_getElem? (i := 58) rfl)) (hw _ (List.mem_of_getElem? (i := 6) rfl)) (by decide) (by decide)) qa63 qc63 (g := (mkF m 279 #[.val (.int p1), .val (.int p2), .val (.int p3), .val (.int p4), .val (.int (1 : Int32)), .val (.int (Int32.ofNat n)), .val (.ref b1), .val (.ref b10), .val (.int (1 : Int32)), .val (.int (Int32.ofNat ((n + 1) - 1))), .val (.int (0 : Int32)), .val (.long (0 : Int64)), .second, .val (.long (Int64.ofNat 0)), .second] [(.ref b10)])) rfl (by rw [hml]; rfl) (Steps.refl _) (argsL := []) (rest := []) (lenOf pd_0_1 rfl) rfl (by show 2 * 0 + _ ≤ _; exact Nat.le_of_eq rfl) (hb hby at_279) (fun _ _ => ⟨rfl, rfl, (by decide : 6 + 0 ≤ _), (by decide : 36 + 0 ≤ _)⟩)
              dsimp only [Pt.U, Pt.locs, Pt.cells, Pt.slots] at X63 l63 y63 z63 st63 hQ63
              subst l63 y63 z63
              obtain ⟨rfl, N63q, e63⟩ := hQ63
              have N63 := Fr.app N51 N63q
              refine go (fun _ k => st63.trans k) ?_
              show G (T63.setTop (mkF m 282 #[.val (.int p1), .val (.int p2), .val (.int p3), .val (.int p4), .val (.int (1 : Int32)), .val (.int (Int32.ofNat n)), .val (.ref b1), .val (.ref b10), .val (.int (1 : Int32)), .val (.int (Int32.ofNat ((n + 1) - 1))), .val (.int (0 : Int32)), .val (.long (0 : Int64)), .second, .val (.long (Int64.ofNat 0)), .second] [(.int (emp (Int32.ofNat ((n + 1) - 1))))]))
              have J300_64 : G (T63.setTop (mkF m 300 #[.val (.int p1), .val (.int p2), .val (.int p3), .val (.int p4), .val (.int (1 : Int32)), .val (.int (Int32.ofNat n)), .val (.ref b1), .val (.ref b10), .val (.int (1 : Int32)), .val (.int (Int32.ofNat ((n + 1) - 1))), .val (.int (0 : Int32)), .val (.long (0 : Int64)), .second, .val (.long (Int64.ofNat 0)), .second] [(.int (1 : Int32))])) := by
                refine go (fun _ k => XS.istore X63.here hx rfl (hb hby at_300) rfl (l' := #[.val (.int p1), .val (.int p2), .val (.int p3), .val (.int p4), .val (.int (1 : Int32)), .val (.int (Int32.ofNat n)), .val (.ref b1), .val (.ref b10), .val (.int (1 : Int32)), .val (.int (Int32.ofNat ((n + 1) - 1))), .val (.int (0 : Int32)), .val (.long (0 : Int64)), .second, .val (.long (Int64.ofNat 0)), .second]) rfl k) ?_
                show G (T63.setTop (mkF m 302 #[.val (.int p1), .val (.int p2), .val (.int p3), .val (.int p4), .val (.int (1 : Int32)), .val (.int (Int32.ofNat n)), .val (.ref b1), .val (.ref b10), .val (.int (1 : Int32)), .val (.int (Int32.ofNat ((n + 1) - 1))), .val (.int (0 : Int32)), .val (.long (0 : Int64)), .second, .val (.long (Int64.ofNat 0)), .second] []))
                refine go (fun _ k => XS.iload X63.here hx rfl (hb hby at_302) rfl k) ?_
                show G (T63.setTop (mkF m 304 #[.val (.int p1), .val (.int p2), .val (.int p3), .val (.int p4), .val (.int (1 : Int32)), .val (.int (Int32.ofNat n)), .val (.ref b1), .val (.ref b10), .val (.int (1 : Int32)), .val (.int (Int32.ofNat ((n + 1) - 1))), .val (.int (0 : Int32)), .val (.long (0 : Int64)), .second, .val (.long (Int64.ofNat 0)), .second] [(.int (1 : Int32))]))
                rw [hG]
                refine own_fin X63 Bd.notSynchronized (v := some (.int (1 : Int32))) (fun h => by rw [Bd.returns] at h; cases h) (fun fs hr => retOut X63 hx Bd.returns rfl (by simp [FieldType.isReference, Value.isRef]) (hb hby at_304) hr) ?_ (by decide) (by decide)
                show Q0 Z p1 p2 p3 p4 h0 n0 (some (.int (1 : Int32))) T63.heap _
                rw [e63]
                exact ⟨rfl, N63⟩
              show G (T63.setTop (mkF m 282 #[.val (.int p1), .val (.int p2), .val (.int p3), .val (.int p4), .val (.int (1 : Int32)), .val (.int (Int32.ofNat n)), .val (.ref b1), .val (.ref b10), .val (.int (1 : Int32)), .val (.int (Int32.ofNat ((n + 1) - 1))), .val (.int (0 : Int32)), .val (.long (0 : Int64)), .second, .val (.long (Int64.ofNat 0)), .second] [(.int (emp (Int32.ofNat ((n + 1) - 1))))]))
              refine go (fun _ k => XS.iload X63.here hx rfl (hb hby at_282) rfl k) ?_
              show G (T63.setTop (mkF m 284 #[.val (.int p1), .val (.int p2), .val (.int p3), .val (.int p4), .val (.int (1 : Int32)), .val (.int (Int32.ofNat n)), .val (.ref b1), .val (.ref b10), .val (.int (1 : Int32)), .val (.int (Int32.ofNat ((n + 1) - 1))), .val (.int (0 : Int32)), .val (.long (0 : Int64)), .second, .val (.long (Int64.ofNat 0)), .second] [(.int (Int32.ofNat ((n + 1) - 1))), (.int (emp (Int32.ofNat ((n + 1) - 1))))]))
              by_cases hc284_65 : (Int32.ofNat ((n + 1) - 1)) = (0 : Int32)
              · refine go (fun _ k => XS.ifNo X63.here hx rfl (hb hby at_284) rfl ((if0 _ _).trans (teq hc284_65).2) k) ?_
                show G (T63.setTop (mkF m 287 #[.val (.int p1), .val (.int p2), .val (.int p3), .val (.int p4), .val (.int (1 : Int32)), .val (.int (Int32.ofNat n)), .val (.ref b1), .val (.ref b10), .val (.int (1 : Int32)), .val (.int (Int32.ofNat ((n + 1) - 1))), .val (.int (0 : Int32)), .val (.long (0 : Int64)), .second, .val (.long (Int64.ofNat 0)), .second] [(.int (emp (Int32.ofNat ((n + 1) - 1))))]))
                refine go (fun _ k => XS.iconst X63.here hx rfl (hb hby at_287) k) ?_
                show G (T63.setTop (mkF m 288 #[.val (.int p1), .val (.int p2), .val (.int p3), .val (.int p4), .val (.int (1 : Int32)), .val (.int (Int32.ofNat n)), .val (.ref b1), .val (.ref b10), .val (.int (1 : Int32)), .val (.int (Int32.ofNat ((n + 1) - 1))), .val (.int (0 : Int32)), .val (.long (0 : Int64)), .second, .val (.long (Int64.ofNat 0)), .second] [(.int (1 : Int32)), (.int (emp (Int32.ofNat ((n + 1) - 1))))]))
                refine go (fun _ k => XS.goto X63.here hx rfl (pc0 := 288) (pc' := 292) rfl (hb hby at_288) (by decide) (by decide) k) ?_
                show G (T63.setTop (mkF m 292 #[.val (.int p1), .val (.int p2), .val (.int p3), .val (.int p4), .val (.int (1 : Int32)), .val (.int (Int32.ofNat n)), .val (.ref b1), .val (.ref b10), .val (.int (1 : Int32)), .val (.int (Int32.ofNat ((n + 1) - 1))), .val (.int (0 : Int32)), .val (.long (0 : Int64)), .second, .val (.long (Int64.ofNat 0)), .second] [(.int (1 : Int32)), (.int (emp (Int32.ofNat ((n + 1) - 1))))]))
                have hc66 : (emp (Int32.ofNat ((n + 1) - 1))) = (1 : Int32) := by rw [emp, if_pos hc284_65]
                refine go (fun _ k => XS.icmpNo X63.here hx rfl (hb hby at_292) rfl (teq hc66).2 k) ?_
                show G (T63.setTop (mkF m 295 #[.val (.int p1), .val (.int p2), .val (.int p3), .val (.int p4), .val (.int (1 : Int32)), .val (.int (Int32.ofNat n)), .val (.ref b1), .val (.ref b10), .val (.int (1 : Int32)), .val (.int (Int32.ofNat ((n + 1) - 1))), .val (.int (0 : Int32)), .val (.long (0 : Int64)), .second, .val (.long (Int64.ofNat 0)), .second] []))
                refine go (fun _ k => XS.iconst X63.here hx rfl (hb hby at_295) k) ?_
                show G (T63.setTop (mkF m 296 #[.val (.int p1), .val (.int p2), .val (.int p3), .val (.int p4), .val (.int (1 : Int32)), .val (.int (Int32.ofNat n)), .val (.ref b1), .val (.ref b10), .val (.int (1 : Int32)), .val (.int (Int32.ofNat ((n + 1) - 1))), .val (.int (0 : Int32)), .val (.long (0 : Int64)), .second, .val (.long (Int64.ofNat 0)), .second] [(.int (1 : Int32))]))
                refine go (fun _ k => XS.goto X63.here hx rfl (pc0 := 296) (pc' := 300) rfl (hb hby at_296) (by decide) (by decide) k) ?_
                show G (T63.setTop (mkF m 300 #[.val (.int p1), .val (.int p2), .val (.int p3), .val (.int p4), .val (.int (1 : Int32)), .val (.int (Int32.ofNat n)), .val (.ref b1), .val (.ref b10), .val (.int (1 : Int32)), .val (.int (Int32.ofNat ((n + 1) - 1))), .val (.int (0 : Int32)), .val (.long (0 : Int64)), .second, .val (.long (Int64.ofNat 0)), .second] [(.int (1 : Int32))]))
                exact J300_64
              · refine go (fun _ k => XS.ifYes X63.here hx rfl (pc0 := 284) (pc' := 291) rfl (hb hby at_284) rfl ((if0 _ _).trans (feq hc284_65).2) (by decide) (by decide) k) ?_
                show G (T63.setTop (mkF m 291 #[.val (.int p1), .val (.int p2), .val (.int p3), .val (.int p4), .val (.int (1 : Int32)), .val (.int (Int32.ofNat n)), .val (.ref b1), .val (.ref b10), .val (.int (1 : Int32)), .val (.int (Int32.ofNat ((n + 1) - 1))), .val (.int (0 : Int32)), .val (.long (0 : Int64)), .second, .val (.long (Int64.ofNat 0)), .second] [(.int (emp (Int32.ofNat ((n + 1) - 1))))]))
                refine go (fun _ k => XS.iconst X63.here hx rfl (hb hby at_291) k) ?_
                show G (T63.setTop (mkF m 292 #[.val (.int p1), .val (.int p2), .val (.int p3), .val (.int p4), .val (.int (1 : Int32)), .val (.int (Int32.ofNat n)), .val (.ref b1), .val (.ref b10), .val (.int (1 : Int32)), .val (.int (Int32.ofNat ((n + 1) - 1))), .val (.int (0 : Int32)), .val (.long (0 : Int64)), .second, .val (.long (Int64.ofNat 0)), .second] [(.int (0 : Int32)), (.int (emp (Int32.ofNat ((n + 1) - 1))))]))
                have hc67 : (emp (Int32.ofNat ((n + 1) - 1))) = (0 : Int32) := by rw [emp, if_neg hc284_65]
                refine go (fun _ k => XS.icmpNo X63.here hx rfl (hb hby at_292) rfl (teq hc67).2 k) ?_
                show G (T63.setTop (mkF m 295 #[.val (.int p1), .val (.int p2), .val (.int p3), .val (.int p4), .val (.int (1 : Int32)), .val (.int (Int32.ofNat n)), .val (.ref b1), .val (.ref b10), .val (.int (1 : Int32)), .val (.int (Int32.ofNat ((n + 1) - 1))), .val (.int (0 : Int32)), .val (.long (0 : Int64)), .second, .val (.long (Int64.ofNat 0)), .second] []))
                refine go (fun _ k => XS.iconst X63.here hx rfl (hb hby at_295) k) ?_
                show G (T63.setTop (mkF m 296 #[.val (.int p1), .val (.int p2), .val (.int p3), .val (.int p4), .val (.int (1 : Int32)), .val (.int (Int32.ofNat n)), .val (.ref b1), .val (.ref b10), .val (.int (1 : Int32)), .val (.int (Int32.ofNat ((n + 1) - 1))), .val (.int (0 : Int32)), .val (.long (0 : Int64)), .second, .val (.long (Int64.ofNat 0)), .second] [(.int (1 : Int32))]))
                refine go (fun _ k => XS.goto X63.here hx rfl (pc0 := 296) (pc' := 300) rfl (hb hby at_296) (by decide) (by decide) k) ?_
                show G (T63.setTop (mkF m 300 #[.val (.int p1), .val (.int p2), .val (.int p3), .val (.int p4), .val (.int (1 : Int32)), .val (.int (Int32.ofNat n)), .val (.ref b1), .val (.ref b10), .val (.int (1 : Int32)), .val (.int (Int32.ofNat ((n + 1) - 1))), .val (.int (0 : Int32)), .val (.long (0 : Int64)), .second, .val (.long (Int64.ofNat 0)), .second] [(.int (1 : Int32))]))
                exact J300_64
          · refine go (fun _ k => XS.ifNo X17.here hx rfl (hb hby at_177) rfl ((if0 _ _).trans (feq hc177_21).1) k) ?_
            show G (T17.setTop (mkF m 180 #[.val (.int p1), .val (.int p2), .val (.int p3), .val (.int p4), .val (.int (1 : Int32)), .val (.int (Int32.ofNat n)), .val (.ref b1), .val (.ref b10), .val (.int (1 : Int32)), .val (.int (Int32.ofNat n)), .unset, .unset, .unset, .unset, .unset] []))
            refine go (fun _ k => XS.iconst X17.here hx rfl (hb hby at_180) k) ?_
            show G (T17.setTop (mkF m 181 #[.val (.int p1), .val (.int p2), .val (.int p3), .val (.int p4), .val (.int (1 : Int32)), .val (.int (Int32.ofNat n)), .val (.ref b1), .val (.ref b10), .val (.int (1 : Int32)), .val (.int (Int32.ofNat n)), .unset, .unset, .unset, .unset, .unset] [(.int (1 : Int32))]))
            refine go (fun _ k => XS.goto X17.here hx rfl (pc0 := 181) (pc' := 185) rfl (hb hby at_181) (by decide) (by decide) k) ?_
            show G (T17.setTop (mkF m 185 #[.val (.int p1), .val (.int p2), .val (.int p3), .val (.int p4), .val (.int (1 : Int32)), .val (.int (Int32.ofNat n)), .val (.ref b1), .val (.ref b10), .val (.int (1 : Int32)), .val (.int (Int32.ofNat n)), .unset, .unset, .unset, .unset, .unset] [(.int (1 : Int32))]))
            refine go (fun _ k => XS.istore X17.here hx rfl (hb hby at_185) rfl (l' := #[.val (.int p1), .val (.int p2), .val (.int p3), .val (.int p4), .val (.int (1 : Int32)), .val (.int (Int32.ofNat n)), .val (.ref b1), .val (.ref b10), .val (.int (1 : Int32)), .val (.int (Int32.ofNat n)), .val (.int (1 : Int32)), .unset, .unset, .unset, .unset]) rfl k) ?_
            show G (T17.setTop (mkF m 187 #[.val (.int p1), .val (.int p2), .val (.int p3), .val (.int p4), .val (.int (1 : Int32)), .val (.int (Int32.ofNat n)), .val (.ref b1), .val (.ref b10), .val (.int (1 : Int32)), .val (.int (Int32.ofNat n)), .val (.int (1 : Int32)), .unset, .unset, .unset, .unset] []))
            refine go (fun _ k => XS.iload X17.here hx rfl (hb hby at_187) rfl k) ?_
            show G (T17.setTop (mkF m 189 #[.val (.int p1), .val (.int p2), .val (.int p3), .val (.int p4), .val (.int (1 : Int32)), .val (.int (Int32.ofNat n)), .val (.ref b1), .val (.ref b10), .val (.int (1 : Int32)), .val (.int (Int32.ofNat n)), .val (.int (1 : Int32)), .unset, .unset, .unset, .unset] [(.int (1 : Int32))]))
            have hc68 : ¬ ((1 : Int32) = (0 : Int32)) := (by decide)
            refine go (fun _ k => XS.ifNo X17.here hx rfl (hb hby at_189) rfl ((if0 _ _).trans (feq hc68).1) k) ?_
            show G (T17.setTop (mkF m 192 #[.val (.int p1), .val (.int p2), .val (.int p3), .val (.int p4), .val (.int (1 : Int32)), .val (.int (Int32.ofNat n)), .val (.ref b1), .val (.ref b10), .val (.int (1 : Int32)), .val (.int (Int32.ofNat n)), .val (.int (1 : Int32)), .unset, .unset, .unset, .unset] []))
            refine go (fun _ k => XS.iload X17.here hx rfl (hb hby at_192) rfl k) ?_
            show G (T17.setTop (mkF m 194 #[.val (.int p1), .val (.int p2), .val (.int p3), .val (.int p4), .val (.int (1 : Int32)), .val (.int (Int32.ofNat n)), .val (.ref b1), .val (.ref b10), .val (.int (1 : Int32)), .val (.int (Int32.ofNat n)), .val (.int (1 : Int32)), .unset, .unset, .unset, .unset] [(.int (Int32.ofNat n))]))
            refine go (fun _ k => XS.i2l X17.here hx rfl (hb hby at_194) rfl k) ?_
            show G (T17.setTop (mkF m 195 #[.val (.int p1), .val (.int p2), .val (.int p3), .val (.int p4), .val (.int (1 : Int32)), .val (.int (Int32.ofNat n)), .val (.ref b1), .val (.ref b10), .val (.int (1 : Int32)), .val (.int (Int32.ofNat n)), .val (.int (1 : Int32)), .unset, .unset, .unset, .unset] [(.long ((Int32.ofNat n).toInt64))]))
            rw [show ((Int32.ofNat n).toInt64) = (Int64.ofNat n) from own_i2l n (by omega)]
            show G (T17.setTop (mkF m 195 #[.val (.int p1), .val (.int p2), .val (.int p3), .val (.int p4), .val (.int (1 : Int32)), .val (.int (Int32.ofNat n)), .val (.ref b1), .val (.ref b10), .val (.int (1 : Int32)), .val (.int (Int32.ofNat n)), .val (.int (1 : Int32)), .unset, .unset, .unset, .unset] [(.long (Int64.ofNat n))]))
            refine go (fun _ k => XS.goto X17.here hx rfl (pc0 := 195) (pc' := 199) rfl (hb hby at_195) (by decide) (by decide) k) ?_
            show G (T17.setTop (mkF m 199 #[.val (.int p1), .val (.int p2), .val (.int p3), .val (.int p4), .val (.int (1 : Int32)), .val (.int (Int32.ofNat n)), .val (.ref b1), .val (.ref b10), .val (.int (1 : Int32)), .val (.int (Int32.ofNat n)), .val (.int (1 : Int32)), .unset, .unset, .unset, .unset] [(.long (Int64.ofNat n))]))
            refine go (fun _ k => XS.lstore X17.here hx rfl (hb hby at_199) rfl (l' := #[.val (.int p1), .val (.int p2), .val (.int p3), .val (.int p4), .val (.int (1 : Int32)), .val (.int (Int32.ofNat n)), .val (.ref b1), .val (.ref b10), .val (.int (1 : Int32)), .val (.int (Int32.ofNat n)), .val (.int (1 : Int32)), .val (.long (Int64.ofNat n)), .second, .unset, .unset]) rfl k) ?_
            show G (T17.setTop (mkF m 201 #[.val (.int p1), .val (.int p2), .val (.int p3), .val (.int p4), .val (.int (1 : Int32)), .val (.int (Int32.ofNat n)), .val (.ref b1), .val (.ref b10), .val (.int (1 : Int32)), .val (.int (Int32.ofNat n)), .val (.int (1 : Int32)), .val (.long (Int64.ofNat n)), .second, .unset, .unset] []))
            refine go (fun _ k => XS.aload X17.here hx rfl (hb hby at_201) rfl rfl k) ?_
            show G (T17.setTop (mkF m 203 #[.val (.int p1), .val (.int p2), .val (.int p3), .val (.int p4), .val (.int (1 : Int32)), .val (.int (Int32.ofNat n)), .val (.ref b1), .val (.ref b10), .val (.int (1 : Int32)), .val (.int (Int32.ofNat n)), .val (.int (1 : Int32)), .val (.long (Int64.ofNat n)), .second, .unset, .unset] [(.ref b10)]))
            refine go (fun _ k => XS.lload X17.here hx rfl (hb hby at_203) rfl k) ?_
            show G (T17.setTop (mkF m 205 #[.val (.int p1), .val (.int p2), .val (.int p3), .val (.int p4), .val (.int (1 : Int32)), .val (.int (Int32.ofNat n)), .val (.ref b1), .val (.ref b10), .val (.int (1 : Int32)), .val (.int (Int32.ofNat n)), .val (.int (1 : Int32)), .val (.long (Int64.ofNat n)), .second, .unset, .unset] [(.long (Int64.ofNat n)), (.ref b10)]))
            obtain ⟨cq69, kq69, qa69, qb69, qc69⟩ := isOf hZ e17 f16
            obtain ⟨_, _, ⟨T69, L69, k69, n69⟩, -, X69, ⟨Lc69, hQ69, l69, y69, z69⟩, st69⟩ := X17.virtualBack hx (y := (⟨"com/example/kerros/kerros/store/SortedChunks", "insert", "(J)J"⟩ : MethodName)) (z := (⟨"com/example/kerros/kerros/store/SortedChunks", "insert", "(J)J"⟩ : MethodName)) hown (mvT hZ (hw _ (List.mem_of_getElem? (i := 60) rfl))) (mvT hZ (hw _ (List.mem_of_getElem? (i := 61) rfl))) (notFace_of_selects (args := #[]) (mvT hZ (hw _ (List.mem_of_getElem? (i := 63) rfl)))) (mvT hZ (hw _ (List.mem_of_getElem? (i := 63) rfl))) (mvT hZ (hw _ (List.mem_of_getElem? (i := 62) rfl))) (by decide) (backOf (W := 0) (rm10w1 l Z a0 hw [] b10 n ca13 ck13 wa13 kc13 kw13 n cb13 T13.heap n0 Zs13 c13_6 c13_7 c13_8 c13_9 c13_10 c13_11 c13_12 c13_13 c13_14 ne_b10_ck13 ne_b10_wa13 c13_3 c13_4 c13_5 g_ck13 g_wa13 (by omega) (by omega) (by omega) (by omega)) hZ (hw _ (List.mem_of_getElem? (i := 64) rfl)) (hw _ (List.mem_of_getElem? (i := 6) rfl)) (by decide) (by decide)) qa69 qc69 (g := (mkF m 205 #[.val (.int p1), .val (.int p2), .val (.int p3), .val (.int p4), .val (.int (1 : Int32)), .val (.int (Int32.ofNat n)), .val (.ref b1), .val (.ref b10), .val (.int (1 : Int32)), .val (.int (Int32.ofNat n)), .val (.int (1 : Int32)), .val (.long (Int64.ofNat n)), .second, .unset, .unset] [(.long (Int64.ofNat n)), (.ref b10)])) rfl (by rw [hml]; rfl) (Steps.refl _) (argsL := [(.long (Int64.ofNat n))]) (rest := []) (lenOf pd_0_2 rfl) rfl (by show 2 * 0 + _ ≤ _; exact Nat.le_of_eq rfl) (hb hby at_205) (fun _ _ => ⟨rfl, e17, (by decide : 5 + 1 ≤ _), (by decide : 24 + 12 ≤ _)⟩)
            dsimp only [Pt.U, Pt.locs, Pt.cells, Pt.slots] at X69 l69 y69 z69 st69 hQ69
            subst l69 y69 z69
            obtain ⟨wx69, kx69, dx69, rfl, N69q, Kc69, c69_0, c69_1, c69_2, c69_3, c69_4, c69_5, c69_6⟩ := hQ69
            have ne_b1_wx69 : b1 ≠ wx69 := c69_0.elim (fun q => by rw [q]; exact ne_b1_wa13) (fun q => Nat.ne_of_lt (Nat.lt_of_lt_of_le f14.lt q))
            have ne_b10_wx69 : b10 ≠ wx69 := c69_0.elim (fun q => by rw [q]; exact ne_b10_wa13) (fun q => Nat.ne_of_lt (Nat.lt_of_lt_of_le f16.lt q))
            have ne_ca13_wx69 : ca13 ≠ wx69 := c69_0.elim (fun q => by rw [q]; exact c13_4) (fun q => Nat.ne_of_lt (Nat.lt_of_lt_of_le c13_9.lt q))
            have ne_ck13_wx69 : ck13 ≠ wx69 := c69_0.elim (fun q => by rw [q]; exact c13_5) (fun q => Nat.ne_of_lt (Nat.lt_of_lt_of_le c13_10.lt q))
            have g_wx69 : n0 ≤ wx69 := c69_0.elim (fun q => by rw [q]; exact g_wa13) (fun q => Nat.le_trans Zs13 q)
            have f70 := f14.keep Kc69
            have f71 := f15.keep Kc69 (ninS ne_b1_ck13 (ninS ne_b1_wa13 nin0))
            have f72 := f16.keep Kc69
            have f73 := c13_6.keep Kc69 (ninS ne_b10_ck13 (ninS ne_b10_wa13 nin0))
            have f74 := c13_7.keep Kc69 (ninS ne_b10_ck13 (ninS ne_b10_wa13 nin0))
            have f75 := c13_8.keep Kc69 (ninS ne_b10_ck13 (ninS ne_b10_wa13 nin0))
            have f76 := c13_9.keep Kc69 (ninS c13_3 (ninS c13_4 nin0))
            have f77 := c13_10.keep Kc69
            have f78 := c13_14.keep Kc69
            have Zs69 : n0 ≤ T69.heap.size := Nat.le_trans Zs13 Kc69.1
            have N69 := Fr.app N17 N69q
            refine go (fun _ k => st69.trans k) ?_
            show G (T69.setTop (mkF m 208 #[.val (.int p1), .val (.int p2), .val (.int p3), .val (.int p4), .val (.int (1 : Int32)), .val (.int (Int32.ofNat n)), .val (.ref b1), .val (.ref b10), .val (.int (1 : Int32)), .val (.int (Int32.ofNat n)), .val (.int (1 : Int32)), .val (.long (Int64.ofNat n)), .second, .unset, .unset] [(.long (Int64.ofNat n))]))
            refine go (fun _ k => XS.lstore X69.here hx rfl (hb hby at_208) rfl (l' := #[.val (.int p1), .val (.int p2), .val (.int p3), .val (.int p4), .val (.int (1 : Int32)), .val (.int (Int32.ofNat n)), .val (.ref b1), .val (.ref b10), .val (.int (1 : Int32)), .val (.int (Int32.ofNat n)), .val (.int (1 : Int32)), .val (.long (Int64.ofNat n)), .second, .val (.long (Int64.ofNat n)), .second]) rfl k) ?_
            show G (T69.setTop (mkF m 210 #[.val (.int p1), .val (.int p2), .val (.int p3), .val (.int p4), .val (.int (1 : Int32)), .val (.int (Int32.ofNat n)), .val (.ref b1), .val (.ref b10), .val (.int (1 : Int32)), .val (.int (Int32.ofNat n)), .val (.int (1 : Int32)), .val (.long (Int64.ofNat n)), .second, .val (.long (Int64.ofNat n)), .second] []))
            refine go (fun _ k => XS.aload X69.here hx rfl (hb hby at_210) rfl rfl k) ?_
            show G (T69.setTop (mkF m 212 #[.val (.int p1), .val (.int p2), .val (.int p3), .val (.int p4), .val (.int (1 : Int32)), .val (.int (Int32.ofNat n)), .val (.ref b1), .val (.ref b10), .val (.int (1 : Int32)), .val (.int (Int32.ofNat n)), .val (.int (1 : Int32)), .val (.long (Int64.ofNat n)), .second, .val (.long (Int64.ofNat n)), .second] [(.ref b10)]))
            refine go (fun _ k => XS.lload X69.here hx rfl (hb hby at_212) rfl k) ?_
            show G (T69.setTop (mkF m 214 #[.val (.int p1), .val (.int p2), .val (.int p3), .val (.int p4), .val (.int (1 : Int32)), .val (.int (Int32.ofNat n)), .val (.ref b1), .val (.ref b10), .val (.int (1 : Int32)), .val (.int (Int32.ofNat n)), .val (.int (1 : Int32)), .val (.long (Int64.ofNat n)), .second, .val (.long (Int64.ofNat n)), .second] [(.long (Int64.ofNat n)), (.ref b10)]))
            refine go (fun _ k => XS.iconst X69.here hx rfl (hb hby at_214) k) ?_
            show G (T69.setTop (mkF m 215 #[.val (.int p1), .val (.int p2), .val (.int p3), .val (.int p4), .val (.int (1 : Int32)), .val (.int (Int32.ofNat n)), .val (.ref b1), .val (.ref b10), .val (.int (1 : Int32)), .val (.int (Int32.ofNat n)), .val (.int (1 : Int32)), .val (.long (Int64.ofNat n)), .second, .val (.long (Int64.ofNat n)), .second] [(.int (0 : Int32)), (.long (Int64.ofNat n)), (.ref b10)]))
            refine go (fun _ k => XS.iload X69.here hx rfl (hb hby at_215) rfl k) ?_
            show G (T69.setTop (mkF m 217 #[.val (.int p1), .val (.int p2), .val (.int p3), .val (.int p4), .val (.int (1 : Int32)), .val (.int (Int32.ofNat n)), .val (.ref b1), .val (.ref b10), .val (.int (1 : Int32)), .val (.int (Int32.ofNat n)), .val (.int (1 : Int32)), .val (.long (Int64.ofNat n)), .second, .val (.long (Int64.ofNat n)), .second] [(.int (1 : Int32)), (.int (0 : Int32)), (.long (Int64.ofNat n)), (.ref b10)]))
            have hc79 : ¬ ((1 : Int32) = (0 : Int32)) := (by decide)
            refine go (fun _ k => XS.ifNo X69.here hx rfl (hb hby at_217) rfl ((if0 _ _).trans (feq hc79).1) k) ?_
            show G (T69.setTop (mkF m 220 #[.val (.int p1), .val (.int p2), .val (.int p3), .val (.int p4), .val (.int (1 : Int32)), .val (.int (Int32.ofNat n)), .val (.ref b1), .val (.ref b10), .val (.int (1 : Int32)), .val (.int (Int32.ofNat n)), .val (.int (1 : Int32)), .val (.long (Int64.ofNat n)), .second, .val (.long (Int64.ofNat n)), .second] [(.int (0 : Int32)), (.long (Int64.ofNat n)), (.ref b10)]))
            refine go (X69.ldc2Long hx hown (mvT hZ (hw _ (List.mem_of_getElem? (i := 110) rfl))) (g := (mkF m 220 #[.val (.int p1), .val (.int p2), .val (.int p3), .val (.int p4), .val (.int (1 : Int32)), .val (.int (Int32.ofNat n)), .val (.ref b1), .val (.ref b10), .val (.int (1 : Int32)), .val (.int (Int32.ofNat n)), .val (.int (1 : Int32)), .val (.long (Int64.ofNat n)), .second, .val (.long (Int64.ofNat n)), .second] [(.int (0 : Int32)), (.long (Int64.ofNat n)), (.ref b10)])) rfl (hb hby at_220)) ?_
            show G (T69.setTop (mkF m 223 #[.val (.int p1), .val (.int p2), .val (.int p3), .val (.int p4), .val (.int (1 : Int32)), .val (.int (Int32.ofNat n)), .val (.ref b1), .val (.ref b10), .val (.int (1 : Int32)), .val (.int (Int32.ofNat n)), .val (.int (1 : Int32)), .val (.long (Int64.ofNat n)), .second, .val (.long (Int64.ofNat n)), .second] [(.long (100 : Int64)), (.int (0 : Int32)), (.long (Int64.ofNat n)), (.ref b10)]))
            refine go (fun _ k => XS.goto X69.here hx rfl (pc0 := 223) (pc' := 229) rfl (hb hby at_223) (by decide) (by decide) k) ?_
            show G (T69.setTop (mkF m 229 #[.val (.int p1), .val (.int p2), .val (.int p3), .val (.int p4), .val (.int (1 : Int32)), .val (.int (Int32.ofNat n)), .val (.ref b1), .val (.ref b10), .val (.int (1 : Int32)), .val (.int (Int32.ofNat n)), .val (.int (1 : Int32)), .val (.long (Int64.ofNat n)), .second, .val (.long (Int64.ofNat n)), .second] [(.long (100 : Int64)), (.int (0 : Int32)), (.long (Int64.ofNat n)), (.ref b10)]))
            obtain ⟨cq80, kq80, qa80, qb80, qc80⟩ := isOf hZ rfl f72
            obtain ⟨_, _, ⟨T80, L80, k80, n80⟩, -, X80, ⟨Lc80, hQ80, l80, y80, z80⟩, st80⟩ := X69.virtualBack hx (y := (⟨"com/example/kerros/kerros/store/SortedChunks", "setWord", "(JIJ)V"⟩ : MethodName)) (z := (⟨"com/example/kerros/kerros/store/SortedChunks", "setWord", "(JIJ)V"⟩ : MethodName)) hown (mvT hZ (hw _ (List.mem_of_getElem? (i := 86) rfl))) (mvT hZ (hw _ (List.mem_of_getElem? (i := 87) rfl))) (notFace_of_selects (args := #[]) (mvT hZ (hw _ (List.mem_of_getElem? (i := 89) rfl)))) (mvT hZ (hw _ (List.mem_of_getElem? (i := 89) rfl))) (mvT hZ (hw _ (List.mem_of_getElem? (i := 88) rfl))) (by decide) (backOf (W := 0) (rm16w1 l Z a0 hw [] b10 (100 : Int64) n ca13 ck13 wx69 kc13 kx69 (n + 1) dx69 T69.heap n0 Zs69 f73 f74 f75 f76 f77 c69_1 c69_2 c69_3 c69_4 ne_b10_ck13 ne_b10_wx69 c13_3 ne_ca13_wx69 ne_ck13_wx69 g_ck13 g_wx69 (by omega) (by omega) (by omega)) hZ (hw _ (List.mem_of_getElem? (i := 90) rfl)) (hw _ (List.mem_of_getElem? (i := 6) rfl)) (by decide) (by decide)) qa80 qc80 (g := (mkF m 229 #[.val (.int p1), .val (.int p2), .val (.int p3), .val (.int p4), .val (.int (1 : Int32)), .val (.int (Int32.ofNat n)), .val (.ref b1), .val (.ref b10), .val (.int (1 : Int32)), .val (.int (Int32.ofNat n)), .val (.int (1 : Int32)), .val (.long (Int64.ofNat n)), .second, .val (.long (Int64.ofNat n)), .second] [(.long (100 : Int64)), (.int (0 : Int32)), (.long (Int64.ofNat n)), (.ref b10)])) rfl (by rw [hml]; rfl) (Steps.refl _) (argsL := [(.long (Int64.ofNat n)), (.int (0 : Int32)), (.long (100 : Int64))]) (rest := []) (lenOf pd_0_3 rfl) rfl (by show 2 * 0 + _ ≤ _; exact Nat.le_of_eq rfl) (hb hby at_229) (fun _ _ => ⟨rfl, rfl, (by decide : 6 + 0 ≤ _), (by decide : 36 + 0 ≤ _)⟩)
            dsimp only [Pt.U, Pt.locs, Pt.cells, Pt.slots] at X80 l80 y80 z80 st80 hQ80
            subst l80 y80 z80
            obtain ⟨rfl, N80q, Kc80, c80_0⟩ := hQ80
            have f81 := f70.keep Kc80
            have f82 := f71.keep Kc80 (ninS ne_b1_wx69 nin0)
            have f83 := f72.keep Kc80
            have f84 := f73.keep Kc80 (ninS ne_b10_wx69 nin0)
            have f85 := f74.keep Kc80 (ninS ne_b10_wx69 nin0)
            have f86 := f75.keep Kc80 (ninS ne_b10_wx69 nin0)
            have f87 := f76.keep Kc80 (ninS ne_ca13_wx69 nin0)
            have f88 := f77.keep Kc80
            have f89 := f78.keep Kc80
            have f90 := c69_1.keep Kc80 (ninS ne_ck13_wx69 nin0)
            have f91 := c69_2.keep Kc80 (ninS ne_ck13_wx69 nin0)
            have f92 := c69_4.keep Kc80
            have Zs80 : n0 ≤ T80.heap.size := Nat.le_trans Zs69 Kc80.1
            have N80 := Fr.app N69 N80q
            refine go (fun _ k => st80.trans k) ?_
            show G (T80.setTop (mkF m 232 #[.val (.int p1), .val (.int p2), .val (.int p3), .val (.int p4), .val (.int (1 : Int32)), .val (.int (Int32.ofNat n)), .val (.ref b1), .val (.ref b10), .val (.int (1 : Int32)), .val (.int (Int32.ofNat n)), .val (.int (1 : Int32)), .val (.long (Int64.ofNat n)), .second, .val (.long (Int64.ofNat n)), .second] []))
            refine go (fun _ k => XS.iinc X80.here hx rfl (hb hby at_232) rfl (l' := #[.val (.int p1), .val (.int p2), .val (.int p3), .val (.int p4), .val (.int (1 : Int32)), .val (.int (Int32.ofNat n)), .val (.ref b1), .val (.ref b10), .val (.int (1 : Int32)), .val (.int ((Int32.ofNat n) + (1 : Int32))), .val (.int (1 : Int32)), .val (.long (Int64.ofNat n)), .second, .val (.long (Int64.ofNat n)), .second]) rfl k) ?_
            show G (T80.setTop (mkF m 235 #[.val (.int p1), .val (.int p2), .val (.int p3), .val (.int p4), .val (.int (1 : Int32)), .val (.int (Int32.ofNat n)), .val (.ref b1), .val (.ref b10), .val (.int (1 : Int32)), .val (.int ((Int32.ofNat n) + (1 : Int32))), .val (.int (1 : Int32)), .val (.long (Int64.ofNat n)), .second, .val (.long (Int64.ofNat n)), .second] []))
            rw [show ((Int32.ofNat n) + (1 : Int32)) = (Int32.ofNat (n + 1)) from own_onadd n 1]
            show G (T80.setTop (mkF m 235 #[.val (.int p1), .val (.int p2), .val (.int p3), .val (.int p4), .val (.int (1 : Int32)), .val (.int (Int32.ofNat n)), .val (.ref b1), .val (.ref b10), .val (.int (1 : Int32)), .val (.int (Int32.ofNat (n + 1))), .val (.int (1 : Int32)), .val (.long (Int64.ofNat n)), .second, .val (.long (Int64.ofNat n)), .second] []))
            refine go (fun _ k => XS.iload X80.here hx rfl (hb hby at_235) rfl k) ?_
            show G (T80.setTop (mkF m 237 #[.val (.int p1), .val (.int p2), .val (.int p3), .val (.int p4), .val (.int (1 : Int32)), .val (.int (Int32.ofNat n)), .val (.ref b1), .val (.ref b10), .val (.int (1 : Int32)), .val (.int (Int32.ofNat (n + 1))), .val (.int (1 : Int32)), .val (.long (Int64.ofNat n)), .second, .val (.long (Int64.ofNat n)), .second] [(.int (1 : Int32))]))
            have hc93 : ¬ ((1 : Int32) = (0 : Int32)) := (by decide)
            refine go (fun _ k => XS.ifNo X80.here hx rfl (hb hby at_237) rfl ((if0 _ _).trans (feq hc93).1) k) ?_
            show G (T80.setTop (mkF m 240 #[.val (.int p1), .val (.int p2), .val (.int p3), .val (.int p4), .val (.int (1 : Int32)), .val (.int (Int32.ofNat n)), .val (.ref b1), .val (.ref b10), .val (.int (1 : Int32)), .val (.int (Int32.ofNat (n + 1))), .val (.int (1 : Int32)), .val (.long (Int64.ofNat n)), .second, .val (.long (Int64.ofNat n)), .second] []))
            refine go (fun _ k => XS.aload X80.here hx rfl (hb hby at_240) rfl rfl k) ?_
            show G (T80.setTop (mkF m 242 #[.val (.int p1), .val (.int p2), .val (.int p3), .val (.int p4), .val (.int (1 : Int32)), .val (.int (Int32.ofNat n)), .val (.ref b1), .val (.ref b10), .val (.int (1 : Int32)), .val (.int (Int32.ofNat (n + 1))), .val (.int (1 : Int32)), .val (.long (Int64.ofNat n)), .second, .val (.long (Int64.ofNat n)), .second] [(.ref b10)]))
            obtain ⟨cq94, kq94, qa94, qb94, qc94⟩ := isOf hZ rfl f83
            obtain ⟨_, _, ⟨T94, L94, k94, n94⟩, -, X94, ⟨Lc94, hQ94, l94, y94, z94⟩, st94⟩ := X80.virtualBack hx (y := (⟨"com/example/kerros/kerros/store/SortedChunks", "isEmpty", "()Z"⟩ : MethodName)) (z := (⟨"com/example/kerros/kerros/store/SortedChunks", "isEmpty", "()Z"⟩ : MethodName)) hown (mvT hZ (hw _ (List.mem_of_getElem? (i := 54) rfl))) (mvT hZ (hw _ (List.mem_of_getElem? (i := 55) rfl))) (notFace_of_selects (args := #[]) (mvT hZ (hw _ (List.mem_of_getElem? (i := 57) rfl)))) (mvT hZ (hw _ (List.mem_of_getElem? (i := 57) rfl))) (mvT hZ (hw _ (List.mem_of_getElem? (i := 56) rfl))) (by decide) (backOf (W := 0) (rm9 l Z a0 hw [] b10 ca13 ck13 kc13 (Int32.ofNat (n + 1)) T80.heap n0 Zs80 f86 f87 f91) hZ (hw _ (List.mem_of_getElem? (i := 58) rfl)) (hw _ (List.mem_of_getElem? (i := 6) rfl)) (by decide) (by decide)) qa94 qc94 (g := (mkF m 242 #[.val (.int p1), .val (.int p2), .val (.int p3), .val (.int p4), .val (.int (1 : Int32)), .val (.int (Int32.ofNat n)), .val (.ref b1), .val (.ref b10), .val (.int (1 : Int32)), .val (.int (Int32.ofNat (n + 1))), .val (.int (1 : Int32)), .val (.long (Int64.ofNat n)), .second, .val (.long (Int64.ofNat n)), .second] [(.ref b10)])) rfl (by rw [hml]; rfl) (Steps.refl _) (argsL := []) (rest := []) (lenOf pd_0_1 rfl) rfl (by show 2 * 0 + _ ≤ _; exact Nat.le_of_eq rfl) (hb hby at_242) (fun _ _ => ⟨rfl, rfl, (by decide : 6 + 0 ≤ _), (by decide : 36 + 0 ≤ _)⟩)
            dsimp only [Pt.U, Pt.locs, Pt.cells, Pt.slots] at X94 l94 y94 z94 st94 hQ94
            subst l94 y94 z94
            obtain ⟨rfl, N94q, e94⟩ := hQ94
            have N94 := Fr.app N80 N94q
            refine go (fun _ k => st94.trans k) ?_
            show G (T94.setTop (mkF m 245 #[.val (.int p1), .val (.int p2), .val (.int p3), .val (.int p4), .val (.int (1 : Int32)), .val (.int (Int32.ofNat n)), .val (.ref b1), .val (.ref b10), .val (.int (1 : Int32)), .val (.int (Int32.ofNat (n + 1))), .val (.int (1 : Int32)), .val (.long (Int64.ofNat n)), .second, .val (.long (Int64.ofNat n)), .second] [(.int (emp (Int32.ofNat (n + 1))))]))
            have hc95 : (emp (Int32.ofNat (n + 1))) = (0 : Int32) := by rw [emp, if_neg (own_onne _ (by omega) (by omega))]
            refine go (fun _ k => XS.ifNo X94.here hx rfl (hb hby at_245) rfl ((if0 _ _).trans (teq hc95).2) k) ?_
            show G (T94.setTop (mkF m 248 #[.val (.int p1), .val (.int p2), .val (.int p3), .val (.int p4), .val (.int (1 : Int32)), .val (.int (Int32.ofNat n)), .val (.ref b1), .val (.ref b10), .val (.int (1 : Int32)), .val (.int (Int32.ofNat (n + 1))), .val (.int (1 : Int32)), .val (.long (Int64.ofNat n)), .second, .val (.long (Int64.ofNat n)), .second] []))
            refine go (fun _ k => XS.iconst X94.here hx rfl (hb hby at_248) k) ?_
            show G (T94.setTop (mkF m 249 #[.val (.int p1), .val (.int p2), .val (.int p3), .val (.int p4), .val (.int (1 : Int32)), .val (.int (Int32.ofNat n)), .val (.ref b1), .val (.ref b10), .val (.int (1 : Int32)), .val (.int (Int32.ofNat (n + 1))), .val (.int (1 : Int32)), .val (.long (Int64.ofNat n)), .second, .val (.long (Int64.ofNat n)), .second] [(.int (1 : Int32))]))
            refine go (fun _ k => XS.goto X94.here hx rfl (pc0 := 249) (pc' := 253) rfl (hb hby at_249) (by decide) (by decide) k) ?_
            show G (T94.setTop (mkF m 253 #[.val (.int p1), .val (.int p2), .val (.int p3), .val (.int p4), .val (.int (1 : Int32)), .val (.int (Int32.ofNat n)), .val (.ref b1), .val (.ref b10), .val (.int (1 : Int32)), .val (.int (Int32.ofNat (n + 1))), .val (.int (1 : Int32)), .val (.long (Int64.ofNat n)), .second, .val (.long (Int64.ofNat n)), .second] [(.int (1 : Int32))]))
            refine go (fun _ k => XS.istore X94.here hx rfl (hb hby at_253) rfl (l' := #[.val (.int p1), .val (.int p2), .val (.int p3), .val (.int p4), .val (.int (1 : Int32)), .val (.int (Int32.ofNat n)), .val (.ref b1), .val (.ref b10), .val (.int (1 : Int32)), .val (.int (Int32.ofNat (n + 1))), .val (.int (1 : Int32)), .val (.long (Int64.ofNat n)), .second, .val (.long (Int64.ofNat n)), .second]) rfl k) ?_
            show G (T94.setTop (mkF m 255 #[.val (.int p1), .val (.int p2), .val (.int p3), .val (.int p4), .val (.int (1 : Int32)), .val (.int (Int32.ofNat n)), .val (.ref b1), .val (.ref b10), .val (.int (1 : Int32)), .val (.int (Int32.ofNat (n + 1))), .val (.int (1 : Int32)), .val (.long (Int64.ofNat n)), .second, .val (.long (Int64.ofNat n)), .second] []))
            refine go (fun _ k => XS.iloadN X94.here hx rfl (hb hby at_255) rfl k) ?_
            show G (T94.setTop (mkF m 256 #[.val (.int p1), .val (.int p2), .val (.int p3), .val (.int p4), .val (.int (1 : Int32)), .val (.int (Int32.ofNat n)), .val (.ref b1), .val (.ref b10), .val (.int (1 : Int32)), .val (.int (Int32.ofNat (n + 1))), .val (.int (1 : Int32)), .val (.long (Int64.ofNat n)), .second, .val (.long (Int64.ofNat n)), .second] [(.int p3)]))
            refine go (fun _ k => XS.bipush X94.here hx rfl (hb hby at_256) k) ?_
            show G (T94.setTop (mkF m 258 #[.val (.int p1), .val (.int p2), .val (.int p3), .val (.int p4), .val (.int (1 : Int32)), .val (.int (Int32.ofNat n)), .val (.ref b1), .val (.ref b10), .val (.int (1 : Int32)), .val (.int (Int32.ofNat (n + 1))), .val (.int (1 : Int32)), .val (.long (Int64.ofNat n)), .second, .val (.long (Int64.ofNat n)), .second] [(.int (8 : Int32)), (.int p3)]))
            refine go (fun _ k => XS.iand X94.here hx rfl (hb hby at_258) rfl k) ?_
            show G (T94.setTop (mkF m 259 #[.val (.int p1), .val (.int p2), .val (.int p3), .val (.int p4), .val (.int (1 : Int32)), .val (.int (Int32.ofNat n)), .val (.ref b1), .val (.ref b10), .val (.int (1 : Int32)), .val (.int (Int32.ofNat (n + 1))), .val (.int (1 : Int32)), .val (.long (Int64.ofNat n)), .second, .val (.long (Int64.ofNat n)), .second] [(.int (p3 &&& (8 : Int32)))]))
            by_cases hc259_96 : (p3 &&& (8 : Int32)) = (0 : Int32)
            · refine go (fun _ k => XS.ifYes X94.here hx rfl (pc0 := 259) (pc' := 302) rfl (hb hby at_259) rfl ((if0 _ _).trans (teq hc259_96).1) (by decide) (by decide) k) ?_
              show G (T94.setTop (mkF m 302 #[.val (.int p1), .val (.int p2), .val (.int p3), .val (.int p4), .val (.int (1 : Int32)), .val (.int (Int32.ofNat n)), .val (.ref b1), .val (.ref b10), .val (.int (1 : Int32)), .val (.int (Int32.ofNat (n + 1))), .val (.int (1 : Int32)), .val (.long (Int64.ofNat n)), .second, .val (.long (Int64.ofNat n)), .second] []))
              refine go (fun _ k => XS.iload X94.here hx rfl (hb hby at_302) rfl k) ?_
              show G (T94.setTop (mkF m 304 #[.val (.int p1), .val (.int p2), .val (.int p3), .val (.int p4), .val (.int (1 : Int32)), .val (.int (Int32.ofNat n)), .val (.ref b1), .val (.ref b10), .val (.int (1 : Int32)), .val (.int (Int32.ofNat (n + 1))), .val (.int (1 : Int32)), .val (.long (Int64.ofNat n)), .second, .val (.long (Int64.ofNat n)), .second] [(.int (1 : Int32))]))
              rw [hG]
              refine own_fin X94 Bd.notSynchronized (v := some (.int (1 : Int32))) (fun h => by rw [Bd.returns] at h; cases h) (fun fs hr => retOut X94 hx Bd.returns rfl (by simp [FieldType.isReference, Value.isRef]) (hb hby at_304) hr) ?_ (by decide) (by decide)
              show Q0 Z p1 p2 p3 p4 h0 n0 (some (.int (1 : Int32))) T94.heap _
              rw [e94]
              exact ⟨rfl, N94⟩
            · refine go (fun _ k => XS.ifNo X94.here hx rfl (hb hby at_259) rfl ((if0 _ _).trans (feq hc259_96).1) k) ?_
              show G (T94.setTop (mkF m 262 #[.val (.int p1), .val (.int p2), .val (.int p3), .val (.int p4), .val (.int (1 : Int32)), .val (.int (Int32.ofNat n)), .val (.ref b1), .val (.ref b10), .val (.int (1 : Int32)), .val (.int (Int32.ofNat (n + 1))), .val (.int (1 : Int32)), .val (.long (Int64.ofNat n)), .second, .val (.long (Int64.ofNat n)), .second] []))
              refine go (fun _ k => XS.aload X94.here hx rfl (hb hby at_262) rfl rfl k) ?_
              show G (T94.setTop (mkF m 264 #[.val (.int p1), .val (.int p2), .val (.int p3), .val (.int p4), .val (.int (1 : Int32)), .val (.int (Int32.ofNat n)), .val (.ref b1), .val (.ref b10), .val (.int (1 : Int32)), .val (.int (Int32.ofNat (n + 1))), .val (.int (1 : Int32)), .val (.long (Int64.ofNat n)), .second, .val (.long (Int64.ofNat n)), .second] [(.ref b10)]))
              refine go (fun _ k => XS.lload X94.here hx rfl (hb hby at_264) rfl k) ?_
              show G (T94.setTop (mkF m 266 #[.val (.int p1), .val (.int p2), .val (.int p3), .val (.int p4), .val (.int (1 : Int32)), .val (.int (Int32.ofNat n)), .val (.ref b1), .val (.ref b10), .val (.int (1 : Int32)), .val (.int (Int32.ofNat (n + 1))), .val (.int (1 : Int32)), .val (.long (Int64.ofNat n)), .second, .val (.long (Int64.ofNat n)), .second] [(.long (Int64.ofNat n)), (.ref b10)]))
              obtain ⟨cq97, kq97, qa97, qb97, qc97⟩ := isOf hZ e94 f83
              obtain ⟨_, _, ⟨T97, L97, k97, n97⟩, -, X97, ⟨Lc97, hQ97, l97, y97, z97⟩, st97⟩ := X94.virtualBack hx (y := (⟨"com/example/kerros/kerros/store/SortedChunks", "remove", "(J)V"⟩ : MethodName)) (z := (⟨"com/example/kerros/kerros/store/SortedChunks", "remove", "(J)V"⟩ : MethodName)) hown (mvT hZ (hw _ (List.mem_of_getElem? (i := 101) rfl))) (mvT hZ (hw _ (List.mem_of_getElem? (i := 102) rfl))) (notFace_of_selects (args := #[]) (mvT hZ (hw _ (List.mem_of_getElem? (i := 104) rfl)))) (mvT hZ (hw _ (List.mem_of_getElem? (i := 104) rfl))) (mvT hZ (hw _ (List.mem_of_getElem? (i := 103) rfl))) (by decide) (backOf (W := 0) (rm17w1 l Z a0 hw [] b10 n ca13 ck13 wx69 kc13 kx69 (n + 1) dx69 T80.heap n0 Zs80 f84 f85 f86 f87 f88 f90 f91 c80_0 f92 ne_b10_ck13 ne_b10_wx69 c13_3 ne_ca13_wx69 ne_ck13_wx69 g_ck13 g_wx69 (by omega) (by omega) (by omega)) hZ (hw _ (List.mem_of_getElem? (i := 105) rfl)) (hw _ (List.mem_of_getElem? (i := 6) rfl)) (by decide) (by decide)) qa97 qc97 (g := (mkF m 266 #[.val (.int p1), .val (.int p2), .val (.int p3), .val (.int p4), .val (.int (1 : Int32)), .val (.int (Int32.ofNat n)), .val (.ref b1), .val (.ref b10), .val (.int (1 : Int32)), .val (.int (Int32.ofNat (n + 1))), .val (.int (1 : Int32)), .val (.long (Int64.ofNat n)), .second, .val (.long (Int64.ofNat n)), .second] [(.long (Int64.ofNat n)), (.ref b10)])) rfl (by rw [hml]; rfl) (Steps.refl _) (argsL := [(.long (Int64.ofNat n))]) (rest := []) (lenOf pd_0_4 rfl) rfl (by show 2 * 0 + _ ≤ _; exact Nat.le_of_eq rfl) (hb hby at_266) (fun _ _ => ⟨rfl, e94, (by decide : 6 + 0 ≤ _), (by decide : 36 + 0 ≤ _)⟩)
              dsimp only [Pt.U, Pt.locs, Pt.cells, Pt.slots] at X97 l97 y97 z97 st97 hQ97
              subst l97 y97 z97
              obtain ⟨rfl, N97q, Kc97, c97_0, c97_1, c97_2⟩ := hQ97
              have f98 := f81.keep Kc97
              have f99 := f82.keep Kc97 (ninS ne_b1_ck13 (ninS ne_b1_wx69 nin0))
              have f100 := f83.keep Kc97
              have f101 := f84.keep Kc97 (ninS ne_b10_ck13 (ninS ne_b10_wx69 nin0))
              have f102 := f85.keep Kc97 (ninS ne_b10_ck13 (ninS ne_b10_wx69 nin0))
              have f103 := f86.keep Kc97 (ninS ne_b10_ck13 (ninS ne_b10_wx69 nin0))
              have f104 := f87.keep Kc97 (ninS c13_3 (ninS ne_ca13_wx69 nin0))
              have f105 := f88.keep Kc97
              have f106 := f89.keep Kc97
              have f107 := f92.keep Kc97
              have Zs97 : n0 ≤ T97.heap.size := Nat.le_trans Zs80 Kc97.1
              have N97 := Fr.app N94 N97q
              refine go (fun _ k => st97.trans k) ?_
              show G (T97.setTop (mkF m 269 #[.val (.int p1), .val (.int p2), .val (.int p3), .val (.int p4), .val (.int (1 : Int32)), .val (.int (Int32.ofNat n)), .val (.ref b1), .val (.ref b10), .val (.int (1 : Int32)), .val (.int (Int32.ofNat (n + 1))), .val (.int (1 : Int32)), .val (.long (Int64.ofNat n)), .second, .val (.long (Int64.ofNat n)), .second] []))
              refine go (fun _ k => XS.iinc X97.here hx rfl (hb hby at_269) rfl (l' := #[.val (.int p1), .val (.int p2), .val (.int p3), .val (.int p4), .val (.int (1 : Int32)), .val (.int (Int32.ofNat n)), .val (.ref b1), .val (.ref b10), .val (.int (1 : Int32)), .val (.int ((Int32.ofNat (n + 1)) + (-1 : Int32))), .val (.int (1 : Int32)), .val (.long (Int64.ofNat n)), .second, .val (.long (Int64.ofNat n)), .second]) rfl k) ?_
              show G (T97.setTop (mkF m 272 #[.val (.int p1), .val (.int p2), .val (.int p3), .val (.int p4), .val (.int (1 : Int32)), .val (.int (Int32.ofNat n)), .val (.ref b1), .val (.ref b10), .val (.int (1 : Int32)), .val (.int ((Int32.ofNat (n + 1)) + (-1 : Int32))), .val (.int (1 : Int32)), .val (.long (Int64.ofNat n)), .second, .val (.long (Int64.ofNat n)), .second] []))
              rw [show ((Int32.ofNat (n + 1)) + (-1 : Int32)) = (Int32.ofNat ((n + 1) - 1)) from own_ondec (n + 1) (by omega)]
              show G (T97.setTop (mkF m 272 #[.val (.int p1), .val (.int p2), .val (.int p3), .val (.int p4), .val (.int (1 : Int32)), .val (.int (Int32.ofNat n)), .val (.ref b1), .val (.ref b10), .val (.int (1 : Int32)), .val (.int (Int32.ofNat ((n + 1) - 1))), .val (.int (1 : Int32)), .val (.long (Int64.ofNat n)), .second, .val (.long (Int64.ofNat n)), .second] []))
              refine go (fun _ k => XS.iload X97.here hx rfl (hb hby at_272) rfl k) ?_
              show G (T97.setTop (mkF m 274 #[.val (.int p1), .val (.int p2), .val (.int p3), .val (.int p4), .val (.int (1 : Int32)), .val (.int (Int32.ofNat n)), .val (.ref b1), .val (.ref b10), .val (.int (1 : Int32)), .val (.int (Int32.ofNat ((n + 1) - 1))), .val (.int (1 : Int32)), .val (.long (Int64.ofNat n)), .second, .val (.long (Int64.ofNat n)), .second] [(.int (1 : Int32))]))
              have hc108 : ¬ ((1 : Int32) = (0 : Int32)) := (by decide)
              refine go (fun _ k => XS.ifNo X97.here hx rfl (hb hby at_274) rfl ((if0 _ _).trans (feq hc108).1) k) ?_
              show G (T97.setTop (mkF m 277 #[.val (.int p1), .val (.int p2), .val (.int p3), .val (.int p4), .val (.int (1 : Int32)), .val (.int (Int32.ofNat n)), .val (.ref b1), .val (.ref b10), .val (.int (1 : Int32)), .val (.int (Int32.ofNat ((n + 1) - 1))), .val (.int (1 : Int32)), .val (.long (Int64.ofNat n)), .second, .val (.long (Int64.ofNat n)), .second] []))
              refine go (fun _ k => XS.aload X97.here hx rfl (hb hby at_277) rfl rfl k) ?_
              show G (T97.setTop (mkF m 279 #[.val (.int p1), .val (.int p2), .val (.int p3), .val (.int p4), .val (.int (1 : Int32)), .val (.int (Int32.ofNat n)), .val (.ref b1), .val (.ref b10), .val (.int (1 : Int32)), .val (.int (Int32.ofNat ((n + 1) - 1))), .val (.int (1 : Int32)), .val (.long (Int64.ofNat n)), .second, .val (.long (Int64.ofNat n)), .second] [(.ref b10)]))
              obtain ⟨cq109, kq109, qa109, qb109, qc109⟩ := isOf hZ rfl f100
              obtain ⟨_, _, ⟨T109, L109, k109, n109⟩, -, X109, ⟨Lc109, hQ109, l109, y109, z109⟩, st109⟩ := X97.virtualBack hx (y := (⟨"com/example/kerros/kerros/store/SortedChunks", "isEmpty", "()Z"⟩ : MethodName)) (z := (⟨"com/example/kerros/kerros/store/SortedChunks", "isEmpty", "()Z"⟩ : MethodName)) hown (mvT hZ (hw _ (List.mem_of_getElem? (i := 54) rfl))) (mvT hZ (hw _ (List.mem_of_getElem? (i := 55) rfl))) (notFace_of_selects (args := #[]) (mvT hZ (hw _ (List.mem_of_getElem? (i := 57) rfl)))) (mvT hZ (hw _ (List.mem_of_getElem? (i := 57) rfl))) (mvT hZ (hw _ (List.mem_of_getElem? (i := 56) rfl))) (by decide) (backOf (W := 0) (rm9 l Z a0 hw [] b10 ca13 ck13 kc13 (Int32.ofNat ((n + 1) - 1)) T97.heap n0 Zs97 f103 f104 c97_1) hZ (hw _ (List.mem_of_getElem? (i := 58) rfl)) (hw _ (List.mem_of_getElem? (i := 6) rfl)) (by decide) (by decide)) qa109 qc109 (g := (mkF m 279 #[.val (.int p1), .val (.int p2), .val (.int p3), .val (.int p4), .val (.int (1 : Int32)), .val (.int (Int32.ofNat n)), .val (.ref b1), .val (.ref b10), .val (.int (1 : Int32)), .val (.int (Int32.ofNat ((n + 1) - 1))), .val (.int (1 : Int32)), .val (.long (Int64.ofNat n)), .second, .val (.long (Int64.ofNat n)), .second] [(.ref b10)])) rfl (by rw [hml]; rfl) (Steps.refl _) (argsL := []) (rest := []) (lenOf pd_0_1 rfl) rfl (by show 2 * 0 + _ ≤ _; exact Nat.le_of_eq rfl) (hb hby at_279) (fun _ _ => ⟨rfl, rfl, (by decide : 6 + 0 ≤ _), (by decide : 36 + 0 ≤ _)⟩)
              dsimp only [Pt.U, Pt.locs, Pt.cells, Pt.slots] at X109 l109 y109 z109 st109 hQ109
              subst l109 y109 z109
              obtain ⟨rfl, N109q, e109⟩ := hQ109
              have N109 := Fr.app N97 N109q
              refine go (fun _ k => st109.trans k) ?_
              show G (T109.setTop (mkF m 282 #[.val (.int p1), .val (.int p2), .val (.int p3), .val (.int p4), .val (.int (1 : Int32)), .val (.int (Int32.ofNat n)), .val (.ref b1), .val (.ref b10), .val (.int (1 : Int32)), .val (.int (Int32.ofNat ((n + 1) - 1))), .val (.int (1 : Int32)), .val (.long (Int64.ofNat n)), .second, .val (.long (Int64.ofNat n)), .second] [(.int (emp (Int32.ofNat ((n + 1) - 1))))]))
              have J300_110 : G (T109.setTop (mkF m 300 #[.val (.int p1), .val (.int p2), .val (.int p3), .val (.int p4), .val (.int (1 : Int32)), .val (.int (Int32.ofNat n)), .val (.ref b1), .val (.ref b10), .val (.int (1 : Int32)), .val (.int (Int32.ofNat ((n + 1) - 1))), .val (.int (1 : Int32)), .val (.long (Int64.ofNat n)), .second, .val (.long (Int64.ofNat n)), .second] [(.int (1 : Int32))])) := by
                refine go (fun _ k => XS.istore X109.here hx rfl (hb hby at_300) rfl (l' := #[.val (.int p1), .val (.int p2), .val (.int p3), .val (.int p4), .val (.int (1 : Int32)), .val (.int (Int32.ofNat n)), .val (.ref b1), .val (.ref b10), .val (.int (1 : Int32)), .val (.int (Int32.ofNat ((n + 1) - 1))), .val (.int (1 : Int32)), .val (.long (Int64.ofNat n)), .second, .val (.long (Int64.ofNat n)), .second]) rfl k) ?_
                show G (T109.setTop (mkF m 302 #[.val (.int p1), .val (.int p2), .val (.int p3), .val (.int p4), .val (.int (1 : Int32)), .val (.int (Int32.ofNat n)), .val (.ref b1), .val (.ref b10), .val (.int (1 : Int32)), .val (.int (Int32.ofNat ((n + 1) - 1))), .val (.int (1 : Int32)), .val (.long (Int64.ofNat n)), .second, .val (.long (Int64.ofNat n)), .second] []))
                refine go (fun _ k => XS.iload X109.here hx rfl (hb hby at_302) rfl k) ?_
                show G (T109.setTop (mkF m 304 #[.val (.int p1), .val (.int p2), .val (.int p3), .val (.int p4), .val (.int (1 : Int32)), .val (.int (Int32.ofNat n)), .val (.ref b1), .val (.ref b10), .val (.int (1 : Int32)), .val (.int (Int32.ofNat ((n + 1) - 1))), .val (.int (1 : Int32)), .val (.long (Int64.ofNat n)), .second, .val (.long (Int64.ofNat n)), .second] [(.int (1 : Int32))]))
                rw [hG]
                refine own_fin X109 Bd.notSynchronized (v := some (.int (1 : Int32))) (fun h => by rw [Bd.returns] at h; cases h) (fun fs hr => retOut X109 hx Bd.returns rfl (by simp [FieldType.isReference, Value.isRef]) (hb hby at_304) hr) ?_ (by decide) (by decide)
                show Q0 Z p1 p2 p3 p4 h0 n0 (some (.int (1 : Int32))) T109.heap _
                rw [e109]
                exact ⟨rfl, N109⟩
              show G (T109.setTop (mkF m 282 #[.val (.int p1), .val (.int p2), .val (.int p3), .val (.int p4), .val (.int (1 : Int32)), .val (.int (Int32.ofNat n)), .val (.ref b1), .val (.ref b10), .val (.int (1 : Int32)), .val (.int (Int32.ofNat ((n + 1) - 1))), .val (.int (1 : Int32)), .val (.long (Int64.ofNat n)), .second, .val (.long (Int64.ofNat n)), .second] [(.int (emp (Int32.ofNat ((n + 1) - 1))))]))
              refine go (fun _ k => XS.iload X109.here hx rfl (hb hby at_282) rfl k) ?_
              show G (T109.setTop (mkF m 284 #[.val (.int p1), .val (.int p2), .val (.int p3), .val (.int p4), .val (.int (1 : Int32)), .val (.int (Int32.ofNat n)), .val (.ref b1), .val (.ref b10), .val (.int (1 : Int32)), .val (.int (Int32.ofNat ((n + 1) - 1))), .val (.int (1 : Int32)), .val (.long (Int64.ofNat n)), .second, .val (.long (Int64.ofNat n)), .second] [(.int (Int32.ofNat ((n + 1) - 1))), (.int (emp (Int32.ofNat ((n + 1) - 1))))]))
              by_cases hc284_111 : (Int32.ofNat ((n + 1) - 1)) = (0 : Int32)
              · refine go (fun _ k => XS.ifNo X109.here hx rfl (hb hby at_284) rfl ((if0 _ _).trans (teq hc284_111).2) k) ?_
                show G (T109.setTop (mkF m 287 #[.val (.int p1), .val (.int p2), .val (.int p3), .val (.int p4), .val (.int (1 : Int32)), .val (.int (Int32.ofNat n)), .val (.ref b1), .val (.ref b10), .val (.int (1 : Int32)), .val (.int (Int32.ofNat ((n + 1) - 1))), .val (.int (1 : Int32)), .val (.long (Int64.ofNat n)), .second, .val (.long (Int64.ofNat n)), .second] [(.int (emp (Int32.ofNat ((n + 1) - 1))))]))
                refine go (fun _ k => XS.iconst X109.here hx rfl (hb hby at_287) k) ?_
                show G (T109.setTop (mkF m 288 #[.val (.int p1), .val (.int p2), .val (.int p3), .val (.int p4), .val (.int (1 : Int32)), .val (.int (Int32.ofNat n)), .val (.ref b1), .val (.ref b10), .val (.int (1 : Int32)), .val (.int (Int32.ofNat ((n + 1) - 1))), .val (.int (1 : Int32)), .val (.long (Int64.ofNat n)), .second, .val (.long (Int64.ofNat n)), .second] [(.int (1 : Int32)), (.int (emp (Int32.ofNat ((n + 1) - 1))))]))
                refine go (fun _ k => XS.goto X109.here hx rfl (pc0 := 288) (pc' := 292) rfl (hb hby at_288) (by decide) (by decide) k) ?_
                show G (T109.setTop (mkF m 292 #[.val (.int p1), .val (.int p2), .val (.int p3), .val (.int p4), .val (.int (1 : Int32)), .val (.int (Int32.ofNat n)), .val (.ref b1), .val (.ref b10), .val (.int (1 : Int32)), .val (.int (Int32.ofNat ((n + 1) - 1))), .val (.int (1 : Int32)), .val (.long (Int64.ofNat n)), .second, .val (.long (Int64.ofNat n)), .second] [(.int (1 : Int32)), (.int (emp (Int32.ofNat ((n + 1) - 1))))]))
                have hc112 : (emp (Int32.ofNat ((n + 1) - 1))) = (1 : Int32) := by rw [emp, if_pos hc284_111]
                refine go (fun _ k => XS.icmpNo X109.here hx rfl (hb hby at_292) rfl (teq hc112).2 k) ?_
                show G (T109.setTop (mkF m 295 #[.val (.int p1), .val (.int p2), .val (.int p3), .val (.int p4), .val (.int (1 : Int32)), .val (.int (Int32.ofNat n)), .val (.ref b1), .val (.ref b10), .val (.int (1 : Int32)), .val (.int (Int32.ofNat ((n + 1) - 1))), .val (.int (1 : Int32)), .val (.long (Int64.ofNat n)), .second, .val (.long (Int64.ofNat n)), .second] []))
                refine go (fun _ k => XS.iconst X109.here hx rfl (hb hby at_295) k) ?_
                show G (T109.setTop (mkF m 296 #[.val (.int p1), .val (.int p2), .val (.int p3), .val (.int p4), .val (.int (1 : Int32)), .val (.int (Int32.ofNat n)), .val (.ref b1), .val (.ref b10), .val (.int (1 : Int32)), .val (.int (Int32.ofNat ((n + 1) - 1))), .val (.int (1 : Int32)), .val (.long (Int64.ofNat n)), .second, .val (.long (Int64.ofNat n)), .second] [(.int (1 : Int32))]))
                refine go (fun _ k => XS.goto X109.here hx rfl (pc0 := 296) (pc' := 300) rfl (hb hby at_296) (by decide) (by decide) k) ?_
                show G (T109.setTop (mkF m 300 #[.val (.int p1), .val (.int p2), .val (.int p3), .val (.int p4), .val (.int (1 : Int32)), .val (.int (Int32.ofNat n)), .val (.ref b1), .val (.ref b10), .val (.int (1 : Int32)), .val (.int (Int32.ofNat ((n + 1) - 1))), .val (.int (1 : Int32)), .val (.long (Int64.ofNat n)), .second, .val (.long (Int64.ofNat n)), .second] [(.int (1 : Int32))]))
                exact J300_110
              · refine go (fun _ k => XS.ifYes X109.here hx rfl (pc0 := 284) (pc' := 291) rfl (hb hby at_284) rfl ((if0 _ _).trans (feq hc284_111).2) (by decide) (by decide) k) ?_
                show G (T109.setTop (mkF m 291 #[.val (.int p1), .val (.int p2), .val (.int p3), .val (.int p4), .val (.int (1 : Int32)), .val (.int (Int32.ofNat n)), .val (.ref b1), .val (.ref b10), .val (.int (1 : Int32)), .val (.int (Int32.ofNat ((n + 1) - 1))), .val (.int (1 : Int32)), .val (.long (Int64.ofNat n)), .second, .val (.long (Int64.ofNat n)), .second] [(.int (emp (Int32.ofNat ((n + 1) - 1))))]))
                refine go (fun _ k => XS.iconst X109.here hx rfl (hb hby at_291) k) ?_
                show G (T109.setTop (mkF m 292 #[.val (.int p1), .val (.int p2), .val (.int p3), .val (.int p4), .val (.int (1 : Int32)), .val (.int (Int32.ofNat n)), .val (.ref b1), .val (.ref b10), .val (.int (1 : Int32)), .val (.int (Int32.ofNat ((n + 1) - 1))), .val (.int (1 : Int32)), .val (.long (Int64.ofNat n)), .second, .val (.long (Int64.ofNat n)), .second] [(.int (0 : Int32)), (.int (emp (Int32.ofNat ((n + 1) - 1))))]))
                have hc113 : (emp (Int32.ofNat ((n + 1) - 1))) = (0 : Int32) := by rw [emp, if_neg hc284_111]
                refine go (fun _ k => XS.icmpNo X109.here hx rfl (hb hby at_292) rfl (teq hc113).2 k) ?_
                show G (T109.setTop (mkF m 295 #[.val (.int p1), .val (.int p2), .val (.int p3), .val (.int p4), .val (.int (1 : Int32)), .val (.int (Int32.ofNat n)), .val (.ref b1), .val (.ref b10), .val (.int (1 : Int32)), .val (.int (Int32.ofNat ((n + 1) - 1))), .val (.int (1 : Int32)), .val (.long (Int64.ofNat n)), .second, .val (.long (Int64.ofNat n)), .second] []))
                refine go (fun _ k => XS.iconst X109.here hx rfl (hb hby at_295) k) ?_
                show G (T109.setTop (mkF m 296 #[.val (.int p1), .val (.int p2), .val (.int p3), .val (.int p4), .val (.int (1 : Int32)), .val (.int (Int32.ofNat n)), .val (.ref b1), .val (.ref b10), .val (.int (1 : Int32)), .val (.int (Int32.ofNat ((n + 1) - 1))), .val (.int (1 : Int32)), .val (.long (Int64.ofNat n)), .second, .val (.long (Int64.ofNat n)), .second] [(.int (1 : Int32))]))
                refine go (fun _ k => XS.goto X109.here hx rfl (pc0 := 296) (pc' := 300) rfl (hb hby at_296) (by decide) (by decide) k) ?_
                show G (T109.setTop (mkF m 300 #[.val (.int p1), .val (.int p2), .val (.int p3), .val (.int p4), .val (.int (1 : Int32)), .val (.int (Int32.ofNat n)), .val (.ref b1), .val (.ref b10), .val (.int (1 : Int32)), .val (.int (Int32.ofNat ((n + 1) - 1))), .val (.int (1 : Int32)), .val (.long (Int64.ofNat n)), .second, .val (.long (Int64.ofNat n)), .second] [(.int (1 : Int32))]))
                exact J300_110
      show G (T17.setTop (mkF m 107 #[.val (.int p1), .val (.int p2), .val (.int p3), .val (.int p4), .val (.int (1 : Int32)), .val (.int (Int32.ofNat n)), .val (.ref b1), .val (.ref b10), .val (.int (1 : Int32)), .val (.int (Int32.ofNat n)), .unset, .unset, .unset, .unset, .unset] []))
      refine go (fun _ k => XS.iloadN X17.here hx rfl (hb hby at_107) rfl k) ?_
      show G (T17.setTop (mkF m 108 #[.val (.int p1), .val (.int p2), .val (.int p3), .val (.int p4), .val (.int (1 : Int32)), .val (.int (Int32.ofNat n)), .val (.ref b1), .val (.ref b10), .val (.int (1 : Int32)), .val (.int (Int32.ofNat n)), .unset, .unset, .unset, .unset, .unset] [(.int p3)]))
      refine go (fun _ k => XS.iconst X17.here hx rfl (hb hby at_108) k) ?_
      show G (T17.setTop (mkF m 109 #[.val (.int p1), .val (.int p2), .val (.int p3), .val (.int p4), .val (.int (1 : Int32)), .val (.int (Int32.ofNat n)), .val (.ref b1), .val (.ref b10), .val (.int (1 : Int32)), .val (.int (Int32.ofNat n)), .unset, .unset, .unset, .unset, .unset] [(.int (1 : Int32)), (.int p3)]))
      refine go (fun _ k => XS.iand X17.here hx rfl (hb hby at_109) rfl k) ?_
      show G (T17.setTop (mkF m 110 #[.val (.int p1), .val (.int p2), .val (.int p3), .val (.int p4), .val (.int (1 : Int32)), .val (.int (Int32.ofNat n)), .val (.ref b1), .val (.ref b10), .val (.int (1 : Int32)), .val (.int (Int32.ofNat n)), .unset, .unset, .unset, .unset, .unset] [(.int (p3 &&& (1 : Int32)))]))
      by_cases hc110_114 : (p3 &&& (1 : Int32)) = (0 : Int32)
      · refine go (fun _ k => XS.ifYes X17.here hx rfl (pc0 := 110) (pc' := 168) rfl (hb hby at_110) rfl ((if0 _ _).trans (teq hc110_114).1) (by decide) (by decide) k) ?_
        show G (T17.setTop (mkF m 168 #[.val (.int p1), .val (.int p2), .val (.int p3), .val (.int p4), .val (.int (1 : Int32)), .val (.int (Int32.ofNat n)), .val (.ref b1), .val (.ref b10), .val (.int (1 : Int32)), .val (.int (Int32.ofNat n)), .unset, .unset, .unset, .unset, .unset] []))
        exact J168_19
      · refine go (fun _ k => XS.ifNo X17.here hx rfl (hb hby at_110) rfl ((if0 _ _).trans (feq hc110_114).1) k) ?_
        show G (T17.setTop (mkF m 113 #[.val (.int p1), .val (.int p2), .val (.int p3), .val (.int p4), .val (.int (1 : Int32)), .val (.int (Int32.ofNat n)), .val (.ref b1), .val (.ref b10), .val (.int (1 : Int32)), .val (.int (Int32.ofNat n)), .unset, .unset, .unset, .unset, .unset] []))
        refine go (fun _ k => XS.iload X17.here hx rfl (hb hby at_113) rfl k) ?_
        show G (T17.setTop (mkF m 115 #[.val (.int p1), .val (.int p2), .val (.int p3), .val (.int p4), .val (.int (1 : Int32)), .val (.int (Int32.ofNat n)), .val (.ref b1), .val (.ref b10), .val (.int (1 : Int32)), .val (.int (Int32.ofNat n)), .unset, .unset, .unset, .unset, .unset] [(.int (Int32.ofNat n))]))
        by_cases hc115_115 : (0 : Int32) < (Int32.ofNat n)
        · refine go (fun _ k => XS.ifNo X17.here hx rfl (hb hby at_115) rfl ((if0 _ _).trans (tlt hc115_115).2.2.2) k) ?_
          show G (T17.setTop (mkF m 118 #[.val (.int p1), .val (.int p2), .val (.int p3), .val (.int p4), .val (.int (1 : Int32)), .val (.int (Int32.ofNat n)), .val (.ref b1), .val (.ref b10), .val (.int (1 : Int32)), .val (.int (Int32.ofNat n)), .unset, .unset, .unset, .unset, .unset] []))
          have hnp : 0 < n := (own_onlt (x := 0) (by omega) (by omega)).mp hc115_115
          refine go (fun _ k => XS.iloadN X17.here hx rfl (hb hby at_118) rfl k) ?_
          show G (T17.setTop (mkF m 119 #[.val (.int p1), .val (.int p2), .val (.int p3), .val (.int p4), .val (.int (1 : Int32)), .val (.int (Int32.ofNat n)), .val (.ref b1), .val (.ref b10), .val (.int (1 : Int32)), .val (.int (Int32.ofNat n)), .unset, .unset, .unset, .unset, .unset] [(.int p4)]))
          refine go (X17.ldcInt hx hown (mvT hZ (hw _ (List.mem_of_getElem? (i := 0) rfl))) (g := (mkF m 119 #[.val (.int p1), .val (.int p2), .val (.int p3), .val (.int p4), .val (.int (1 : Int32)), .val (.int (Int32.ofNat n)), .val (.ref b1), .val (.ref b10), .val (.int (1 : Int32)), .val (.int (Int32.ofNat n)), .unset, .unset, .unset, .unset, .unset] [(.int p4)])) rfl (hb hby at_119)) ?_
          show G (T17.setTop (mkF m 121 #[.val (.int p1), .val (.int p2), .val (.int p3), .val (.int p4), .val (.int (1 : Int32)), .val (.int (Int32.ofNat n)), .val (.ref b1), .val (.ref b10), .val (.int (1 : Int32)), .val (.int (Int32.ofNat n)), .unset, .unset, .unset, .unset, .unset] [(.int (2147483647 : Int32)), (.int p4)]))
          refine go (fun _ k => XS.iand X17.here hx rfl (hb hby at_121) rfl k) ?_
          show G (T17.setTop (mkF m 122 #[.val (.int p1), .val (.int p2), .val (.int p3), .val (.int p4), .val (.int (1 : Int32)), .val (.int (Int32.ofNat n)), .val (.ref b1), .val (.ref b10), .val (.int (1 : Int32)), .val (.int (Int32.ofNat n)), .unset, .unset, .unset, .unset, .unset] [(.int (p4 &&& (2147483647 : Int32)))]))
          refine go (fun _ k => XS.iload X17.here hx rfl (hb hby at_122) rfl k) ?_
          show G (T17.setTop (mkF m 124 #[.val (.int p1), .val (.int p2), .val (.int p3), .val (.int p4), .val (.int (1 : Int32)), .val (.int (Int32.ofNat n)), .val (.ref b1), .val (.ref b10), .val (.int (1 : Int32)), .val (.int (Int32.ofNat n)), .unset, .unset, .unset, .unset, .unset] [(.int (Int32.ofNat n)), (.int (p4 &&& (2147483647 : Int32)))]))
          refine go (fun _ k => iremM X17 hx rfl (hb hby at_124) rfl (own_onne n hnp (by omega)) k) ?_
          show G (T17.setTop (mkF m 125 #[.val (.int p1), .val (.int p2), .val (.int p3), .val (.int p4), .val (.int (1 : Int32)), .val (.int (Int32.ofNat n)), .val (.ref b1), .val (.ref b10), .val (.int (1 : Int32)), .val (.int (Int32.ofNat n)), .unset, .unset, .unset, .unset, .unset] [(.int ((p4 &&& (2147483647 : Int32)) % (Int32.ofNat n)))]))
          refine go (fun _ k => XS.istore X17.here hx rfl (hb hby at_125) rfl (l' := #[.val (.int p1), .val (.int p2), .val (.int p3), .val (.int p4), .val (.int (1 : Int32)), .val (.int (Int32.ofNat n)), .val (.ref b1), .val (.ref b10), .val (.int (1 : Int32)), .val (.int (Int32.ofNat n)), .val (.int ((p4 &&& (2147483647 : Int32)) % (Int32.ofNat n))), .unset, .unset, .unset, .unset]) rfl k) ?_
          show G (T17.setTop (mkF m 127 #[.val (.int p1), .val (.int p2), .val (.int p3), .val (.int p4), .val (.int (1 : Int32)), .val (.int (Int32.ofNat n)), .val (.ref b1), .val (.ref b10), .val (.int (1 : Int32)), .val (.int (Int32.ofNat n)), .val (.int ((p4 &&& (2147483647 : Int32)) % (Int32.ofNat n))), .unset, .unset, .unset, .unset] []))
          obtain ⟨i, hi, hie⟩ := own_rem p4 n hnp (by omega)
          rw [show ((p4 &&& (2147483647 : Int32)) % (Int32.ofNat n)) = (Int32.ofNat i) from hie]
          show G (T17.setTop (mkF m 127 #[.val (.int p1), .val (.int p2), .val (.int p3), .val (.int p4), .val (.int (1 : Int32)), .val (.int (Int32.ofNat n)), .val (.ref b1), .val (.ref b10), .val (.int (1 : Int32)), .val (.int (Int32.ofNat n)), .val (.int (Int32.ofNat i)), .unset, .unset, .unset, .unset] []))
          refine go (fun _ k => XS.aload X17.here hx rfl (hb hby at_127) rfl rfl k) ?_
          show G (T17.setTop (mkF m 129 #[.val (.int p1), .val (.int p2), .val (.int p3), .val (.int p4), .val (.int (1 : Int32)), .val (.int (Int32.ofNat n)), .val (.ref b1), .val (.ref b10), .val (.int (1 : Int32)), .val (.int (Int32.ofNat n)), .val (.int (Int32.ofNat i)), .unset, .unset, .unset, .unset] [(.ref b10)]))
          refine go (fun _ k => XS.iload X17.here hx rfl (hb hby at_129) rfl k) ?_
          show G (T17.setTop (mkF m 131 #[.val (.int p1), .val (.int p2), .val (.int p3), .val (.int p4), .val (.int (1 : Int32)), .val (.int (Int32.ofNat n)), .val (.ref b1), .val (.ref b10), .val (.int (1 : Int32)), .val (.int (Int32.ofNat n)), .val (.int (Int32.ofNat i)), .unset, .unset, .unset, .unset] [(.int (Int32.ofNat i)), (.ref b10)]))
          refine go (fun _ k => XS.i2l X17.here hx rfl (hb hby at_131) rfl k) ?_
          show G (T17.setTop (mkF m 132 #[.val (.int p1), .val (.int p2), .val (.int p3), .val (.int p4), .val (.int (1 : Int32)), .val (.int (Int32.ofNat n)), .val (.ref b1), .val (.ref b10), .val (.int (1 : Int32)), .val (.int (Int32.ofNat n)), .val (.int (Int32.ofNat i)), .unset, .unset, .unset, .unset] [(.long ((Int32.ofNat i).toInt64)), (.ref b10)]))
          rw [show ((Int32.ofNat i).toInt64) = (Int64.ofNat i) from own_i2l i (by omega)]
          show G (T17.setTop (mkF m 132 #[.val (.int p1), .val (.int p2), .val (.int p3), .val (.int p4), .val (.int (1 : Int32)), .val (.int (Int32.ofNat n)), .val (.ref b1), .val (.ref b10), .val (.int (1 : Int32)), .val (.int (Int32.ofNat n)), .val (.int (Int32.ofNat i)), .unset, .unset, .unset, .unset] [(.long (Int64.ofNat i)), (.ref b10)]))
          obtain ⟨cq116, kq116, qa116, qb116, qc116⟩ := isOf hZ e17 f16
          obtain ⟨_, _, ⟨T116, L116, k116, n116⟩, -, X116, ⟨Lc116, hQ116, l116, y116, z116⟩, st116⟩ := X17.virtualBack hx (y := (⟨"com/example/kerros/kerros/store/SortedChunks", "remove", "(J)V"⟩ : MethodName)) (z := (⟨"com/example/kerros/kerros/store/SortedChunks", "remove", "(J)V"⟩ : MethodName)) hown (mvT hZ (hw _ (List.mem_of_getElem? (i := 101) rfl))) (mvT hZ (hw _ (List.mem_of_getElem? (i := 102) rfl))) (notFace_of_selects (args := #[]) (mvT hZ (hw _ (List.mem_of_getElem? (i := 104) rfl)))) (mvT hZ (hw _ (List.mem_of_getElem? (i := 104) rfl))) (mvT hZ (hw _ (List.mem_of_getElem? (i := 103) rfl))) (by decide) (backOf (W := 0) (rm17w1 l Z a0 hw [] b10 i ca13 ck13 wa13 kc13 kw13 n cb13 T13.heap n0 Zs13 c13_6 c13_7 c13_8 c13_9 c13_10 c13_11 c13_12 c13_13 c13_14 ne_b10_ck13 ne_b10_wa13 c13_3 c13_4 c13_5 g_ck13 g_wa13 (by omega) (by omega) (by omega)) hZ (hw _ (List.mem_of_getElem? (i := 105) rfl)) (hw _ (List.mem_of_getElem? (i := 6) rfl)) (by decide) (by decide)) qa116 qc116 (g := (mkF m 132 #[.val (.int p1), .val (.int p2), .val (.int p3), .val (.int p4), .val (.int (1 : Int32)), .val (.int (Int32.ofNat n)), .val (.ref b1), .val (.ref b10), .val (.int (1 : Int32)), .val (.int (Int32.ofNat n)), .val (.int (Int32.ofNat i)), .unset, .unset, .unset, .unset] [(.long (Int64.ofNat i)), (.ref b10)])) rfl (by rw [hml]; rfl) (Steps.refl _) (argsL := [(.long (Int64.ofNat i))]) (rest := []) (lenOf pd_0_4 rfl) rfl (by show 2 * 0 + _ ≤ _; exact Nat.le_of_eq rfl) (hb hby at_132) (fun _ _ => ⟨rfl, e17, (by decide : 5 + 0 ≤ _), (by decide : 24 + 0 ≤ _)⟩)
          dsimp only [Pt.U, Pt.locs, Pt.cells, Pt.slots] at X116 l116 y116 z116 st116 hQ116
          subst l116 y116 z116
          obtain ⟨rfl, N116q, Kc116, c116_0, c116_1, c116_2⟩ := hQ116
          have f117 := f14.keep Kc116
          have f118 := f15.keep Kc116 (ninS ne_b1_ck13 (ninS ne_b1_wa13 nin0))
          have f119 := f16.keep Kc116
          have f120 := c13_6.keep Kc116 (ninS ne_b10_ck13 (ninS ne_b10_wa13 nin0))
          have f121 := c13_7.keep Kc116 (ninS ne_b10_ck13 (ninS ne_b10_wa13 nin0))
          have f122 := c13_8.keep Kc116 (ninS ne_b10_ck13 (ninS ne_b10_wa13 nin0))
          have f123 := c13_9.keep Kc116 (ninS c13_3 (ninS c13_4 nin0))
          have f124 := c13_10.keep Kc116
          have f125 := c13_14.keep Kc116
          have Zs116 : n0 ≤ T116.heap.size := Nat.le_trans Zs13 Kc116.1
          have N116 := Fr.app N17 N116q
          refine go (fun _ k => st116.trans k) ?_
          show G (T116.setTop (mkF m 135 #[.val (.int p1), .val (.int p2), .val (.int p3), .val (.int p4), .val (.int (1 : Int32)), .val (.int (Int32.ofNat n)), .val (.ref b1), .val (.ref b10), .val (.int (1 : Int32)), .val (.int (Int32.ofNat n)), .val (.int (Int32.ofNat i)), .unset, .unset, .unset, .unset] []))
          refine go (fun _ k => XS.iinc X116.here hx rfl (hb hby at_135) rfl (l' := #[.val (.int p1), .val (.int p2), .val (.int p3), .val (.int p4), .val (.int (1 : Int32)), .val (.int (Int32.ofNat n)), .val (.ref b1), .val (.ref b10), .val (.int (1 : Int32)), .val (.int ((Int32.ofNat n) + (-1 : Int32))), .val (.int (Int32.ofNat i)), .unset, .unset, .unset, .unset]) rfl k) ?_
          show G (T116.setTop (mkF m 138 #[.val (.int p1), .val (.int p2), .val (.int p3), .val (.int p4), .val (.int (1 : Int32)), .val (.int (Int32.ofNat n)), .val (.ref b1), .val (.ref b10), .val (.int (1 : Int32)), .val (.int ((Int32.ofNat n) + (-1 : Int32))), .val (.int (Int32.ofNat i)), .unset, .unset, .unset, .unset] []))
          rw [show ((Int32.ofNat n) + (-1 : Int32)) = (Int32.ofNat (n - 1)) from own_ondec n (by omega)]
          show G (T116.setTop (mkF m 138 #[.val (.int p1), .val (.int p2), .val (.int p3), .val (.int p4), .val (.int (1 : Int32)), .val (.int (Int32.ofNat n)), .val (.ref b1), .val (.ref b10), .val (.int (1 : Int32)), .val (.int (Int32.ofNat (n - 1))), .val (.int (Int32.ofNat i)), .unset, .unset, .unset, .unset] []))
          refine go (fun _ k => XS.iload X116.here hx rfl (hb hby at_138) rfl k) ?_
          show G (T116.setTop (mkF m 140 #[.val (.int p1), .val (.int p2), .val (.int p3), .val (.int p4), .val (.int (1 : Int32)), .val (.int (Int32.ofNat n)), .val (.ref b1), .val (.ref b10), .val (.int (1 : Int32)), .val (.int (Int32.ofNat (n - 1))), .val (.int (Int32.ofNat i)), .unset, .unset, .unset, .unset] [(.int (1 : Int32))]))
          have hc126 : ¬ ((1 : Int32) = (0 : Int32)) := (by decide)
          refine go (fun _ k => XS.ifNo X116.here hx rfl (hb hby at_140) rfl ((if0 _ _).trans (feq hc126).1) k) ?_
          show G (T116.setTop (mkF m 143 #[.val (.int p1), .val (.int p2), .val (.int p3), .val (.int p4), .val (.int (1 : Int32)), .val (.int (Int32.ofNat n)), .val (.ref b1), .val (.ref b10), .val (.int (1 : Int32)), .val (.int (Int32.ofNat (n - 1))), .val (.int (Int32.ofNat i)), .unset, .unset, .unset, .unset] []))
          refine go (fun _ k => XS.aload X116.here hx rfl (hb hby at_143) rfl rfl k) ?_
          show G (T116.setTop (mkF m 145 #[.val (.int p1), .val (.int p2), .val (.int p3), .val (.int p4), .val (.int (1 : Int32)), .val (.int (Int32.ofNat n)), .val (.ref b1), .val (.ref b10), .val (.int (1 : Int32)), .val (.int (Int32.ofNat (n - 1))), .val (.int (Int32.ofNat i)), .unset, .unset, .unset, .unset] [(.ref b10)]))
          obtain ⟨cq127, kq127, qa127, qb127, qc127⟩ := isOf hZ rfl f119
          obtain ⟨_, _, ⟨T127, L127, k127, n127⟩, -, X127, ⟨Lc127, hQ127, l127, y127, z127⟩, st127⟩ := X116.virtualBack hx (y := (⟨"com/example/kerros/kerros/store/SortedChunks", "isEmpty", "()Z"⟩ : MethodName)) (z := (⟨"com/example/kerros/kerros/store/SortedChunks", "isEmpty", "()Z"⟩ : MethodName)) hown (mvT hZ (hw _ (List.mem_of_getElem? (i := 54) rfl))) (mvT hZ (hw _ (List.mem_of_getElem? (i := 55) rfl))) (notFace_of_selects (args := #[]) (mvT hZ (hw _ (List.mem_of_getElem? (i := 57) rfl)))) (mvT hZ (hw _ (List.mem_of_getElem? (i := 57) rfl))) (mvT hZ (hw _ (List.mem_of_getElem? (i := 56) rfl))) (by decide) (backOf (W := 0) (rm9 l Z a0 hw [] b10 ca13 ck13 kc13 (Int32.ofNat (n - 1)) T116.heap n0 Zs116 f122 f123 c116_1) hZ (hw _ (List.mem_of_getElem? (i := 58) rfl)) (hw _ (List.mem_of_getElem? (i := 6) rfl)) (by decide) (by decide)) qa127 qc127 (g := (mkF m 145 #[.val (.int p1), .val (.int p2), .val (.int p3), .val (.int p4), .val (.int (1 : Int32)), .val (.int (Int32.ofNat n)), .val (.ref b1), .val (.ref b10), .val (.int (1 : Int32)), .val (.int (Int32.ofNat (n - 1))), .val (.int (Int32.ofNat i)), .unset, .unset, .unset, .unset] [(.ref b10)])) rfl (by rw [hml]; rfl) (Steps.refl _) (argsL := []) (rest := []) (lenOf pd_0_1 rfl) rfl (by show 2 * 0 + _ ≤ _; exact Nat.le_of_eq rfl) (hb hby at_145) (fun _ _ => ⟨rfl, rfl, (by decide : 5 + 0 ≤ _), (by decide : 24 + 0 ≤ _)⟩)
          dsimp only [Pt.U, Pt.locs, Pt.cells, Pt.slots] at X127 l127 y127 z127 st127 hQ127
          subst l127 y127 z127
          obtain ⟨rfl, N127q, e127⟩ := hQ127
          have N127 := Fr.app N116 N127q
          refine go (fun _ k => st127.trans k) ?_
          show G (T127.setTop (mkF m 148 #[.val (.int p1), .val (.int p2), .val (.int p3), .val (.int p4), .val (.int (1 : Int32)), .val (.int (Int32.ofNat n)), .val (.ref b1), .val (.ref b10), .val (.int (1 : Int32)), .val (.int (Int32.ofNat (n - 1))), .val (.int (Int32.ofNat i)), .unset, .unset, .unset, .unset] [(.int (emp (Int32.ofNat (n - 1))))]))
          have J166_128 : G (T127.setTop (mkF m 166 #[.val (.int p1), .val (.int p2), .val (.int p3), .val (.int p4), .val (.int (1 : Int32)), .val (.int (Int32.ofNat n)), .val (.ref b1), .val (.ref b10), .val (.int (1 : Int32)), .val (.int (Int32.ofNat (n - 1))), .val (.int (Int32.ofNat i)), .unset, .unset, .unset, .unset] [(.int (1 : Int32))])) := by
            refine go (fun _ k => XS.istore X127.here hx rfl (hb hby at_166) rfl (l' := #[.val (.int p1), .val (.int p2), .val (.int p3), .val (.int p4), .val (.int (1 : Int32)), .val (.int (Int32.ofNat n)), .val (.ref b1), .val (.ref b10), .val (.int (1 : Int32)), .val (.int (Int32.ofNat (n - 1))), .val (.int (Int32.ofNat i)), .unset, .unset, .unset, .unset]) rfl k) ?_
            show G (T127.setTop (mkF m 168 #[.val (.int p1), .val (.int p2), .val (.int p3), .val (.int p4), .val (.int (1 : Int32)), .val (.int (Int32.ofNat n)), .val (.ref b1), .val (.ref b10), .val (.int (1 : Int32)), .val (.int (Int32.ofNat (n - 1))), .val (.int (Int32.ofNat i)), .unset, .unset, .unset, .unset] []))
            refine go (fun _ k => XS.iloadN X127.here hx rfl (hb hby at_168) rfl k) ?_
            show G (T127.setTop (mkF m 169 #[.val (.int p1), .val (.int p2), .val (.int p3), .val (.int p4), .val (.int (1 : Int32)), .val (.int (Int32.ofNat n)), .val (.ref b1), .val (.ref b10), .val (.int (1 : Int32)), .val (.int (Int32.ofNat (n - 1))), .val (.int (Int32.ofNat i)), .unset, .unset, .unset, .unset] [(.int p3)]))
            refine go (fun _ k => XS.iconst X127.here hx rfl (hb hby at_169) k) ?_
            show G (T127.setTop (mkF m 170 #[.val (.int p1), .val (.int p2), .val (.int p3), .val (.int p4), .val (.int (1 : Int32)), .val (.int (Int32.ofNat n)), .val (.ref b1), .val (.ref b10), .val (.int (1 : Int32)), .val (.int (Int32.ofNat (n - 1))), .val (.int (Int32.ofNat i)), .unset, .unset, .unset, .unset] [(.int (2 : Int32)), (.int p3)]))
            refine go (fun _ k => XS.iand X127.here hx rfl (hb hby at_170) rfl k) ?_
            show G (T127.setTop (mkF m 171 #[.val (.int p1), .val (.int p2), .val (.int p3), .val (.int p4), .val (.int (1 : Int32)), .val (.int (Int32.ofNat n)), .val (.ref b1), .val (.ref b10), .val (.int (1 : Int32)), .val (.int (Int32.ofNat (n - 1))), .val (.int (Int32.ofNat i)), .unset, .unset, .unset, .unset] [(.int (p3 &&& (2 : Int32)))]))
            by_cases hc171_129 : (p3 &&& (2 : Int32)) = (0 : Int32)
            · refine go (fun _ k => XS.ifYes X127.here hx rfl (pc0 := 171) (pc' := 302) rfl (hb hby at_171) rfl ((if0 _ _).trans (teq hc171_129).1) (by decide) (by decide) k) ?_
              show G (T127.setTop (mkF m 302 #[.val (.int p1), .val (.int p2), .val (.int p3), .val (.int p4), .val (.int (1 : Int32)), .val (.int (Int32.ofNat n)), .val (.ref b1), .val (.ref b10), .val (.int (1 : Int32)), .val (.int (Int32.ofNat (n - 1))), .val (.int (Int32.ofNat i)), .unset, .unset, .unset, .unset] []))
              refine go (fun _ k => XS.iload X127.here hx rfl (hb hby at_302) rfl k) ?_
              show G (T127.setTop (mkF m 304 #[.val (.int p1), .val (.int p2), .val (.int p3), .val (.int p4), .val (.int (1 : Int32)), .val (.int (Int32.ofNat n)), .val (.ref b1), .val (.ref b10), .val (.int (1 : Int32)), .val (.int (Int32.ofNat (n - 1))), .val (.int (Int32.ofNat i)), .unset, .unset, .unset, .unset] [(.int (1 : Int32))]))
              rw [hG]
              refine own_fin X127 Bd.notSynchronized (v := some (.int (1 : Int32))) (fun h => by rw [Bd.returns] at h; cases h) (fun fs hr => retOut X127 hx Bd.returns rfl (by simp [FieldType.isReference, Value.isRef]) (hb hby at_304) hr) ?_ (by decide) (by decide)
              show Q0 Z p1 p2 p3 p4 h0 n0 (some (.int (1 : Int32))) T127.heap _
              rw [e127]
              exact ⟨rfl, N127⟩
            · refine go (fun _ k => XS.ifNo X127.here hx rfl (hb hby at_171) rfl ((if0 _ _).trans (feq hc171_129).1) k) ?_
              show G (T127.setTop (mkF m 174 #[.val (.int p1), .val (.int p2), .val (.int p3), .val (.int p4), .val (.int (1 : Int32)), .val (.int (Int32.ofNat n)), .val (.ref b1), .val (.ref b10), .val (.int (1 : Int32)), .val (.int (Int32.ofNat (n - 1))), .val (.int (Int32.ofNat i)), .unset, .unset, .unset, .unset] []))
              refine go (fun _ k => XS.iloadN X127.here hx rfl (hb hby at_174) rfl k) ?_
              show G (T127.setTop (mkF m 175 #[.val (.int p1), .val (.int p2), .val (.int p3), .val (.int p4), .val (.int (1 : Int32)), .val (.int (Int32.ofNat n)), .val (.ref b1), .val (.ref b10), .val (.int (1 : Int32)), .val (.int (Int32.ofNat (n - 1))), .val (.int (Int32.ofNat i)), .unset, .unset, .unset, .unset] [(.int p3)]))
              refine go (fun _ k => XS.iconst X127.here hx rfl (hb hby at_175) k) ?_
              show G (T127.setTop (mkF m 176 #[.val (.int p1), .val (.int p2), .val (.int p3), .val (.int p4), .val (.int (1 : Int32)), .val (.int (Int32.ofNat n)), .val (.ref b1), .val (.ref b10), .val (.int (1 : Int32)), .val (.int (Int32.ofNat (n - 1))), .val (.int (Int32.ofNat i)), .unset, .unset, .unset, .unset] [(.int (4 : Int32)), (.int p3)]))
              refine go (fun _ k => XS.iand X127.here hx rfl (hb hby at_176) rfl k) ?_
              show G (T127.setTop (mkF m 177 #[.val (.int p1), .val (.int p2), .val (.int p3), .val (.int p4), .val (.int (1 : Int32)), .val (.int (Int32.ofNat n)), .val (.ref b1), .val (.ref b10), .val (.int (1 : Int32)), .val (.int (Int32.ofNat (n - 1))), .val (.int (Int32.ofNat i)), .unset, .unset, .unset, .unset] [(.int (p3 &&& (4 : Int32)))]))
              by_cases hc177_130 : (p3 &&& (4 : Int32)) = (0 : Int32)
              · refine go (fun _ k => XS.ifYes X127.here hx rfl (pc0 := 177) (pc' := 184) rfl (hb hby at_177) rfl ((if0 _ _).trans (teq hc177_130).1) (by decide) (by decide) k) ?_
                show G (T127.setTop (mkF m 184 #[.val (.int p1), .val (.int p2), .val (.int p3), .val (.int p4), .val (.int (1 : Int32)), .val (.int (Int32.ofNat n)), .val (.ref b1), .val (.ref b10), .val (.int (1 : Int32)), .val (.int (Int32.ofNat (n - 1))), .val (.int (Int32.ofNat i)), .unset, .unset, .unset, .unset] []))
                refine go (fun _ k => XS.iconst X127.here hx rfl (hb hby at_184) k) ?_
                show G (T127.setTop (mkF m 185 #[.val (.int p1), .val (.int p2), .val (.int p3), .val (.int p4), .val (.int (1 : Int32)), .val (.int (Int32.ofNat n)), .val (.ref b1), .val (.ref b10), .val (.int (1 : Int32)), .val (.int (Int32.ofNat (n - 1))), .val (.int (Int32.ofNat i)), .unset, .unset, .unset, .unset] [(.int (0 : Int32))]))
                refine go (fun _ k => XS.istore X127.here hx rfl (hb hby at_185) rfl (l' := #[.val (.int p1), .val (.int p2), .val (.int p3), .val (.int p4), .val (.int (1 : Int32)), .val (.int (Int32.ofNat n)), .val (.ref b1), .val (.ref b10), .val (.int (1 : Int32)), .val (.int (Int32.ofNat (n - 1))), .val (.int (0 : Int32)), .unset, .unset, .unset, .unset]) rfl k) ?_
                show G (T127.setTop (mkF m 187 #[.val (.int p1), .val (.int p2), .val (.int p3), .val (.int p4), .val (.int (1 : Int32)), .val (.int (Int32.ofNat n)), .val (.ref b1), .val (.ref b10), .val (.int (1 : Int32)), .val (.int (Int32.ofNat (n - 1))), .val (.int (0 : Int32)), .unset, .unset, .unset, .unset] []))
                refine go (fun _ k => XS.iload X127.here hx rfl (hb hby at_187) rfl k) ?_
                show G (T127.setTop (mkF m 189 #[.val (.int p1), .val (.int p2), .val (.int p3), .val (.int p4), .val (.int (1 : Int32)), .val (.int (Int32.ofNat n)), .val (.ref b1), .val (.ref b10), .val (.int (1 : Int32)), .val (.int (Int32.ofNat (n - 1))), .val (.int (0 : Int32)), .unset, .unset, .unset, .unset] [(.int (0 : Int32))]))
                have hc131 : (0 : Int32) = (0 : Int32) := rfl
                refine go (fun _ k => XS.ifYes X127.here hx rfl (pc0 := 189) (pc' := 198) rfl (hb hby at_189) rfl ((if0 _ _).trans (teq hc131).1) (by decide) (by decide) k) ?_
                show G (T127.setTop (mkF m 198 #[.val (.int p1), .val (.int p2), .val (.int p3), .val (.int p4), .val (.int (1 : Int32)), .val (.int (Int32.ofNat n)), .val (.ref b1), .val (.ref b10), .val (.int (1 : Int32)), .val (.int (Int32.ofNat (n - 1))), .val (.int (0 : Int32)), .unset, .unset, .unset, .unset] []))
                refine go (fun _ k => XS.lconst X127.here hx rfl (hb hby at_198) k) ?_
                show G (T127.setTop (mkF m 199 #[.val (.int p1), .val (.int p2), .val (.int p3), .val (.int p4), .val (.int (1 : Int32)), .val (.int (Int32.ofNat n)), .val (.ref b1), .val (.ref b10), .val (.int (1 : Int32)), .val (.int (Int32.ofNat (n - 1))), .val (.int (0 : Int32)), .unset, .unset, .unset, .unset] [(.long (0 : Int64))]))
                refine go (fun _ k => XS.lstore X127.here hx rfl (hb hby at_199) rfl (l' := #[.val (.int p1), .val (.int p2), .val (.int p3), .val (.int p4), .val (.int (1 : Int32)), .val (.int (Int32.ofNat n)), .val (.ref b1), .val (.ref b10), .val (.int (1 : Int32)), .val (.int (Int32.ofNat (n - 1))), .val (.int (0 : Int32)), .val (.long (0 : Int64)), .second, .unset, .unset]) rfl k) ?_
                show G (T127.setTop (mkF m 201 #[.val (.int p1), .val (.int p2), .val (.int p3), .val (.int p4), .val (.int (1 : Int32)), .val (.int (Int32.ofNat n)), .val (.ref b1), .val (.ref b10), .val (.int (1 : Int32)), .val (.int (Int32.ofNat (n - 1))), .val (.int (0 : Int32)), .val (.long (0 : Int64)), .second, .unset, .unset] []))
                refine go (fun _ k => XS.aload X127.here hx rfl (hb hby at_201) rfl rfl k) ?_
                show G (T127.setTop (mkF m 203 #[.val (.int p1), .val (.int p2), .val (.int p3), .val (.int p4), .val (.int (1 : Int32)), .val (.int (Int32.ofNat n)), .val (.ref b1), .val (.ref b10), .val (.int (1 : Int32)), .val (.int (Int32.ofNat (n - 1))), .val (.int (0 : Int32)), .val (.long (0 : Int64)), .second, .unset, .unset] [(.ref b10)]))
                refine go (fun _ k => XS.lload X127.here hx rfl (hb hby at_203) rfl k) ?_
                show G (T127.setTop (mkF m 205 #[.val (.int p1), .val (.int p2), .val (.int p3), .val (.int p4), .val (.int (1 : Int32)), .val (.int (Int32.ofNat n)), .val (.ref b1), .val (.ref b10), .val (.int (1 : Int32)), .val (.int (Int32.ofNat (n - 1))), .val (.int (0 : Int32)), .val (.long (0 : Int64)), .second, .unset, .unset] [(.long (0 : Int64)), (.ref b10)]))
                obtain ⟨cq132, kq132, qa132, qb132, qc132⟩ := isOf hZ e127 f119
                obtain ⟨_, _, ⟨T132, L132, k132, n132⟩, -, X132, ⟨Lc132, hQ132, l132, y132, z132⟩, st132⟩ := X127.virtualBack hx (y := (⟨"com/example/kerros/kerros/store/SortedChunks", "insert", "(J)J"⟩ : MethodName)) (z := (⟨"com/example/kerros/kerros/store/SortedChunks", "insert", "(J)J"⟩ : MethodName)) hown (mvT hZ (hw _ (List.mem_of_getElem? (i := 60) rfl))) (mvT hZ (hw _ (List.mem_of_getElem? (i := 61) rfl))) (notFace_of_selects (args := #[]) (mvT hZ (hw _ (List.mem_of_getElem? (i := 63) rfl)))) (mvT hZ (hw _ (List.mem_of_getElem? (i := 63) rfl))) (mvT hZ (hw _ (List.mem_of_getElem? (i := 62) rfl))) (by decide) (backOf (W := 0) (rm10w1 l Z a0 hw [] b10 0 ca13 ck13 wa13 kc13 kw13 (n - 1) cb13 T116.heap n0 Zs116 f120 f121 f122 f123 f124 c116_0 c116_1 c116_2 f125 ne_b10_ck13 ne_b10_wa13 c13_3 c13_4 c13_5 g_ck13 g_wa13 (by omega) (by omega) (by omega) (by omega)) hZ (hw _ (List.mem_of_getElem? (i := 64) rfl)) (hw _ (List.mem_of_getElem? (i := 6) rfl)) (by decide) (by decide)) qa132 qc132 (g := (mkF m 205 #[.val (.int p1), .val (.int p2), .val (.int p3), .val (.int p4), .val (.int (1 : Int32)), .val (.int (Int32.ofNat n)), .val (.ref b1), .val (.ref b10), .val (.int (1 : Int32)), .val (.int (Int32.ofNat (n - 1))), .val (.int (0 : Int32)), .val (.long (0 : Int64)), .second, .unset, .unset] [(.long (0 : Int64)), (.ref b10)])) rfl (by rw [hml]; rfl) (Steps.refl _) (argsL := [(.long (0 : Int64))]) (rest := []) (lenOf pd_0_2 rfl) rfl (by show 2 * 0 + _ ≤ _; exact Nat.le_of_eq rfl) (hb hby at_205) (fun _ _ => ⟨rfl, e127, (by decide : 5 + 1 ≤ _), (by decide : 24 + 12 ≤ _)⟩)
                dsimp only [Pt.U, Pt.locs, Pt.cells, Pt.slots] at X132 l132 y132 z132 st132 hQ132
                subst l132 y132 z132
                obtain ⟨wx132, kx132, dx132, rfl, N132q, Kc132, c132_0, c132_1, c132_2, c132_3, c132_4, c132_5, c132_6⟩ := hQ132
                have ne_b1_wx132 : b1 ≠ wx132 := c132_0.elim (fun q => by rw [q]; exact ne_b1_wa13) (fun q => Nat.ne_of_lt (Nat.lt_of_lt_of_le f117.lt q))
                have ne_b10_wx132 : b10 ≠ wx132 := c132_0.elim (fun q => by rw [q]; exact ne_b10_wa13) (fun q => Nat.ne_of_lt (Nat.lt_of_lt_of_le f119.lt q))
                have ne_ca13_wx132 : ca13 ≠ wx132 := c132_0.elim (fun q => by rw [q]; exact c13_4) (fun q => Nat.ne_of_lt (Nat.lt_of_lt_of_le f123.lt q))
                have ne_ck13_wx132 : ck13 ≠ wx132 := c132_0.elim (fun q => by rw [q]; exact c13_5) (fun q => Nat.ne_of_lt (Nat.lt_of_lt_of_le f124.lt q))
                have g_wx132 : n0 ≤ wx132 := c132_0.elim (fun q => by rw [q]; exact g_wa13) (fun q => Nat.le_trans Zs116 q)
                have f133 := f117.keep Kc132
                have f134 := f118.keep Kc132 (ninS ne_b1_ck13 (ninS ne_b1_wa13 nin0))
                have f135 := f119.keep Kc132
                have f136 := f120.keep Kc132 (ninS ne_b10_ck13 (ninS ne_b10_wa13 nin0))
                have f137 := f121.keep Kc132 (ninS ne_b10_ck13 (ninS ne_b10_wa13 nin0))
                have f138 := f122.keep Kc132 (ninS ne_b10_ck13 (ninS ne_b10_wa13 nin0))
                have f139 := f123.keep Kc132 (ninS c13_3 (ninS c13_4 nin0))
                have f140 := f124.keep Kc132
                have f141 := f125.keep Kc132
                have Zs132 : n0 ≤ T132.heap.size := Nat.le_trans Zs116 Kc132.1
                have N132 := Fr.app N127 N132q
                refine go (fun _ k => st132.trans k) ?_
                show G (T132.setTop (mkF m 208 #[.val (.int p1), .val (.int p2), .val (.int p3), .val (.int p4), .val (.int (1 : Int32)), .val (.int (Int32.ofNat n)), .val (.ref b1), .val (.ref b10), .val (.int (1 : Int32)), .val (.int (Int32.ofNat (n - 1))), .val (.int (0 : Int32)), .val (.long (0 : Int64)), .second, .unset, .unset] [(.long (Int64.ofNat 0))]))
                refine go (fun _ k => XS.lstore X132.here hx rfl (hb hby at_208) rfl (l' := #[.val (.int p1), .val (.int p2), .val (.int p3), .val (.int p4), .val (.int (1 : Int32)), .val (.int (Int32.ofNat n)), .val (.ref b1), .val (.ref b10), .val (.int (1 : Int32)), .val (.int (Int32.ofNat (n - 1))), .val (.int (0 : Int32)), .val (.long (0 : Int64)), .second, .val (.long (Int64.ofNat 0)), .second]) rfl k) ?_
                show G (T132.setTop (mkF m 210 #[.val (.int p1), .val (.int p2), .val (.int p3), .val (.int p4), .val (.int (1 : Int32)), .val (.int (Int32.ofNat n)), .val (.ref b1), .val (.ref b10), .val (.int (1 : Int32)), .val (.int (Int32.ofNat (n - 1))), .val (.int (0 : Int32)), .val (.long (0 : Int64)), .second, .val (.long (Int64.ofNat 0)), .second] []))
                refine go (fun _ k => XS.aload X132.here hx rfl (hb hby at_210) rfl rfl k) ?_
                show G (T132.setTop (mkF m 212 #[.val (.int p1), .val (.int p2), .val (.int p3), .val (.int p4), .val (.int (1 : Int32)), .val (.int (Int32.ofNat n)), .val (.ref b1), .val (.ref b10), .val (.int (1 : Int32)), .val (.int (Int32.ofNat (n - 1))), .val (.int (0 : Int32)), .val (.long (0 : Int64)), .second, .val (.long (Int64.ofNat 0)), .second] [(.ref b10)]))
                refine go (fun _ k => XS.lload X132.here hx rfl (hb hby at_212) rfl k) ?_
                show G (T132.setTop (mkF m 214 #[.val (.int p1), .val (.int p2), .val (.int p3), .val (.int p4), .val (.int (1 : Int32)), .val (.int (Int32.ofNat n)), .val (.ref b1), .val (.ref b10), .val (.int (1 : Int32)), .val (.int (Int32.ofNat (n - 1))), .val (.int (0 : Int32)), .val (.long (0 : Int64)), .second, .val (.long (Int64.ofNat 0)), .second] [(.long (Int64.ofNat 0)), (.ref b10)]))
                refine go (fun _ k => XS.iconst X132.here hx rfl (hb hby at_214) k) ?_
                show G (T132.setTop (mkF m 215 #[.val (.int p1), .val (.int p2), .val (.int p3), .val (.int p4), .val (.int (1 : Int32)), .val (.int (Int32.ofNat n)), .val (.ref b1), .val (.ref b10), .val (.int (1 : Int32)), .val (.int (Int32.ofNat (n - 1))), .val (.int (0 : Int32)), .val (.long (0 : Int64)), .second, .val (.long (Int64.ofNat 0)), .second] [(.int (0 : Int32)), (.long (Int64.ofNat 0)), (.ref b10)]))
                refine go (fun _ k => XS.iload X132.here hx rfl (hb hby at_215) rfl k) ?_
                show G (T132.setTop (mkF m 217 #[.val (.int p1), .val (.int p2), .val (.int p3), .val (.int p4), .val (.int (1 : Int32)), .val (.int (Int32.ofNat n)), .val (.ref b1), .val (.ref b10), .val (.int (1 : Int32)), .val (.int (Int32.ofNat (n - 1))), .val (.int (0 : Int32)), .val (.long (0 : Int64)), .second, .val (.long (Int64.ofNat 0)), .second] [(.int (0 : Int32)), (.int (0 : Int32)), (.long (Int64.ofNat 0)), (.ref b10)]))
                have hc142 : (0 : Int32) = (0 : Int32) := rfl
                refine go (fun _ k => XS.ifYes X132.here hx rfl (pc0 := 217) (pc' := 226) rfl (hb hby at_217) rfl ((if0 _ _).trans (teq hc142).1) (by decide) (by decide) k) ?_
                show G (T132.setTop (mkF m 226 #[.val (.int p1), .val (.int p2), .val (.int p3), .val (.int p4), .val (.int (1 : Int32)), .val (.int (Int32.ofNat n)), .val (.ref b1), .val (.ref b10), .val (.int (1 : Int32)), .val (.int (Int32.ofNat (n - 1))), .val (.int (0 : Int32)), .val (.long (0 : Int64)), .second, .val (.long (Int64.ofNat 0)), .second] [(.int (0 : Int32)), (.long (Int64.ofNat 0)), (.ref b10)]))
                refine go (X132.ldc2Long hx hown (mvT hZ (hw _ (List.mem_of_getElem? (i := 85) rfl))) (g := (mkF m 226 #[.val (.int p1), .val (.int p2), .val (.int p3), .val (.int p4), .val (.int (1 : Int32)), .val (.int (Int32.ofNat n)), .val (.ref b1), .val (.ref b10), .val (.int (1 : Int32)), .val (.int (Int32.ofNat (n - 1))), .val (.int (0 : Int32)), .val (.long (0 : Int64)), .second, .val (.long (Int64.ofNat 0)), .second] [(.int (0 : Int32)), (.long (Int64.ofNat 0)), (.ref b10)])) rfl (hb hby at_226)) ?_
                show G (T132.setTop (mkF m 229 #[.val (.int p1), .val (.int p2), .val (.int p3), .val (.int p4), .val (.int (1 : Int32)), .val (.int (Int32.ofNat n)), .val (.ref b1), .val (.ref b10), .val (.int (1 : Int32)), .val (.int (Int32.ofNat (n - 1))), .val (.int (0 : Int32)), .val (.long (0 : Int64)), .second, .val (.long (Int64.ofNat 0)), .second] [(.long (-1 : Int64)), (.int (0 : Int32)), (.long (Int64.ofNat 0)), (.ref b10)]))
                obtain ⟨cq143, kq143, qa143, qb143, qc143⟩ := isOf hZ rfl f135
                obtain ⟨_, _, ⟨T143, L143, k143, n143⟩, -, X143, ⟨Lc143, hQ143, l143, y143, z143⟩, st143⟩ := X132.virtualBack hx (y := (⟨"com/example/kerros/kerros/store/SortedChunks", "setWord", "(JIJ)V"⟩ : MethodName)) (z := (⟨"com/example/kerros/kerros/store/SortedChunks", "setWord", "(JIJ)V"⟩ : MethodName)) hown (mvT hZ (hw _ (List.mem_of_getElem? (i := 86) rfl))) (mvT hZ (hw _ (List.mem_of_getElem? (i := 87) rfl))) (notFace_of_selects (args := #[]) (mvT hZ (hw _ (List.mem_of_getElem? (i := 89) rfl)))) (mvT hZ (hw _ (List.mem_of_getElem? (i := 89) rfl))) (mvT hZ (hw _ (List.mem_of_getElem? (i := 88) rfl))) (by decide) (backOf (W := 0) (rm16w1 l Z a0 hw [] b10 (-1 : Int64) 0 ca13 ck13 wx132 kc13 kx132 ((n - 1) + 1) dx132 T132.heap n0 Zs132 f136 f137 f138 f139 f140 c132_1 c132_2 c132_3 c132_4 ne_b10_ck13 ne_b10_wx132 c13_3 ne_ca13_wx132 ne_ck13_wx132 g_ck13 g_wx132 (by omega) (by omega) (by omega)) hZ (hw _ (List.mem_of_getElem? (i := 90) rfl)) (hw _ (List.mem_of_getElem? (i := 6) rfl)) (by decide) (by decide)) qa143 qc143 (g := (mkF m 229 #[.val (.int p1), .val (.int p2), .val (.int p3), .val (.int p4), .val (.int (1 : Int32)), .val (.int (Int32.ofNat n)), .val (.ref b1), .val (.ref b10), .val (.int (1 : Int32)), .val (.int (Int32.ofNat (n - 1))), .val (.int (0 : Int32)), .val (.long (0 : Int64)), .second, .val (.long (Int64.ofNat 0)), .second] [(.long (-1 : Int64)), (.int (0 : Int32)), (.long (Int64.ofNat 0)), (.ref b10)])) rfl (by rw [hml]; rfl) (Steps.refl _) (argsL := [(.long (Int64.ofNat 0)), (.int (0 : Int32)), (.long (-1 : Int64))]) (rest := []) (lenOf pd_0_3 rfl) rfl (by show 2 * 0 + _ ≤ _; exact Nat.le_of_eq rfl) (hb hby at_229) (fun _ _ => ⟨rfl, rfl, (by decide : 6 + 0 ≤ _), (by decide : 36 + 0 ≤ _)⟩)
                dsimp only [Pt.U, Pt.locs, Pt.cells, Pt.slots] at X143 l143 y143 z143 st143 hQ143
                subst l143 y143 z143
                obtain ⟨rfl, N143q, Kc143, c143_0⟩ := hQ143
                have f144 := f133.keep Kc143
                have f145 := f134.keep Kc143 (ninS ne_b1_wx132 nin0)
                have f146 := f135.keep Kc143
                have f147 := f136.keep Kc143 (ninS ne_b10_wx132 nin0)
                have f148 := f137.keep Kc143 (ninS ne_b10_wx132 nin0)
                have f149 := f138.keep Kc143 (ninS ne_b10_wx132 nin0)
                have f150 := f139.keep Kc143 (ninS ne_ca13_wx132 nin0)
                have f151 := f140.keep Kc143
                have f152 := f141.keep Kc143
                have f153 := c132_1.keep Kc143 (ninS ne_ck13_wx132 nin0)
                have f154 := c132_2.keep Kc143 (ninS ne_ck13_wx132 nin0)
                have f155 := c132_4.keep Kc143
                have Zs143 : n0 ≤ T143.heap.size := Nat.le_trans Zs132 Kc143.1
                have N143 := Fr.app N132 N143q
                refine go (fun _ k => st143.trans k) ?_
                show G (T143.setTop (mkF m 232 #[.val (.int p1), .val (.int p2), .val (.int p3), .val (.int p4), .val (.int (1 : Int32)), .val (.int (Int32.ofNat n)), .val (.ref b1), .val (.ref b10), .val (.int (1 : Int32)), .val (.int (Int32.ofNat (n - 1))), .val (.int (0 : Int32)), .val (.long (0 : Int64)), .second, .val (.long (Int64.ofNat 0)), .second] []))
                refine go (fun _ k => XS.iinc X143.here hx rfl (hb hby at_232) rfl (l' := #[.val (.int p1), .val (.int p2), .val (.int p3), .val (.int p4), .val (.int (1 : Int32)), .val (.int (Int32.ofNat n)), .val (.ref b1), .val (.ref b10), .val (.int (1 : Int32)), .val (.int ((Int32.ofNat (n - 1)) + (1 : Int32))), .val (.int (0 : Int32)), .val (.long (0 : Int64)), .second, .val (.long (Int64.ofNat 0)), .second]) rfl k) ?_
                show G (T143.setTop (mkF m 235 #[.val (.int p1), .val (.int p2), .val (.int p3), .val (.int p4), .val (.int (1 : Int32)), .val (.int (Int32.ofNat n)), .val (.ref b1), .val (.ref b10), .val (.int (1 : Int32)), .val (.int ((Int32.ofNat (n - 1)) + (1 : Int32))), .val (.int (0 : Int32)), .val (.long (0 : Int64)), .second, .val (.long (Int64.ofNat 0)), .second] []))
                rw [show ((Int32.ofNat (n - 1)) + (1 : Int32)) = (Int32.ofNat ((n - 1) + 1)) from own_onadd (n - 1) 1]
                show G (T143.setTop (mkF m 235 #[.val (.int p1), .val (.int p2), .val (.int p3), .val (.int p4), .val (.int (1 : Int32)), .val (.int (Int32.ofNat n)), .val (.ref b1), .val (.ref b10), .val (.int (1 : Int32)), .val (.int (Int32.ofNat ((n - 1) + 1))), .val (.int (0 : Int32)), .val (.long (0 : Int64)), .second, .val (.long (Int64.ofNat 0)), .second] []))
                refine go (fun _ k => XS.iload X143.here hx rfl (hb hby at_235) rfl k) ?_
                show G (T143.setTop (mkF m 237 #[.val (.int p1), .val (.int p2), .val (.int p3), .val (.int p4), .val (.int (1 : Int32)), .val (.int (Int32.ofNat n)), .val (.ref b1), .val (.ref b10), .val (.int (1 : Int32)), .val (.int (Int32.ofNat ((n - 1) + 1))), .val (.int (0 : Int32)), .val (.long (0 : Int64)), .second, .val (.long (Int64.ofNat 0)), .second] [(.int (1 : Int32))]))
                have hc156 : ¬ ((1 : Int32) = (0 : Int32)) := (by decide)
                refine go (fun _ k => XS.ifNo X143.here hx rfl (hb hby at_237) rfl ((if0 _ _).trans (feq hc156).1) k) ?_
                show G (T143.setTop (mkF m 240 #[.val (.int p1), .val (.int p2), .val (.int p3), .val (.int p4), .val (.int (1 : Int32)), .val (.int (Int32.ofNat n)), .val (.ref b1), .val (.ref b10), .val (.int (1 : Int32)), .val (.int (Int32.ofNat ((n - 1) + 1))), .val (.int (0 : Int32)), .val (.long (0 : Int64)), .second, .val (.long (Int64.ofNat 0)), .second] []))
                refine go (fun _ k => XS.aload X143.here hx rfl (hb hby at_240) rfl rfl k) ?_
                show G (T143.setTop (mkF m 242 #[.val (.int p1), .val (.int p2), .val (.int p3), .val (.int p4), .val (.int (1 : Int32)), .val (.int (Int32.ofNat n)), .val (.ref b1), .val (.ref b10), .val (.int (1 : Int32)), .val (.int (Int32.ofNat ((n - 1) + 1))), .val (.int (0 : Int32)), .val (.long (0 : Int64)), .second, .val (.long (Int64.ofNat 0)), .second] [(.ref b10)]))
                obtain ⟨cq157, kq157, qa157, qb157, qc157⟩ := isOf hZ rfl f146
                obtain ⟨_, _, ⟨T157, L157, k157, n157⟩, -, X157, ⟨Lc157, hQ157, l157, y157, z157⟩, st157⟩ := X143.virtualBack hx (y := (⟨"com/example/kerros/kerros/store/SortedChunks", "isEmpty", "()Z"⟩ : MethodName)) (z := (⟨"com/example/kerros/kerros/store/SortedChunks", "isEmpty", "()Z"⟩ : MethodName)) hown (mvT hZ (hw _ (List.mem_of_getElem? (i := 54) rfl))) (mvT hZ (hw _ (List.mem_of_getElem? (i := 55) rfl))) (notFace_of_selects (args := #[]) (mvT hZ (hw _ (List.mem_of_getElem? (i := 57) rfl)))) (mvT hZ (hw _ (List.mem_of_getElem? (i := 57) rfl))) (mvT hZ (hw _ (List.mem_of_getElem? (i := 56) rfl))) (by decide) (backOf (W := 0) (rm9 l Z a0 hw [] b10 ca13 ck13 kc13 (Int32.ofNat ((n - 1) + 1)) T143.heap n0 Zs143 f149 f150 f154) hZ (hw _ (List.mem_of_getElem? (i := 58) rfl)) (hw _ (List.mem_of_getElem? (i := 6) rfl)) (by decide) (by decide)) qa157 qc157 (g := (mkF m 242 #[.val (.int p1), .val (.int p2), .val (.int p3), .val (.int p4), .val (.int (1 : Int32)), .val (.int (Int32.ofNat n)), .val (.ref b1), .val (.ref b10), .val (.int (1 : Int32)), .val (.int (Int32.ofNat ((n - 1) + 1))), .val (.int (0 : Int32)), .val (.long (0 : Int64)), .second, .val (.long (Int64.ofNat 0)), .second] [(.ref b10)])) rfl (by rw [hml]; rfl) (Steps.refl _) (argsL := []) (rest := []) (lenOf pd_0_1 rfl) rfl (by show 2 * 0 + _ ≤ _; exact Nat.le_of_eq rfl) (hb hby at_242) (fun _ _ => ⟨rfl, rfl, (by decide : 6 + 0 ≤ _), (by decide : 36 + 0 ≤ _)⟩)
                dsimp only [Pt.U, Pt.locs, Pt.cells, Pt.slots] at X157 l157 y157 z157 st157 hQ157
                subst l157 y157 z157
                obtain ⟨rfl, N157q, e157⟩ := hQ157
                have N157 := Fr.app N143 N157q
                refine go (fun _ k => st157.trans k) ?_
                show G (T157.setTop (mkF m 245 #[.val (.int p1), .val (.int p2), .val (.int p3), .val (.int p4), .val (.int (1 : Int32)), .val (.int (Int32.ofNat n)), .val (.ref b1), .val (.ref b10), .val (.int (1 : Int32)), .val (.int (Int32.ofNat ((n - 1) + 1))), .val (.int (0 : Int32)), .val (.long (0 : Int64)), .second, .val (.long (Int64.ofNat 0)), .second] [(.int (emp (Int32.ofNat ((n - 1) + 1))))]))
                have hc158 : (emp (Int32.ofNat ((n - 1) + 1))) = (0 : Int32) := by rw [emp, if_neg (own_onne _ (by omega) (by omega))]
                refine go (fun _ k => XS.ifNo X157.here hx rfl (hb hby at_245) rfl ((if0 _ _).trans (teq hc158).2) k) ?_
                show G (T157.setTop (mkF m 248 #[.val (.int p1), .val (.int p2), .val (.int p3), .val (.int p4), .val (.int (1 : Int32)), .val (.int (Int32.ofNat n)), .val (.ref b1), .val (.ref b10), .val (.int (1 : Int32)), .val (.int (Int32.ofNat ((n - 1) + 1))), .val (.int (0 : Int32)), .val (.long (0 : Int64)), .second, .val (.long (Int64.ofNat 0)), .second] []))
                refine go (fun _ k => XS.iconst X157.here hx rfl (hb hby at_248) k) ?_
                show G (T157.setTop (mkF m 249 #[.val (.int p1), .val (.int p2), .val (.int p3), .val (.int p4), .val (.int (1 : Int32)), .val (.int (Int32.ofNat n)), .val (.ref b1), .val (.ref b10), .val (.int (1 : Int32)), .val (.int (Int32.ofNat ((n - 1) + 1))), .val (.int (0 : Int32)), .val (.long (0 : Int64)), .second, .val (.long (Int64.ofNat 0)), .second] [(.int (1 : Int32))]))
                refine go (fun _ k => XS.goto X157.here hx rfl (pc0 := 249) (pc' := 253) rfl (hb hby at_249) (by decide) (by decide) k) ?_
                show G (T157.setTop (mkF m 253 #[.val (.int p1), .val (.int p2), .val (.int p3), .val (.int p4), .val (.int (1 : Int32)), .val (.int (Int32.ofNat n)), .val (.ref b1), .val (.ref b10), .val (.int (1 : Int32)), .val (.int (Int32.ofNat ((n - 1) + 1))), .val (.int (0 : Int32)), .val (.long (0 : Int64)), .second, .val (.long (Int64.ofNat 0)), .second] [(.int (1 : Int32))]))
                refine go (fun _ k => XS.istore X157.here hx rfl (hb hby at_253) rfl (l' := #[.val (.int p1), .val (.int p2), .val (.int p3), .val (.int p4), .val (.int (1 : Int32)), .val (.int (Int32.ofNat n)), .val (.ref b1), .val (.ref b10), .val (.int (1 : Int32)), .val (.int (Int32.ofNat ((n - 1) + 1))), .val (.int (0 : Int32)), .val (.long (0 : Int64)), .second, .val (.long (Int64.ofNat 0)), .second]) rfl k) ?_
                show G (T157.setTop (mkF m 255 #[.val (.int p1), .val (.int p2), .val (.int p3), .val (.int p4), .val (.int (1 : Int32)), .val (.int (Int32.ofNat n)), .val (.ref b1), .val (.ref b10), .val (.int (1 : Int32)), .val (.int (Int32.ofNat ((n - 1) + 1))), .val (.int (0 : Int32)), .val (.long (0 : Int64)), .second, .val (.long (Int64.ofNat 0)), .second] []))
                refine go (fun _ k => XS.iloadN X157.here hx rfl (hb hby at_255) rfl k) ?_
                show G (T157.setTop (mkF m 256 #[.val (.int p1), .val (.int p2), .val (.int p3), .val (.int p4), .val (.int (1 : Int32)), .val (.int (Int32.ofNat n)), .val (.ref b1), .val (.ref b10), .val (.int (1 : Int32)), .val (.int (Int32.ofNat ((n - 1) + 1))), .val (.int (0 : Int32)), .val (.long (0 : Int64)), .second, .val (.long (Int64.ofNat 0)), .second] [(.int p3)]))
                refine go (fun _ k => XS.bipush X157.here hx rfl (hb hby at_256) k) ?_
                show G (T157.setTop (mkF m 258 #[.val (.int p1), .val (.int p2), .val (.int p3), .val (.int p4), .val (.int (1 : Int32)), .val (.int (Int32.ofNat n)), .val (.ref b1), .val (.ref b10), .val (.int (1 : Int32)), .val (.int (Int32.ofNat ((n - 1) + 1))), .val (.int (0 : Int32)), .val (.long (0 : Int64)), .second, .val (.long (Int64.ofNat 0)), .second] [(.int (8 : Int32)), (.int p3)]))
                refine go (fun _ k => XS.iand X157.here hx rfl (hb hby at_258) rfl k) ?_
                show G (T157.setTop (mkF m 259 #[.val (.int p1), .val (.int p2), .val (.int p3), .val (.int p4), .val (.int (1 : Int32)), .val (.int (Int32.ofNat n)), .val (.ref b1), .val (.ref b10), .val (.int (1 : Int32)), .val (.int (Int32.ofNat ((n - 1) + 1))), .val (.int (0 : Int32)), .val (.long (0 : Int64)), .second, .val (.long (Int64.ofNat 0)), .second] [(.int (p3 &&& (8 : Int32)))]))
                by_cases hc259_159 : (p3 &&& (8 : Int32)) = (0 : Int32)
                · refine go (fun _ k => XS.ifYes X157.here hx rfl (pc0 := 259) (pc' := 302) rfl (hb hby at_259) rfl ((if0 _ _).trans (teq hc259_159).1) (by decide) (by decide) k) ?_
                  show G (T157.setTop (mkF m 302 #[.val (.int p1), .val (.int p2), .val (.int p3), .val (.int p4), .val (.int (1 : Int32)), .val (.int (Int32.ofNat n)), .val (.ref b1), .val (.ref b10), .val (.int (1 : Int32)), .val (.int (Int32.ofNat ((n - 1) + 1))), .val (.int (0 : Int32)), .val (.long (0 : Int64)), .second, .val (.long (Int64.ofNat 0)), .second] []))
                  refine go (fun _ k => XS.iload X157.here hx rfl (hb hby at_302) rfl k) ?_
                  show G (T157.setTop (mkF m 304 #[.val (.int p1), .val (.int p2), .val (.int p3), .val (.int p4), .val (.int (1 : Int32)), .val (.int (Int32.ofNat n)), .val (.ref b1), .val (.ref b10), .val (.int (1 : Int32)), .val (.int (Int32.ofNat ((n - 1) + 1))), .val (.int (0 : Int32)), .val (.long (0 : Int64)), .second, .val (.long (Int64.ofNat 0)), .second] [(.int (1 : Int32))]))
                  rw [hG]
                  refine own_fin X157 Bd.notSynchronized (v := some (.int (1 : Int32))) (fun h => by rw [Bd.returns] at h; cases h) (fun fs hr => retOut X157 hx Bd.returns rfl (by simp [FieldType.isReference, Value.isRef]) (hb hby at_304) hr) ?_ (by decide) (by decide)
                  show Q0 Z p1 p2 p3 p4 h0 n0 (some (.int (1 : Int32))) T157.heap _
                  rw [e157]
                  exact ⟨rfl, N157⟩
                · refine go (fun _ k => XS.ifNo X157.here hx rfl (hb hby at_259) rfl ((if0 _ _).trans (feq hc259_159).1) k) ?_
                  show G (T157.setTop (mkF m 262 #[.val (.int p1), .val (.int p2), .val (.int p3), .val (.int p4), .val (.int (1 : Int32)), .val (.int (Int32.ofNat n)), .val (.ref b1), .val (.ref b10), .val (.int (1 : Int32)), .val (.int (Int32.ofNat ((n - 1) + 1))), .val (.int (0 : Int32)), .val (.long (0 : Int64)), .second, .val (.long (Int64.ofNat 0)), .second] []))
                  refine go (fun _ k => XS.aload X157.here hx rfl (hb hby at_262) rfl rfl k) ?_
                  show G (T157.setTop (mkF m 264 #[.val (.int p1), .val (.int p2), .val (.int p3), .val (.int p4), .val (.int (1 : Int32)), .val (.int (Int32.ofNat n)), .val (.ref b1), .val (.ref b10), .val (.int (1 : Int32)), .val (.int (Int32.ofNat ((n - 1) + 1))), .val (.int (0 : Int32)), .val (.long (0 : Int64)), .second, .val (.long (Int64.ofNat 0)), .second] [(.ref b10)]))
                  refine go (fun _ k => XS.lload X157.here hx rfl (hb hby at_264) rfl k) ?_
                  show G (T157.setTop (mkF m 266 #[.val (.int p1), .val (.int p2), .val (.int p3), .val (.int p4), .val (.int (1 : Int32)), .val (.int (Int32.ofNat n)), .val (.ref b1), .val (.ref b10), .val (.int (1 : Int32)), .val (.int (Int32.ofNat ((n - 1) + 1))), .val (.int (0 : Int32)), .val (.long (0 : Int64)), .second, .val (.long (Int64.ofNat 0)), .second] [(.long (Int64.ofNat 0)), (.ref b10)]))
                  obtain ⟨cq160, kq160, qa160, qb160, qc160⟩ := isOf hZ e157 f146
                  obtain ⟨_, _, ⟨T160, L160, k160, n160⟩, -, X160, ⟨Lc160, hQ160, l160, y160, z160⟩, st160⟩ := X157.virtualBack hx (y := (⟨"com/example/kerros/kerros/store/SortedChunks", "remove", "(J)V"⟩ : MethodName)) (z := (⟨"com/example/kerros/kerros/store/SortedChunks", "remove", "(J)V"⟩ : MethodName)) hown (mvT hZ (hw _ (List.mem_of_getElem? (i := 101) rfl))) (mvT hZ (hw _ (List.mem_of_getElem? (i := 102) rfl))) (notFace_of_selects (args := #[]) (mvT hZ (hw _ (List.mem_of_getElem? (i := 104) rfl)))) (mvT hZ (hw _ (List.mem_of_getElem? (i := 104) rfl))) (mvT hZ (hw _ (List.mem_of_getElem? (i := 103) rfl))) (by decide) (backOf (W := 0) (rm17w1 l Z a0 hw [] b10 0 ca13 ck13 wx132 kc13 kx132 ((n - 1) + 1) dx132 T143.heap n0 Zs143 f147 f148 f149 f150 f151 f153 f154 c143_0 f155 ne_b10_ck13 ne_b10_wx132 c13_3 ne_ca13_wx132 ne_ck13_wx132 g_ck13 g_wx132 (by omega) (by omega) (by omega)) hZ (hw _ (List.mem_of_getElem? (i := 105) rfl)) (hw _ (List.mem_of_getElem? (i := 6) rfl)) (by decide) (by decide)) qa160 qc160 (g := (mkF m 266 #[.val (.int p1), .val (.int p2), .val (.int p3), .val (.int p4), .val (.int (1 : Int32)), .val (.int (Int32.ofNat n)), .val (.ref b1), .val (.ref b10), .val (.int (1 : Int32)), .val (.int (Int32.ofNat ((n - 1) + 1))), .val (.int (0 : Int32)), .val (.long (0 : Int64)), .second, .val (.long (Int64.ofNat 0)), .second] [(.long (Int64.ofNat 0)), (.ref b10)])) rfl (by rw [hml]; rfl) (Steps.refl _) (argsL := [(.long (Int64.ofNat 0))]) (rest := []) (lenOf pd_0_4 rfl) rfl (by show 2 * 0 + _ ≤ _; exact Nat.le_of_eq rfl) (hb hby at_266) (fun _ _ => ⟨rfl, e157, (by decide : 6 + 0 ≤ _), (by decide : 36 + 0 ≤ _)⟩)
                  dsimp only [Pt.U, Pt.locs, Pt.cells, Pt.slots] at X160 l160 y160 z160 st160 hQ160
                  subst l160 y160 z160
                  obtain ⟨rfl, N160q, Kc160, c160_0, c160_1, c160_2⟩ := hQ160
                  have f161 := f144.keep Kc160
                  have f162 := f145.keep Kc160 (ninS ne_b1_ck13 (ninS ne_b1_wx132 nin0))
                  have f163 := f146.keep Kc160
                  have f164 := f147.keep Kc160 (ninS ne_b10_ck13 (ninS ne_b10_wx132 nin0))
                  have f165 := f148.keep Kc160 (ninS ne_b10_ck13 (ninS ne_b10_wx132 nin0))
                  have f166 := f149.keep Kc160 (ninS ne_b10_ck13 (ninS ne_b10_wx132 nin0))
                  have f167 := f150.keep Kc160 (ninS c13_3 (ninS ne_ca13_wx132 nin0))
                  have f168 := f151.keep Kc160
                  have f169 := f152.keep Kc160
                  have f170 := f155.keep Kc160
                  have Zs160 : n0 ≤ T160.heap.size := Nat.le_trans Zs143 Kc160.1
                  have N160 := Fr.app N157 N160q
                  refine go (fun _ k => st160.trans k) ?_
                  show G (T160.setTop (mkF m 269 #[.val (.int p1), .val (.int p2), .val (.int p3), .val (.int p4), .val (.int (1 : Int32)), .val (.int (Int32.ofNat n)), .val (.ref b1), .val (.ref b10), .val (.int (1 : Int32)), .val (.int (Int32.ofNat ((n - 1) + 1))), .val (.int (0 : Int32)), .val (.long (0 : Int64)), .second, .val (.long (Int64.ofNat 0)), .second] []))
                  refine go (fun _ k => XS.iinc X160.here hx rfl (hb hby at_269) rfl (l' := #[.val (.int p1), .val (.int p2), .val (.int p3), .val (.int p4), .val (.int (1 : Int32)), .val (.int (Int32.ofNat n)), .val (.ref b1), .val (.ref b10), .val (.int (1 : Int32)), .val (.int ((Int32.ofNat ((n - 1) + 1)) + (-1 : Int32))), .val (.int (0 : Int32)), .val (.long (0 : Int64)), .second, .val (.long (Int64.ofNat 0)), .second]) rfl k) ?_
                  show G (T160.setTop (mkF m 272 #[.val (.int p1), .val (.int p2), .val (.int p3), .val (.int p4), .val (.int (1 : Int32)), .val (.int (Int32.ofNat n)), .val (.ref b1), .val (.ref b10), .val (.int (1 : Int32)), .val (.int ((Int32.ofNat ((n - 1) + 1)) + (-1 : Int32))), .val (.int (0 : Int32)), .val (.long (0 : Int64)), .second, .val (.long (Int64.ofNat 0)), .second] []))
                  rw [show ((Int32.ofNat ((n - 1) + 1)) + (-1 : Int32)) = (Int32.ofNat (((n - 1) + 1) - 1)) from own_ondec ((n - 1) + 1) (by omega)]
                  show G (T160.setTop (mkF m 272 #[.val (.int p1), .val (.int p2), .val (.int p3), .val (.int p4), .val (.int (1 : Int32)), .val (.int (Int32.ofNat n)), .val (.ref b1), .val (.ref b10), .val (.int (1 : Int32)), .val (.int (Int32.ofNat (((n - 1) + 1) - 1))), .val (.int (0 : Int32)), .val (.long (0 : Int64)), .second, .val (.long (Int64.ofNat 0)), .second] []))
                  refine go (fun _ k => XS.iload X160.here hx rfl (hb hby at_272) rfl k) ?_
                  show G (T160.setTop (mkF m 274 #[.val (.int p1), .val (.int p2), .val (.int p3), .val (.int p4), .val (.int (1 : Int32)), .val (.int (Int32.ofNat n)), .val (.ref b1), .val (.ref b10), .val (.int (1 : Int32)), .val (.int (Int32.ofNat (((n - 1) + 1) - 1))), .val (.int (0 : Int32)), .val (.long (0 : Int64)), .second, .val (.long (Int64.ofNat 0)), .second] [(.int (1 : Int32))]))
                  have hc171 : ¬ ((1 : Int32) = (0 : Int32)) := (by decide)
                  refine go (fun _ k => XS.ifNo X160.here hx rfl (hb hby at_274) rfl ((if0 _ _).trans (feq hc171).1) k) ?_
                  show G (T160.setTop (mkF m 277 #[.val (.int p1), .val (.int p2), .val (.int p3), .val (.int p4), .val (.int (1 : Int32)), .val (.int (Int32.ofNat n)), .val (.ref b1), .val (.ref b10), .val (.int (1 : Int32)), .val (.int (Int32.ofNat (((n - 1) + 1) - 1))), .val (.int (0 : Int32)), .val (.long (0 : Int64)), .second, .val (.long (Int64.ofNat 0)), .second] []))
                  refine go (fun _ k => XS.aload X160.here hx rfl (hb hby at_277) rfl rfl k) ?_
                  show G (T160.setTop (mkF m 279 #[.val (.int p1), .val (.int p2), .val (.int p3), .val (.int p4), .val (.int (1 : Int32)), .val (.int (Int32.ofNat n)), .val (.ref b1), .val (.ref b10), .val (.int (1 : Int32)), .val (.int (Int32.ofNat (((n - 1) + 1) - 1))), .val (.int (0 : Int32)), .val (.long (0 : Int64)), .second, .val (.long (Int64.ofNat 0)), .second] [(.ref b10)]))
                  obtain ⟨cq172, kq172, qa172, qb172, qc172⟩ := isOf hZ rfl f163
                  obtain ⟨_, _, ⟨T172, L172, k172, n172⟩, -, X172, ⟨Lc172, hQ172, l172, y172, z172⟩, st172⟩ := X160.virtualBack hx (y := (⟨"com/example/kerros/kerros/store/SortedChunks", "isEmpty", "()Z"⟩ : MethodName)) (z := (⟨"com/example/kerros/kerros/store/SortedChunks", "isEmpty", "()Z"⟩ : MethodName)) hown (mvT hZ (hw _ (List.mem_of_getElem? (i := 54) rfl))) (mvT hZ (hw _ (List.mem_of_getElem? (i := 55) rfl))) (notFace_of_selects (args := #[]) (mvT hZ (hw _ (List.mem_of_getElem? (i := 57) rfl)))) (mvT hZ (hw _ (List.mem_of_getElem? (i := 57) rfl))) (mvT hZ (hw _ (List.mem_of_getElem? (i := 56) rfl))) (by decide) (backOf (W := 0) (rm9 l Z a0 hw [] b10 ca13 ck13 kc13 (Int32.ofNat (((n - 1) + 1) - 1)) T160.heap n0 Zs160 f166 f167 c160_1) hZ (hw _ (List.mem_of_getElem? (i := 58) rfl)) (hw _ (List.mem_of_getElem? (i := 6) rfl)) (by decide) (by decide)) qa172 qc172 (g := (mkF m 279 #[.val (.int p1), .val (.int p2), .val (.int p3), .val (.int p4), .val (.int (1 : Int32)), .val (.int (Int32.ofNat n)), .val (.ref b1), .val (.ref b10), .val (.int (1 : Int32)), .val (.int (Int32.ofNat (((n - 1) + 1) - 1))), .val (.int (0 : Int32)), .val (.long (0 : Int64)), .second, .val (.long (Int64.ofNat 0)), .second] [(.ref b10)])) rfl (by rw [hml]; rfl) (Steps.refl _) (argsL := []) (rest := []) (lenOf pd_0_1 rfl) rfl (by show 2 * 0 + _ ≤ _; exact Nat.le_of_eq rfl) (hb hby at_279) (fun _ _ => ⟨rfl, rfl, (by decide : 6 + 0 ≤ _), (by decide : 36 + 0 ≤ _)⟩)
                  dsimp only [Pt.U, Pt.locs, Pt.cells, Pt.slots] at X172 l172 y172 z172 st172 hQ172
                  subst l172 y172 z172
                  obtain ⟨rfl, N172q, e172⟩ := hQ172
                  have N172 := Fr.app N160 N172q
                  refine go (fun _ k => st172.trans k) ?_
                  show G (T172.setTop (mkF m 282 #[.val (.int p1), .val (.int p2), .val (.int p3), .val (.int p4), .val (.int (1 : Int32)), .val (.int (Int32.ofNat n)), .val (.ref b1), .val (.ref b10), .val (.int (1 : Int32)), .val (.int (Int32.ofNat (((n - 1) + 1) - 1))), .val (.int (0 : Int32)), .val (.long (0 : Int64)), .second, .val (.long (Int64.ofNat 0)), .second] [(.int (emp (Int32.ofNat (((n - 1) + 1) - 1))))]))
                  have J300_173 : G (T172.setTop (mkF m 300 #[.val (.int p1), .val (.int p2), .val (.int p3), .val (.int p4), .val (.int (1 : Int32)), .val (.int (Int32.ofNat n)), .val (.ref b1), .val (.ref b10), .val (.int (1 : Int32)), .val (.int (Int32.ofNat (((n - 1) + 1) - 1))), .val (.int (0 : Int32)), .val (.long (0 : Int64)), .second, .val (.long (Int64.ofNat 0)), .second] [(.int (1 : Int32))])) := by
                    refine go (fun _ k => XS.istore X172.here hx rfl (hb hby at_300) rfl (l' := #[.val (.int p1), .val (.int p2), .val (.int p3), .val (.int p4), .val (.int (1 : Int32)), .val (.int (Int32.ofNat n)), .val (.ref b1), .val (.ref b10), .val (.int (1 : Int32)), .val (.int (Int32.ofNat (((n - 1) + 1) - 1))), .val (.int (0 : Int32)), .val (.long (0 : Int64)), .second, .val (.long (Int64.ofNat 0)), .second]) rfl k) ?_
                    show G (T172.setTop (mkF m 302 #[.val (.int p1), .val (.int p2), .val (.int p3), .val (.int p4), .val (.int (1 : Int32)), .val (.int (Int32.ofNat n)), .val (.ref b1), .val (.ref b10), .val (.int (1 : Int32)), .val (.int (Int32.ofNat (((n - 1) + 1) - 1))), .val (.int (0 : Int32)), .val (.long (0 : Int64)), .second, .val (.long (Int64.ofNat 0)), .second] []))
                    refine go (fun _ k => XS.iload X172.here hx rfl (hb hby at_302) rfl k) ?_
                    show G (T172.setTop (mkF m 304 #[.val (.int p1), .val (.int p2), .val (.int p3), .val (.int p4), .val (.int (1 : Int32)), .val (.int (Int32.ofNat n)), .val (.ref b1), .val (.ref b10), .val (.int (1 : Int32)), .val (.int (Int32.ofNat (((n - 1) + 1) - 1))), .val (.int (0 : Int32)), .val (.long (0 : Int64)), .second, .val (.long (Int64.ofNat 0)), .second] [(.int (1 : Int32))]))
                    rw [hG]
                    refine own_fin X172 Bd.notSynchronized (v := some (.int (1 : Int32))) (fun h => by rw [Bd.returns] at h; cases h) (fun fs hr => retOut X172 hx Bd.returns rfl (by simp [FieldType.isReference, Value.isRef]) (hb hby at_304) hr) ?_ (by decide) (by decide)
                    show Q0 Z p1 p2 p3 p4 h0 n0 (some (.int (1 : Int32))) T172.heap _
                    rw [e172]
                    exact ⟨rfl, N172⟩
                  show G (T172.setTop (mkF m 282 #[.val (.int p1), .val (.int p2), .val (.int p3), .val (.int p4), .val (.int (1 : Int32)), .val (.int (Int32.ofNat n)), .val (.ref b1), .val (.ref b10), .val (.int (1 : Int32)), .val (.int (Int32.ofNat (((n - 1) + 1) - 1))), .val (.int (0 : Int32)), .val (.long (0 : Int64)), .second, .val (.long (Int64.ofNat 0)), .second] [(.int (emp (Int32.ofNat (((n - 1) + 1) - 1))))]))
                  refine go (fun _ k => XS.iload X172.here hx rfl (hb hby at_282) rfl k) ?_
                  show G (T172.setTop (mkF m 284 #[.val (.int p1), .val (.int p2), .val (.int p3), .val (.int p4), .val (.int (1 : Int32)), .val (.int (Int32.ofNat n)), .val (.ref b1), .val (.ref b10), .val (.int (1 : Int32)), .val (.int (Int32.ofNat (((n - 1) + 1) - 1))), .val (.int (0 : Int32)), .val (.long (0 : Int64)), .second, .val (.long (Int64.ofNat 0)), .second] [(.int (Int32.ofNat (((n - 1) + 1) - 1))), (.int (emp (Int32.ofNat (((n - 1) + 1) - 1))))]))
                  by_cases hc284_174 : (Int32.ofNat (((n - 1) + 1) - 1)) = (0 : Int32)
                  · refine go (fun _ k => XS.ifNo X172.here hx rfl (hb hby at_284) rfl ((if0 _ _).trans (teq hc284_174).2) k) ?_
                    show G (T172.setTop (mkF m 287 #[.val (.int p1), .val (.int p2), .val (.int p3), .val (.int p4), .val (.int (1 : Int32)), .val (.int (Int32.ofNat n)), .val (.ref b1), .val (.ref b10), .val (.int (1 : Int32)), .val (.int (Int32.ofNat (((n - 1) + 1) - 1))), .val (.int (0 : Int32)), .val (.long (0 : Int64)), .second, .val (.long (Int64.ofNat 0)), .second] [(.int (emp (Int32.ofNat (((n - 1) + 1) - 1))))]))
                    refine go (fun _ k => XS.iconst X172.here hx rfl (hb hby at_287) k) ?_
                    show G (T172.setTop (mkF m 288 #[.val (.int p1), .val (.int p2), .val (.int p3), .val (.int p4), .val (.int (1 : Int32)), .val (.int (Int32.ofNat n)), .val (.ref b1), .val (.ref b10), .val (.int (1 : Int32)), .val (.int (Int32.ofNat (((n - 1) + 1) - 1))), .val (.int (0 : Int32)), .val (.long (0 : Int64)), .second, .val (.long (Int64.ofNat 0)), .second] [(.int (1 : Int32)), (.int (emp (Int32.ofNat (((n - 1) + 1) - 1))))]))
                    refine go (fun _ k => XS.goto X172.here hx rfl (pc0 := 288) (pc' := 292) rfl (hb hby at_288) (by decide) (by decide) k) ?_
                    show G (T172.setTop (mkF m 292 #[.val (.int p1), .val (.int p2), .val (.int p3), .val (.int p4), .val (.int (1 : Int32)), .val (.int (Int32.ofNat n)), .val (.ref b1), .val (.ref b10), .val (.int (1 : Int32)), .val (.int (Int32.ofNat (((n - 1) + 1) - 1))), .val (.int (0 : Int32)), .val (.long (0 : Int64)), .second, .val (.long (Int64.ofNat 0)), .second] [(.int (1 : Int32)), (.int (emp (Int32.ofNat (((n - 1) + 1) - 1))))]))
                    have hc175 : (emp (Int32.ofNat (((n - 1) + 1) - 1))) = (1 : Int32) := by rw [emp, if_pos hc284_174]
                    refine go (fun _ k => XS.icmpNo X172.here hx rfl (hb hby at_292) rfl (teq hc175).2 k) ?_
                    show G (T172.setTop (mkF m 295 #[.val (.int p1), .val (.int p2), .val (.int p3), .val (.int p4), .val (.int (1 : Int32)), .val (.int (Int32.ofNat n)), .val (.ref b1), .val (.ref b10), .val (.int (1 : Int32)), .val (.int (Int32.ofNat (((n - 1) + 1) - 1))), .val (.int (0 : Int32)), .val (.long (0 : Int64)), .second, .val (.long (Int64.ofNat 0)), .second] []))
                    refine go (fun _ k => XS.iconst X172.here hx rfl (hb hby at_295) k) ?_
                    show G (T172.setTop (mkF m 296 #[.val (.int p1), .val (.int p2), .val (.int p3), .val (.int p4), .val (.int (1 : Int32)), .val (.int (Int32.ofNat n)), .val (.ref b1), .val (.ref b10), .val (.int (1 : Int32)), .val (.int (Int32.ofNat (((n - 1) + 1) - 1))), .val (.int (0 : Int32)), .val (.long (0 : Int64)), .second, .val (.long (Int64.ofNat 0)), .second] [(.int (1 : Int32))]))
                    refine go (fun _ k => XS.goto X172.here hx rfl (pc0 := 296) (pc' := 300) rfl (hb hby at_296) (by decide) (by decide) k) ?_
                    show G (T172.setTop (mkF m 300 #[.val (.int p1), .val (.int p2), .val (.int p3), .val (.int p4), .val (.int (1 : Int32)), .val (.int (Int32.ofNat n)), .val (.ref b1), .val (.ref b10), .val (.int (1 : Int32)), .val (.int (Int32.ofNat (((n - 1) + 1) - 1))), .val (.int (0 : Int32)), .val (.long (0 : Int64)), .second, .val (.long (Int64.ofNat 0)), .second] [(.int (1 : Int32))]))
                    exact J300_173
                  · refine go (fun _ k => XS.ifYes X172.here hx rfl (pc0 := 284) (pc' := 291) rfl (hb hby at_284) rfl ((if0 _ _).trans (feq hc284_174).2) (by decide) (by decide) k) ?_
                    show G (T172.setTop (mkF m 291 #[.val (.int p1), .val (.int p2), .val (.int p3), .val (.int p4), .val (.int (1 : Int32)), .val (.int (Int32.ofNat n)), .val (.ref b1), .val (.ref b10), .val (.int (1 : Int32)), .val (.int (Int32.ofNat (((n - 1) + 1) - 1))), .val (.int (0 : Int32)), .val (.long (0 : Int64)), .second, .val (.long (Int64.ofNat 0)), .second] [(.int (emp (Int32.ofNat (((n - 1) + 1) - 1))))]))
                    refine go (fun _ k => XS.iconst X172.here hx rfl (hb hby at_291) k) ?_
                    show G (T172.setTop (mkF m 292 #[.val (.int p1), .val (.int p2), .val (.int p3), .val (.int p4), .val (.int (1 : Int32)), .val (.int (Int32.ofNat n)), .val (.ref b1), .val (.ref b10), .val (.int (1 : Int32)), .val (.int (Int32.ofNat (((n - 1) + 1) - 1))), .val (.int (0 : Int32)), .val (.long (0 : Int64)), .second, .val (.long (Int64.ofNat 0)), .second] [(.int (0 : Int32)), (.int (emp (Int32.ofNat (((n - 1) + 1) - 1))))]))
                    have hc176 : (emp (Int32.ofNat (((n - 1) + 1) - 1))) = (0 : Int32) := by rw [emp, if_neg hc284_174]
                    refine go (fun _ k => XS.icmpNo X172.here hx rfl (hb hby at_292) rfl (teq hc176).2 k) ?_
                    show G (T172.setTop (mkF m 295 #[.val (.int p1), .val (.int p2), .val (.int p3), .val (.int p4), .val (.int (1 : Int32)), .val (.int (Int32.ofNat n)), .val (.ref b1), .val (.ref b10), .val (.int (1 : Int32)), .val (.int (Int32.ofNat (((n - 1) + 1) - 1))), .val (.int (0 : Int32)), .val (.long (0 : Int64)), .second, .val (.long (Int64.ofNat 0)), .second] []))
                    refine go (fun _ k => XS.iconst X172.here hx rfl (hb hby at_295) k) ?_
                    show G (T172.setTop (mkF m 296 #[.val (.int p1), .val (.int p2), .val (.int p3), .val (.int p4), .val (.int (1 : Int32)), .val (.int (Int32.ofNat n)), .val (.ref b1), .val (.ref b10), .val (.int (1 : Int32)), .val (.int (Int32.ofNat (((n - 1) + 1) - 1))), .val (.int (0 : Int32)), .val (.long (0 : Int64)), .second, .val (.long (Int64.ofNat 0)), .second] [(.int (1 : Int32))]))
                    refine go (fun _ k => XS.goto X172.here hx rfl (pc0 := 296) (pc' := 300) rfl (hb hby at_296) (by decide) (by decide) k) ?_
                    show G (T172.setTop (mkF m 300 #[.val (.int p1), .val (.int p2), .val (.int p3), .val (.int p4), .val (.int (1 : Int32)), .val (.int (Int32.ofNat n)), .val (.ref b1), .val (.ref b10), .val (.int (1 : Int32)), .val (.int (Int32.ofNat (((n - 1) + 1) - 1))), .val (.int (0 : Int32)), .val (.long (0 : Int64)), .second, .val (.long (Int64.ofNat 0)), .second] [(.int (1 : Int32))]))
                    exact J300_173
              · refine go (fun _ k => XS.ifNo X127.here hx rfl (hb hby at_177) rfl ((if0 _ _).trans (feq hc177_130).1) k) ?_
                show G (T127.setTop (mkF m 180 #[.val (.int p1), .val (.int p2), .val (.int p3), .val (.int p4), .val (.int (1 : Int32)), .val (.int (Int32.ofNat n)), .val (.ref b1), .val (.ref b10), .val (.int (1 : Int32)), .val (.int (Int32.ofNat (n - 1))), .val (.int (Int32.ofNat i)), .unset, .unset, .unset, .unset] []))
                refine go (fun _ k => XS.iconst X127.here hx rfl (hb hby at_180) k) ?_
                show G (T127.setTop (mkF m 181 #[.val (.int p1), .val (.int p2), .val (.int p3), .val (.int p4), .val (.int (1 : Int32)), .val (.int (Int32.ofNat n)), .val (.ref b1), .val (.ref b10), .val (.int (1 : Int32)), .val (.int (Int32.ofNat (n - 1))), .val (.int (Int32.ofNat i)), .unset, .unset, .unset, .unset] [(.int (1 : Int32))]))
                refine go (fun _ k => XS.goto X127.here hx rfl (pc0 := 181) (pc' := 185) rfl (hb hby at_181) (by decide) (by decide) k) ?_
                show G (T127.setTop (mkF m 185 #[.val (.int p1), .val (.int p2), .val (.int p3), .val (.int p4), .val (.int (1 : Int32)), .val (.int (Int32.ofNat n)), .val (.ref b1), .val (.ref b10), .val (.int (1 : Int32)), .val (.int (Int32.ofNat (n - 1))), .val (.int (Int32.ofNat i)), .unset, .unset, .unset, .unset] [(.int (1 : Int32))]))
                refine go (fun _ k => XS.istore X127.here hx rfl (hb hby at_185) rfl (l' := #[.val (.int p1), .val (.int p2), .val (.int p3), .val (.int p4), .val (.int (1 : Int32)), .val (.int (Int32.ofNat n)), .val (.ref b1), .val (.ref b10), .val (.int (1 : Int32)), .val (.int (Int32.ofNat (n - 1))), .val (.int (1 : Int32)), .unset, .unset, .unset, .unset]) rfl k) ?_
                show G (T127.setTop (mkF m 187 #[.val (.int p1), .val (.int p2), .val (.int p3), .val (.int p4), .val (.int (1 : Int32)), .val (.int (Int32.ofNat n)), .val (.ref b1), .val (.ref b10), .val (.int (1 : Int32)), .val (.int (Int32.ofNat (n - 1))), .val (.int (1 : Int32)), .unset, .unset, .unset, .unset] []))
                refine go (fun _ k => XS.iload X127.here hx rfl (hb hby at_187) rfl k) ?_
                show G (T127.setTop (mkF m 189 #[.val (.int p1), .val (.int p2), .val (.int p3), .val (.int p4), .val (.int (1 : Int32)), .val (.int (Int32.ofNat n)), .val (.ref b1), .val (.ref b10), .val (.int (1 : Int32)), .val (.int (Int32.ofNat (n - 1))), .val (.int (1 : Int32)), .unset, .unset, .unset, .unset] [(.int (1 : Int32))]))
                have hc177 : ¬ ((1 : Int32) = (0 : Int32)) := (by decide)
                refine go (fun _ k => XS.ifNo X127.here hx rfl (hb hby at_189) rfl ((if0 _ _).trans (feq hc177).1) k) ?_
                show G (T127.setTop (mkF m 192 #[.val (.int p1), .val (.int p2), .val (.int p3), .val (.int p4), .val (.int (1 : Int32)), .val (.int (Int32.ofNat n)), .val (.ref b1), .val (.ref b10), .val (.int (1 : Int32)), .val (.int (Int32.ofNat (n - 1))), .val (.int (1 : Int32)), .unset, .unset, .unset, .unset] []))
                refine go (fun _ k => XS.iload X127.here hx rfl (hb hby at_192) rfl k) ?_
                show G (T127.setTop (mkF m 194 #[.val (.int p1), .val (.int p2), .val (.int p3), .val (.int p4), .val (.int (1 : Int32)), .val (.int (Int32.ofNat n)), .val (.ref b1), .val (.ref b10), .val (.int (1 : Int32)), .val (.int (Int32.ofNat (n - 1))), .val (.int (1 : Int32)), .unset, .unset, .unset, .unset] [(.int (Int32.ofNat (n - 1)))]))
                refine go (fun _ k => XS.i2l X127.here hx rfl (hb hby at_194) rfl k) ?_
                show G (T127.setTop (mkF m 195 #[.val (.int p1), .val (.int p2), .val (.int p3), .val (.int p4), .val (.int (1 : Int32)), .val (.int (Int32.ofNat n)), .val (.ref b1), .val (.ref b10), .val (.int (1 : Int32)), .val (.int (Int32.ofNat (n - 1))), .val (.int (1 : Int32)), .unset, .unset, .unset, .unset] [(.long ((Int32.ofNat (n - 1)).toInt64))]))
                rw [show ((Int32.ofNat (n - 1)).toInt64) = (Int64.ofNat (n - 1)) from own_i2l (n - 1) (by omega)]
                show G (T127.setTop (mkF m 195 #[.val (.int p1), .val (.int p2), .val (.int p3), .val (.int p4), .val (.int (1 : Int32)), .val (.int (Int32.ofNat n)), .val (.ref b1), .val (.ref b10), .val (.int (1 : Int32)), .val (.int (Int32.ofNat (n - 1))), .val (.int (1 : Int32)), .unset, .unset, .unset, .unset] [(.long (Int64.ofNat (n - 1)))]))
                refine go (fun _ k => XS.goto X127.here hx rfl (pc0 := 195) (pc' := 199) rfl (hb hby at_195) (by decide) (by decide) k) ?_
                show G (T127.setTop (mkF m 199 #[.val (.int p1), .val (.int p2), .val (.int p3), .val (.int p4), .val (.int (1 : Int32)), .val (.int (Int32.ofNat n)), .val (.ref b1), .val (.ref b10), .val (.int (1 : Int32)), .val (.int (Int32.ofNat (n - 1))), .val (.int (1 : Int32)), .unset, .unset, .unset, .unset] [(.long (Int64.ofNat (n - 1)))]))
                refine go (fun _ k => XS.lstore X127.here hx rfl (hb hby at_199) rfl (l' := #[.val (.int p1), .val (.int p2), .val (.int p3), .val (.int p4), .val (.int (1 : Int32)), .val (.int (Int32.ofNat n)), .val (.ref b1), .val (.ref b10), .val (.int (1 : Int32)), .val (.int (Int32.ofNat (n - 1))), .val (.int (1 : Int32)), .val (.long (Int64.ofNat (n - 1))), .second, .unset, .unset]) rfl k) ?_
                show G (T127.setTop (mkF m 201 #[.val (.int p1), .val (.int p2), .val (.int p3), .val (.int p4), .val (.int (1 : Int32)), .val (.int (Int32.ofNat n)), .val (.ref b1), .val (.ref b10), .val (.int (1 : Int32)), .val (.int (Int32.ofNat (n - 1))), .val (.int (1 : Int32)), .val (.long (Int64.ofNat (n - 1))), .second, .unset, .unset] []))
                refine go (fun _ k => XS.aload X127.here hx rfl (hb hby at_201) rfl rfl k) ?_
                show G (T127.setTop (mkF m 203 #[.val (.int p1), .val (.int p2), .val (.int p3), .val (.int p4), .val (.int (1 : Int32)), .val (.int (Int32.ofNat n)), .val (.ref b1), .val (.ref b10), .val (.int (1 : Int32)), .val (.int (Int32.ofNat (n - 1))), .val (.int (1 : Int32)), .val (.long (Int64.ofNat (n - 1))), .second, .unset, .unset] [(.ref b10)]))
                refine go (fun _ k => XS.lload X127.here hx rfl (hb hby at_203) rfl k) ?_
                show G (T127.setTop (mkF m 205 #[.val (.int p1), .val (.int p2), .val (.int p3), .val (.int p4), .val (.int (1 : Int32)), .val (.int (Int32.ofNat n)), .val (.ref b1), .val (.ref b10), .val (.int (1 : Int32)), .val (.int (Int32.ofNat (n - 1))), .val (.int (1 : Int32)), .val (.long (Int64.ofNat (n - 1))), .second, .unset, .unset] [(.long (Int64.ofNat (n - 1))), (.ref b10)]))
                obtain ⟨cq178, kq178, qa178, qb178, qc178⟩ := isOf hZ e127 f119
                obtain ⟨_, _, ⟨T178, L178, k178, n178⟩, -, X178, ⟨Lc178, hQ178, l178, y178, z178⟩, st178⟩ := X127.virtualBack hx (y := (⟨"com/example/kerros/kerros/store/SortedChunks", "insert", "(J)J"⟩ : MethodName)) (z := (⟨"com/example/kerros/kerros/store/SortedChunks", "insert", "(J)J"⟩ : MethodName)) hown (mvT hZ (hw _ (List.mem_of_getElem? (i := 60) rfl))) (mvT hZ (hw _ (List.mem_of_getElem? (i := 61) rfl))) (notFace_of_selects (args := #[]) (mvT hZ (hw _ (List.mem_of_getElem? (i := 63) rfl)))) (mvT hZ (hw _ (List.mem_of_getElem? (i := 63) rfl))) (mvT hZ (hw _ (List.mem_of_getElem? (i := 62) rfl))) (by decide) (backOf (W := 0) (rm10w1 l Z a0 hw [] b10 (n - 1) ca13 ck13 wa13 kc13 kw13 (n - 1) cb13 T116.heap n0 Zs116 f120 f121 f122 f123 f124 c116_0 c116_1 c116_2 f125 ne_b10_ck13 ne_b10_wa13 c13_3 c13_4 c13_5 g_ck13 g_wa13 (by omega) (by omega) (by omega) (by omega)) hZ (hw _ (List.mem_of_getElem? (i := 64) rfl)) (hw _ (List.mem_of_getElem? (i := 6) rfl)) (by decide) (by decide)) qa178 qc178 (g := (mkF m 205 #[.val (.int p1), .val (.int p2), .val (.int p3), .val (.int p4), .val (.int (1 : Int32)), .val (.int (Int32.ofNat n)), .val (.ref b1), .val (.ref b10), .val (.int (1 : Int32)), .val (.int (Int32.ofNat (n - 1))), .val (.int (1 : Int32)), .val (.long (Int64.ofNat (n - 1))), .second, .unset, .unset] [(.long (Int64.ofNat (n - 1))), (.ref b10)])) rfl (by rw [hml]; rfl) (Steps.refl _) (argsL := [(.long (Int64.ofNat (n - 1)))]) (rest := []) (lenOf pd_0_2 rfl) rfl (by show 2 * 0 + _ ≤ _; exact Nat.le_of_eq rfl) (hb hby at_205) (fun _ _ => ⟨rfl, e127, (by decide : 5 + 1 ≤ _), (by decide : 24 + 12 ≤ _)⟩)
                dsimp only [Pt.U, Pt.locs, Pt.cells, Pt.slots] at X178 l178 y178 z178 st178 hQ178
                subst l178 y178 z178
                obtain ⟨wx178, kx178, dx178, rfl, N178q, Kc178, c178_0, c178_1, c178_2, c178_3, c178_4, c178_5, c178_6⟩ := hQ178
                have ne_b1_wx178 : b1 ≠ wx178 := c178_0.elim (fun q => by rw [q]; exact ne_b1_wa13) (fun q => Nat.ne_of_lt (Nat.lt_of_lt_of_le f117.lt q))
                have ne_b10_wx178 : b10 ≠ wx178 := c178_0.elim (fun q => by rw [q]; exact ne_b10_wa13) (fun q => Nat.ne_of_lt (Nat.lt_of_lt_of_le f119.lt q))
                have ne_ca13_wx178 : ca13 ≠ wx178 := c178_0.elim (fun q => by rw [q]; exact c13_4) (fun q => Nat.ne_of_lt (Nat.lt_of_lt_of_le f123.lt q))
                have ne_ck13_wx178 : ck13 ≠ wx178 := c178_0.elim (fun q => by rw [q]; exact c13_5) (fun q => Nat.ne_of_lt (Nat.lt_of_lt_of_le f124.lt q))
                have g_wx178 : n0 ≤ wx178 := c178_0.elim (fun q => by rw [q]; exact g_wa13) (fun q => Nat.le_trans Zs116 q)
                have f179 := f117.keep Kc178
                have f180 := f118.keep Kc178 (ninS ne_b1_ck13 (ninS ne_b1_wa13 nin0))
                have f181 := f119.keep Kc178
                have f182 := f120.keep Kc178 (ninS ne_b10_ck13 (ninS ne_b10_wa13 nin0))
                have f183 := f121.keep Kc178 (ninS ne_b10_ck13 (ninS ne_b10_wa13 nin0))
                have f184 := f122.keep Kc178 (ninS ne_b10_ck13 (ninS ne_b10_wa13 nin0))
                have f185 := f123.keep Kc178 (ninS c13_3 (ninS c13_4 nin0))
                have f186 := f124.keep Kc178
                have f187 := f125.keep Kc178
                have Zs178 : n0 ≤ T178.heap.size := Nat.le_trans Zs116 Kc178.1
                have N178 := Fr.app N127 N178q
                refine go (fun _ k => st178.trans k) ?_
                show G (T178.setTop (mkF m 208 #[.val (.int p1), .val (.int p2), .val (.int p3), .val (.int p4), .val (.int (1 : Int32)), .val (.int (Int32.ofNat n)), .val (.ref b1), .val (.ref b10), .val (.int (1 : Int32)), .val (.int (Int32.ofNat (n - 1))), .val (.int (1 : Int32)), .val (.long (Int64.ofNat (n - 1))), .second, .unset, .unset] [(.long (Int64.ofNat (n - 1)))]))
                refine go (fun _ k => XS.lstore X178.here hx rfl (hb hby at_208) rfl (l' := #[.val (.int p1), .val (.int p2), .val (.int p3), .val (.int p4), .val (.int (1 : Int32)), .val (.int (Int32.ofNat n)), .val (.ref b1), .val (.ref b10), .val (.int (1 : Int32)), .val (.int (Int32.ofNat (n - 1))), .val (.int (1 : Int32)), .val (.long (Int64.ofNat (n - 1))), .second, .val (.long (Int64.ofNat (n - 1))), .second]) rfl k) ?_
                show G (T178.setTop (mkF m 210 #[.val (.int p1), .val (.int p2), .val (.int p3), .val (.int p4), .val (.int (1 : Int32)), .val (.int (Int32.ofNat n)), .val (.ref b1), .val (.ref b10), .val (.int (1 : Int32)), .val (.int (Int32.ofNat (n - 1))), .val (.int (1 : Int32)), .val (.long (Int64.ofNat (n - 1))), .second, .val (.long (Int64.ofNat (n - 1))), .second] []))
                refine go (fun _ k => XS.aload X178.here hx rfl (hb hby at_210) rfl rfl k) ?_
                show G (T178.setTop (mkF m 212 #[.val (.int p1), .val (.int p2), .val (.int p3), .val (.int p4), .val (.int (1 : Int32)), .val (.int (Int32.ofNat n)), .val (.ref b1), .val (.ref b10), .val (.int (1 : Int32)), .val (.int (Int32.ofNat (n - 1))), .val (.int (1 : Int32)), .val (.long (Int64.ofNat (n - 1))), .second, .val (.long (Int64.ofNat (n - 1))), .second] [(.ref b10)]))
                refine go (fun _ k => XS.lload X178.here hx rfl (hb hby at_212) rfl k) ?_
                show G (T178.setTop (mkF m 214 #[.val (.int p1), .val (.int p2), .val (.int p3), .val (.int p4), .val (.int (1 : Int32)), .val (.int (Int32.ofNat n)), .val (.ref b1), .val (.ref b10), .val (.int (1 : Int32)), .val (.int (Int32.ofNat (n - 1))), .val (.int (1 : Int32)), .val (.long (Int64.ofNat (n - 1))), .second, .val (.long (Int64.ofNat (n - 1))), .second] [(.long (Int64.ofNat (n - 1))), (.ref b10)]))
                refine go (fun _ k => XS.iconst X178.here hx rfl (hb hby at_214) k) ?_
                show G (T178.setTop (mkF m 215 #[.val (.int p1), .val (.int p2), .val (.int p3), .val (.int p4), .val (.int (1 : Int32)), .val (.int (Int32.ofNat n)), .val (.ref b1), .val (.ref b10), .val (.int (1 : Int32)), .val (.int (Int32.ofNat (n - 1))), .val (.int (1 : Int32)), .val (.long (Int64.ofNat (n - 1))), .second, .val (.long (Int64.ofNat (n - 1))), .second] [(.int (0 : Int32)), (.long (Int64.ofNat (n - 1))), (.ref b10)]))
                refine go (fun _ k => XS.iload X178.here hx rfl (hb hby at_215) rfl k) ?_
                show G (T178.setTop (mkF m 217 #[.val (.int p1), .val (.int p2), .val (.int p3), .val (.int p4), .val (.int (1 : Int32)), .val (.int (Int32.ofNat n)), .val (.ref b1), .val (.ref b10), .val (.int (1 : Int32)), .val (.int (Int32.ofNat (n - 1))), .val (.int (1 : Int32)), .val (.long (Int64.ofNat (n - 1))), .second, .val (.long (Int64.ofNat (n - 1))), .second] [(.int (1 : Int32)), (.int (0 : Int32)), (.long (Int64.ofNat (n - 1))), (.ref b10)]))
                have hc188 : ¬ ((1 : Int32) = (0 : Int32)) := (by decide)
                refine go (fun _ k => XS.ifNo X178.here hx rfl (hb hby at_217) rfl ((if0 _ _).trans (feq hc188).1) k) ?_
                show G (T178.setTop (mkF m 220 #[.val (.int p1), .val (.int p2), .val (.int p3), .val (.int p4), .val (.int (1 : Int32)), .val (.int (Int32.ofNat n)), .val (.ref b1), .val (.ref b10), .val (.int (1 : Int32)), .val (.int (Int32.ofNat (n - 1))), .val (.int (1 : Int32)), .val (.long (Int64.ofNat (n - 1))), .second, .val (.long (Int64.ofNat (n - 1))), .second] [(.int (0 : Int32)), (.long (Int64.ofNat (n - 1))), (.ref b10)]))
                refine go (X178.ldc2Long hx hown (mvT hZ (hw _ (List.mem_of_getElem? (i := 110) rfl))) (g := (mkF m 220 #[.val (.int p1), .val (.int p2), .val (.int p3), .val (.int p4), .val (.int (1 : Int32)), .val (.int (Int32.ofNat n)), .val (.ref b1), .val (.ref b10), .val (.int (1 : Int32)), .val (.int (Int32.ofNat (n - 1))), .val (.int (1 : Int32)), .val (.long (Int64.ofNat (n - 1))), .second, .val (.long (Int64.ofNat (n - 1))), .second] [(.int (0 : Int32)), (.long (Int64.ofNat (n - 1))), (.ref b10)])) rfl (hb hby at_220)) ?_
                show G (T178.setTop (mkF m 223 #[.val (.int p1), .val (.int p2), .val (.int p3), .val (.int p4), .val (.int (1 : Int32)), .val (.int (Int32.ofNat n)), .val (.ref b1), .val (.ref b10), .val (.int (1 : Int32)), .val (.int (Int32.ofNat (n - 1))), .val (.int (1 : Int32)), .val (.long (Int64.ofNat (n - 1))), .second, .val (.long (Int64.ofNat (n - 1))), .second] [(.long (100 : Int64)), (.int (0 : Int32)), (.long (Int64.ofNat (n - 1))), (.ref b10)]))
                refine go (fun _ k => XS.goto X178.here hx rfl (pc0 := 223) (pc' := 229) rfl (hb hby at_223) (by decide) (by decide) k) ?_
                show G (T178.setTop (mkF m 229 #[.val (.int p1), .val (.int p2), .val (.int p3), .val (.int p4), .val (.int (1 : Int32)), .val (.int (Int32.ofNat n)), .val (.ref b1), .val (.ref b10), .val (.int (1 : Int32)), .val (.int (Int32.ofNat (n - 1))), .val (.int (1 : Int32)), .val (.long (Int64.ofNat (n - 1))), .second, .val (.long (Int64.ofNat (n - 1))), .second] [(.long (100 : Int64)), (.int (0 : Int32)), (.long (Int64.ofNat (n - 1))), (.ref b10)]))
                obtain ⟨cq189, kq189, qa189, qb189, qc189⟩ := isOf hZ rfl f181
                obtain ⟨_, _, ⟨T189, L189, k189, n189⟩, -, X189, ⟨Lc189, hQ189, l189, y189, z189⟩, st189⟩ := X178.virtualBack hx (y := (⟨"com/example/kerros/kerros/store/SortedChunks", "setWord", "(JIJ)V"⟩ : MethodName)) (z := (⟨"com/example/kerros/kerros/store/SortedChunks", "setWord", "(JIJ)V"⟩ : MethodName)) hown (mvT hZ (hw _ (List.mem_of_getElem? (i := 86) rfl))) (mvT hZ (hw _ (List.mem_of_getElem? (i := 87) rfl))) (notFace_of_selects (args := #[]) (mvT hZ (hw _ (List.mem_of_getElem? (i := 89) rfl)))) (mvT hZ (hw _ (List.mem_of_getElem? (i := 89) rfl))) (mvT hZ (hw _ (List.mem_of_getElem? (i := 88) rfl))) (by decide) (backOf (W := 0) (rm16w1 l Z a0 hw [] b10 (100 : Int64) (n - 1) ca13 ck13 wx178 kc13 kx178 ((n - 1) + 1) dx178 T178.heap n0 Zs178 f182 f183 f184 f185 f186 c178_1 c178_2 c178_3 c178_4 ne_b10_ck13 ne_b10_wx178 c13_3 ne_ca13_wx178 ne_ck13_wx178 g_ck13 g_wx178 (by omega) (by omega) (by omega)) hZ (hw _ (List.mem_of_getElem? (i := 90) rfl)) (hw _ (List.mem_of_getElem? (i := 6) rfl)) (by decide) (by decide)) qa189 qc189 (g := (mkF m 229 #[.val (.int p1), .val (.int p2), .val (.int p3), .val (.int p4), .val (.int (1 : Int32)), .val (.int (Int32.ofNat n)), .val (.ref b1), .val (.ref b10), .val (.int (1 : Int32)), .val (.int (Int32.ofNat (n - 1))), .val (.int (1 : Int32)), .val (.long (Int64.ofNat (n - 1))), .second, .val (.long (Int64.ofNat (n - 1))), .second] [(.long (100 : Int64)), (.int (0 : Int32)), (.long (Int64.ofNat (n - 1))), (.ref b10)])) rfl (by rw [hml]; rfl) (Steps.refl _) (argsL := [(.long (Int64.ofNat (n - 1))), (.int (0 : Int32)), (.long (100 : Int64))]) (rest := []) (lenOf pd_0_3 rfl) rfl (by show 2 * 0 + _ ≤ _; exact Nat.le_of_eq rfl) (hb hby at_229) (fun _ _ => ⟨rfl, rfl, (by decide : 6 + 0 ≤ _), (by decide : 36 + 0 ≤ _)⟩)
                dsimp only [Pt.U, Pt.locs, Pt.cells, Pt.slots] at X189 l189 y189 z189 st189 hQ189
                subst l189 y189 z189
                obtain ⟨rfl, N189q, Kc189, c189_0⟩ := hQ189
                have f190 := f179.keep Kc189
                have f191 := f180.keep Kc189 (ninS ne_b1_wx178 nin0)
                have f192 := f181.keep Kc189
                have f193 := f182.keep Kc189 (ninS ne_b10_wx178 nin0)
                have f194 := f183.keep Kc189 (ninS ne_b10_wx178 nin0)
                have f195 := f184.keep Kc189 (ninS ne_b10_wx178 nin0)
                have f196 := f185.keep Kc189 (ninS ne_ca13_wx178 nin0)
                have f197 := f186.keep Kc189
                have f198 := f187.keep Kc189
                have f199 := c178_1.keep Kc189 (ninS ne_ck13_wx178 nin0)
                have f200 := c178_2.keep Kc189 (ninS ne_ck13_wx178 nin0)
                have f201 := c178_4.keep Kc189
                have Zs189 : n0 ≤ T189.heap.size := Nat.le_trans Zs178 Kc189.1
                have N189 := Fr.app N178 N189q
                refine go (fun _ k => st189.trans k) ?_
                show G (T189.setTop (mkF m 232 #[.val (.int p1), .val (.int p2), .val (.int p3), .val (.int p4), .val (.int (1 : Int32)), .val (.int (Int32.ofNat n)), .val (.ref b1), .val (.ref b10), .val (.int (1 : Int32)), .val (.int (Int32.ofNat (n - 1))), .val (.int (1 : Int32)), .val (.long (Int64.ofNat (n - 1))), .second, .val (.long (Int64.ofNat (n - 1))), .second] []))
                refine go (fun _ k => XS.iinc X189.here hx rfl (hb hby at_232) rfl (l' := #[.val (.int p1), .val (.int p2), .val (.int p3), .val (.int p4), .val (.int (1 : Int32)), .val (.int (Int32.ofNat n)), .val (.ref b1), .val (.ref b10), .val (.int (1 : Int32)), .val (.int ((Int32.ofNat (n - 1)) + (1 : Int32))), .val (.int (1 : Int32)), .val (.long (Int64.ofNat (n - 1))), .second, .val (.long (Int64.ofNat (n - 1))), .second]) rfl k) ?_
                show G (T189.setTop (mkF m 235 #[.val (.int p1), .val (.int p2), .val (.int p3), .val (.int p4), .val (.int (1 : Int32)), .val (.int (Int32.ofNat n)), .val (.ref b1), .val (.ref b10), .val (.int (1 : Int32)), .val (.int ((Int32.ofNat (n - 1)) + (1 : Int32))), .val (.int (1 : Int32)), .val (.long (Int64.ofNat (n - 1))), .second, .val (.long (Int64.ofNat (n - 1))), .second] []))
                rw [show ((Int32.ofNat (n - 1)) + (1 : Int32)) = (Int32.ofNat ((n - 1) + 1)) from own_onadd (n - 1) 1]
                show G (T189.setTop (mkF m 235 #[.val (.int p1), .val (.int p2), .val (.int p3), .val (.int p4), .val (.int (1 : Int32)), .val (.int (Int32.ofNat n)), .val (.ref b1), .val (.ref b10), .val (.int (1 : Int32)), .val (.int (Int32.ofNat ((n - 1) + 1))), .val (.int (1 : Int32)), .val (.long (Int64.ofNat (n - 1))), .second, .val (.long (Int64.ofNat (n - 1))), .second] []))
                refine go (fun _ k => XS.iload X189.here hx rfl (hb hby at_235) rfl k) ?_
                show G (T189.setTop (mkF m 237 #[.val (.int p1), .val (.int p2), .val (.int p3), .val (.int p4), .val (.int (1 : Int32)), .val (.int (Int32.ofNat n)), .val (.ref b1), .val (.ref b10), .val (.int (1 : Int32)), .val (.int (Int32.ofNat ((n - 1) + 1))), .val (.int (1 : Int32)), .val (.long (Int64.ofNat (n - 1))), .second, .val (.long (Int64.ofNat (n - 1))), .second] [(.int (1 : Int32))]))
                have hc202 : ¬ ((1 : Int32) = (0 : Int32)) := (by decide)
                refine go (fun _ k => XS.ifNo X189.here hx rfl (hb hby at_237) rfl ((if0 _ _).trans (feq hc202).1) k) ?_
                show G (T189.setTop (mkF m 240 #[.val (.int p1), .val (.int p2), .val (.int p3), .val (.int p4), .val (.int (1 : Int32)), .val (.int (Int32.ofNat n)), .val (.ref b1), .val (.ref b10), .val (.int (1 : Int32)), .val (.int (Int32.ofNat ((n - 1) + 1))), .val (.int (1 : Int32)), .val (.long (Int64.ofNat (n - 1))), .second, .val (.long (Int64.ofNat (n - 1))), .second] []))
                refine go (fun _ k => XS.aload X189.here hx rfl (hb hby at_240) rfl rfl k) ?_
                show G (T189.setTop (mkF m 242 #[.val (.int p1), .val (.int p2), .val (.int p3), .val (.int p4), .val (.int (1 : Int32)), .val (.int (Int32.ofNat n)), .val (.ref b1), .val (.ref b10), .val (.int (1 : Int32)), .val (.int (Int32.ofNat ((n - 1) + 1))), .val (.int (1 : Int32)), .val (.long (Int64.ofNat (n - 1))), .second, .val (.long (Int64.ofNat (n - 1))), .second] [(.ref b10)]))
                obtain ⟨cq203, kq203, qa203, qb203, qc203⟩ := isOf hZ rfl f192
                obtain ⟨_, _, ⟨T203, L203, k203, n203⟩, -, X203, ⟨Lc203, hQ203, l203, y203, z203⟩, st203⟩ := X189.virtualBack hx (y := (⟨"com/example/kerros/kerros/store/SortedChunks", "isEmpty", "()Z"⟩ : MethodName)) (z := (⟨"com/example/kerros/kerros/store/SortedChunks", "isEmpty", "()Z"⟩ : MethodName)) hown (mvT hZ (hw _ (List.mem_of_getElem? (i := 54) rfl))) (mvT hZ (hw _ (List.mem_of_getElem? (i := 55) rfl))) (notFace_of_selects (args := #[]) (mvT hZ (hw _ (List.mem_of_getElem? (i := 57) rfl)))) (mvT hZ (hw _ (List.mem_of_getElem? (i := 57) rfl))) (mvT hZ (hw _ (List.mem_of_getElem? (i := 56) rfl))) (by decide) (backOf (W := 0) (rm9 l Z a0 hw [] b10 ca13 ck13 kc13 (Int32.ofNat ((n - 1) + 1)) T189.heap n0 Zs189 f195 f196 f200) hZ (hw _ (List.mem_of_getElem? (i := 58) rfl)) (hw _ (List.mem_of_getElem? (i := 6) rfl)) (by decide) (by decide)) qa203 qc203 (g := (mkF m 242 #[.val (.int p1), .val (.int p2), .val (.int p3), .val (.int p4), .val (.int (1 : Int32)), .val (.int (Int32.ofNat n)), .val (.ref b1), .val (.ref b10), .val (.int (1 : Int32)), .val (.int (Int32.ofNat ((n - 1) + 1))), .val (.int (1 : Int32)), .val (.long (Int64.ofNat (n - 1))), .second, .val (.long (Int64.ofNat (n - 1))), .second] [(.ref b10)])) rfl (by rw [hml]; rfl) (Steps.refl _) (argsL := []) (rest := []) (lenOf pd_0_1 rfl) rfl (by show 2 * 0 + _ ≤ _; exact Nat.le_of_eq rfl) (hb hby at_242) (fun _ _ => ⟨rfl, rfl, (by decide : 6 + 0 ≤ _), (by decide : 36 + 0 ≤ _)⟩)
                dsimp only [Pt.U, Pt.locs, Pt.cells, Pt.slots] at X203 l203 y203 z203 st203 hQ203
                subst l203 y203 z203
                obtain ⟨rfl, N203q, e203⟩ := hQ203
                have N203 := Fr.app N189 N203q
                refine go (fun _ k => st203.trans k) ?_
                show G (T203.setTop (mkF m 245 #[.val (.int p1), .val (.int p2), .val (.int p3), .val (.int p4), .val (.int (1 : Int32)), .val (.int (Int32.ofNat n)), .val (.ref b1), .val (.ref b10), .val (.int (1 : Int32)), .val (.int (Int32.ofNat ((n - 1) + 1))), .val (.int (1 : Int32)), .val (.long (Int64.ofNat (n - 1))), .second, .val (.long (Int64.ofNat (n - 1))), .second] [(.int (emp (Int32.ofNat ((n - 1) + 1))))]))
                have hc204 : (emp (Int32.ofNat ((n - 1) + 1))) = (0 : Int32) := by rw [emp, if_neg (own_onne _ (by omega) (by omega))]
                refine go (fun _ k => XS.ifNo X203.here hx rfl (hb hby at_245) rfl ((if0 _ _).trans (teq hc204).2) k) ?_
                show G (T203.setTop (mkF m 248 #[.val (.int p1), .val (.int p2), .val (.int p3), .val (.int p4), .val (.int (1 : Int32)), .val (.int (Int32.ofNat n)), .val (.ref b1), .val (.ref b10), .val (.int (1 : Int32)), .val (.int (Int32.ofNat ((n - 1) + 1))), .val (.int (1 : Int32)), .val (.long (Int64.ofNat (n - 1))), .second, .val (.long (Int64.ofNat (n - 1))), .second] []))
                refine go (fun _ k => XS.iconst X203.here hx rfl (hb hby at_248) k) ?_
                show G (T203.setTop (mkF m 249 #[.val (.int p1), .val (.int p2), .val (.int p3), .val (.int p4), .val (.int (1 : Int32)), .val (.int (Int32.ofNat n)), .val (.ref b1), .val (.ref b10), .val (.int (1 : Int32)), .val (.int (Int32.ofNat ((n - 1) + 1))), .val (.int (1 : Int32)), .val (.long (Int64.ofNat (n - 1))), .second, .val (.long (Int64.ofNat (n - 1))), .second] [(.int (1 : Int32))]))
                refine go (fun _ k => XS.goto X203.here hx rfl (pc0 := 249) (pc' := 253) rfl (hb hby at_249) (by decide) (by decide) k) ?_
                show G (T203.setTop (mkF m 253 #[.val (.int p1), .val (.int p2), .val (.int p3), .val (.int p4), .val (.int (1 : Int32)), .val (.int (Int32.ofNat n)), .val (.ref b1), .val (.ref b10), .val (.int (1 : Int32)), .val (.int (Int32.ofNat ((n - 1) + 1))), .val (.int (1 : Int32)), .val (.long (Int64.ofNat (n - 1))), .second, .val (.long (Int64.ofNat (n - 1))), .second] [(.int (1 : Int32))]))
                refine go (fun _ k => XS.istore X203.here hx rfl (hb hby at_253) rfl (l' := #[.val (.int p1), .val (.int p2), .val (.int p3), .val (.int p4), .val (.int (1 : Int32)), .val (.int (Int32.ofNat n)), .val (.ref b1), .val (.ref b10), .val (.int (1 : Int32)), .val (.int (Int32.ofNat ((n - 1) + 1))), .val (.int (1 : Int32)), .val (.long (Int64.ofNat (n - 1))), .second, .val (.long (Int64.ofNat (n - 1))), .second]) rfl k) ?_
                show G (T203.setTop (mkF m 255 #[.val (.int p1), .val (.int p2), .val (.int p3), .val (.int p4), .val (.int (1 : Int32)), .val (.int (Int32.ofNat n)), .val (.ref b1), .val (.ref b10), .val (.int (1 : Int32)), .val (.int (Int32.ofNat ((n - 1) + 1))), .val (.int (1 : Int32)), .val (.long (Int64.ofNat (n - 1))), .second, .val (.long (Int64.ofNat (n - 1))), .second] []))
                refine go (fun _ k => XS.iloadN X203.here hx rfl (hb hby at_255) rfl k) ?_
                show G (T203.setTop (mkF m 256 #[.val (.int p1), .val (.int p2), .val (.int p3), .val (.int p4), .val (.int (1 : Int32)), .val (.int (Int32.ofNat n)), .val (.ref b1), .val (.ref b10), .val (.int (1 : Int32)), .val (.int (Int32.ofNat ((n - 1) + 1))), .val (.int (1 : Int32)), .val (.long (Int64.ofNat (n - 1))), .second, .val (.long (Int64.ofNat (n - 1))), .second] [(.int p3)]))
                refine go (fun _ k => XS.bipush X203.here hx rfl (hb hby at_256) k) ?_
                show G (T203.setTop (mkF m 258 #[.val (.int p1), .val (.int p2), .val (.int p3), .val (.int p4), .val (.int (1 : Int32)), .val (.int (Int32.ofNat n)), .val (.ref b1), .val (.ref b10), .val (.int (1 : Int32)), .val (.int (Int32.ofNat ((n - 1) + 1))), .val (.int (1 : Int32)), .val (.long (Int64.ofNat (n - 1))), .second, .val (.long (Int64.ofNat (n - 1))), .second] [(.int (8 : Int32)), (.int p3)]))
                refine go (fun _ k => XS.iand X203.here hx rfl (hb hby at_258) rfl k) ?_
                show G (T203.setTop (mkF m 259 #[.val (.int p1), .val (.int p2), .val (.int p3), .val (.int p4), .val (.int (1 : Int32)), .val (.int (Int32.ofNat n)), .val (.ref b1), .val (.ref b10), .val (.int (1 : Int32)), .val (.int (Int32.ofNat ((n - 1) + 1))), .val (.int (1 : Int32)), .val (.long (Int64.ofNat (n - 1))), .second, .val (.long (Int64.ofNat (n - 1))), .second] [(.int (p3 &&& (8 : Int32)))]))
                by_cases hc259_205 : (p3 &&& (8 : Int32)) = (0 : Int32)
                · refine go (fun _ k => XS.ifYes X203.here hx rfl (pc0 := 259) (pc' := 302) rfl (hb hby at_259) rfl ((if0 _ _).trans (teq hc259_205).1) (by decide) (by decide) k) ?_
                  show G (T203.setTop (mkF m 302 #[.val (.int p1), .val (.int p2), .val (.int p3), .val (.int p4), .val (.int (1 : Int32)), .val (.int (Int32.ofNat n)), .val (.ref b1), .val (.ref b10), .val (.int (1 : Int32)), .val (.int (Int32.ofNat ((n - 1) + 1))), .val (.int (1 : Int32)), .val (.long (Int64.ofNat (n - 1))), .second, .val (.long (Int64.ofNat (n - 1))), .second] []))
                  refine go (fun _ k => XS.iload X203.here hx rfl (hb hby at_302) rfl k) ?_
                  show G (T203.setTop (mkF m 304 #[.val (.int p1), .val (.int p2), .val (.int p3), .val (.int p4), .val (.int (1 : Int32)), .val (.int (Int32.ofNat n)), .val (.ref b1), .val (.ref b10), .val (.int (1 : Int32)), .val (.int (Int32.ofNat ((n - 1) + 1))), .val (.int (1 : Int32)), .val (.long (Int64.ofNat (n - 1))), .second, .val (.long (Int64.ofNat (n - 1))), .second] [(.int (1 : Int32))]))
                  rw [hG]
                  refine own_fin X203 Bd.notSynchronized (v := some (.int (1 : Int32))) (fun h => by rw [Bd.returns] at h; cases h) (fun fs hr => retOut X203 hx Bd.returns rfl (by simp [FieldType.isReference, Value.isRef]) (hb hby at_304) hr) ?_ (by decide) (by decide)
                  show Q0 Z p1 p2 p3 p4 h0 n0 (some (.int (1 : Int32))) T203.heap _
                  rw [e203]
                  exact ⟨rfl, N203⟩
                · refine go (fun _ k => XS.ifNo X203.here hx rfl (hb hby at_259) rfl ((if0 _ _).trans (feq hc259_205).1) k) ?_
                  show G (T203.setTop (mkF m 262 #[.val (.int p1), .val (.int p2), .val (.int p3), .val (.int p4), .val (.int (1 : Int32)), .val (.int (Int32.ofNat n)), .val (.ref b1), .val (.ref b10), .val (.int (1 : Int32)), .val (.int (Int32.ofNat ((n - 1) + 1))), .val (.int (1 : Int32)), .val (.long (Int64.ofNat (n - 1))), .second, .val (.long (Int64.ofNat (n - 1))), .second] []))
                  refine go (fun _ k => XS.aload X203.here hx rfl (hb hby at_262) rfl rfl k) ?_
                  show G (T203.setTop (mkF m 264 #[.val (.int p1), .val (.int p2), .val (.int p3), .val (.int p4), .val (.int (1 : Int32)), .val (.int (Int32.ofNat n)), .val (.ref b1), .val (.ref b10), .val (.int (1 : Int32)), .val (.int (Int32.ofNat ((n - 1) + 1))), .val (.int (1 : Int32)), .val (.long (Int64.ofNat (n - 1))), .second, .val (.long (Int64.ofNat (n - 1))), .second] [(.ref b10)]))
                  refine go (fun _ k => XS.lload X203.here hx rfl (hb hby at_264) rfl k) ?_
                  show G (T203.setTop (mkF m 266 #[.val (.int p1), .val (.int p2), .val (.int p3), .val (.int p4), .val (.int (1 : Int32)), .val (.int (Int32.ofNat n)), .val (.ref b1), .val (.ref b10), .val (.int (1 : Int32)), .val (.int (Int32.ofNat ((n - 1) + 1))), .val (.int (1 : Int32)), .val (.long (Int64.ofNat (n - 1))), .second, .val (.long (Int64.ofNat (n - 1))), .second] [(.long (Int64.ofNat (n - 1))), (.ref b10)]))
                  obtain ⟨cq206, kq206, qa206, qb206, qc206⟩ := isOf hZ e203 f192
                  obtain ⟨_, _, ⟨T206, L206, k206, n206⟩, -, X206, ⟨Lc206, hQ206, l206, y206, z206⟩, st206⟩ := X203.virtualBack hx (y := (⟨"com/example/kerros/kerros/store/SortedChunks", "remove", "(J)V"⟩ : MethodName)) (z := (⟨"com/example/kerros/kerros/store/SortedChunks", "remove", "(J)V"⟩ : MethodName)) hown (mvT hZ (hw _ (List.mem_of_getElem? (i := 101) rfl))) (mvT hZ (hw _ (List.mem_of_getElem? (i := 102) rfl))) (notFace_of_selects (args := #[]) (mvT hZ (hw _ (List.mem_of_getElem? (i := 104) rfl)))) (mvT hZ (hw _ (List.mem_of_getElem? (i := 104) rfl))) (mvT hZ (hw _ (List.mem_of_getElem? (i := 103) rfl))) (by decide) (backOf (W := 0) (rm17w1 l Z a0 hw [] b10 (n - 1) ca13 ck13 wx178 kc13 kx178 ((n - 1) + 1) dx178 T189.heap n0 Zs189 f193 f194 f195 f196 f197 f199 f200 c189_0 f201 ne_b10_ck13 ne_b10_wx178 c13_3 ne_ca13_wx178 ne_ck13_wx178 g_ck13 g_wx178 (by omega) (by omega) (by omega)) hZ (hw _ (List.mem_of_getElem? (i := 105) rfl)) (hw _ (List.mem_of_getElem? (i := 6) rfl)) (by decide) (by decide)) qa206 qc206 (g := (mkF m 266 #[.val (.int p1), .val (.int p2), .val (.int p3), .val (.int p4), .val (.int (1 : Int32)), .val (.int (Int32.ofNat n)), .val (.ref b1), .val (.ref b10), .val (.int (1 : Int32)), .val (.int (Int32.ofNat ((n - 1) + 1))), .val (.int (1 : Int32)), .val (.long (Int64.ofNat (n - 1))), .second, .val (.long (Int64.ofNat (n - 1))), .second] [(.long (Int64.ofNat (n - 1))), (.ref b10)])) rfl (by rw [hml]; rfl) (Steps.refl _) (argsL := [(.long (Int64.ofNat (n - 1)))]) (rest := []) (lenOf pd_0_4 rfl) rfl (by show 2 * 0 + _ ≤ _; exact Nat.le_of_eq rfl) (hb hby at_266) (fun _ _ => ⟨rfl, e203, (by decide : 6 + 0 ≤ _), (by decide : 36 + 0 ≤ _)⟩)
                  dsimp only [Pt.U, Pt.locs, Pt.cells, Pt.slots] at X206 l206 y206 z206 st206 hQ206
                  subst l206 y206 z206
                  obtain ⟨rfl, N206q, Kc206, c206_0, c206_1, c206_2⟩ := hQ206
                  have f207 := f190.keep Kc206
                  have f208 := f191.keep Kc206 (ninS ne_b1_ck13 (ninS ne_b1_wx178 nin0))
                  have f209 := f192.keep Kc206
                  have f210 := f193.keep Kc206 (ninS ne_b10_ck13 (ninS ne_b10_wx178 nin0))
                  have f211 := f194.keep Kc206 (ninS ne_b10_ck13 (ninS ne_b10_wx178 nin0))
                  have f212 := f195.keep Kc206 (ninS ne_b10_ck13 (ninS ne_b10_wx178 nin0))
                  have f213 := f196.keep Kc206 (ninS c13_3 (ninS ne_ca13_wx178 nin0))
                  have f214 := f197.keep Kc206
                  have f215 := f198.keep Kc206
                  have f216 := f201.keep Kc206
                  have Zs206 : n0 ≤ T206.heap.size := Nat.le_trans Zs189 Kc206.1
                  have N206 := Fr.app N203 N206q
                  refine go (fun _ k => st206.trans k) ?_
                  show G (T206.setTop (mkF m 269 #[.val (.int p1), .val (.int p2), .val (.int p3), .val (.int p4), .val (.int (1 : Int32)), .val (.int (Int32.ofNat n)), .val (.ref b1), .val (.ref b10), .val (.int (1 : Int32)), .val (.int (Int32.ofNat ((n - 1) + 1))), .val (.int (1 : Int32)), .val (.long (Int64.ofNat (n - 1))), .second, .val (.long (Int64.ofNat (n - 1))), .second] []))
                  refine go (fun _ k => XS.iinc X206.here hx rfl (hb hby at_269) rfl (l' := #[.val (.int p1), .val (.int p2), .val (.int p3), .val (.int p4), .val (.int (1 : Int32)), .val (.int (Int32.ofNat n)), .val (.ref b1), .val (.ref b10), .val (.int (1 : Int32)), .val (.int ((Int32.ofNat ((n - 1) + 1)) + (-1 : Int32))), .val (.int (1 : Int32)), .val (.long (Int64.ofNat (n - 1))), .second, .val (.long (Int64.ofNat (n - 1))), .second]) rfl k) ?_
                  show G (T206.setTop (mkF m 272 #[.val (.int p1), .val (.int p2), .val (.int p3), .val (.int p4), .val (.int (1 : Int32)), .val (.int (Int32.ofNat n)), .val (.ref b1), .val (.ref b10), .val (.int (1 : Int32)), .val (.int ((Int32.ofNat ((n - 1) + 1)) + (-1 : Int32))), .val (.int (1 : Int32)), .val (.long (Int64.ofNat (n - 1))), .second, .val (.long (Int64.ofNat (n - 1))), .second] []))
                  rw [show ((Int32.ofNat ((n - 1) + 1)) + (-1 : Int32)) = (Int32.ofNat (((n - 1) + 1) - 1)) from own_ondec ((n - 1) + 1) (by omega)]
                  show G (T206.setTop (mkF m 272 #[.val (.int p1), .val (.int p2), .val (.int p3), .val (.int p4), .val (.int (1 : Int32)), .val (.int (Int32.ofNat n)), .val (.ref b1), .val (.ref b10), .val (.int (1 : Int32)), .val (.int (Int32.ofNat (((n - 1) + 1) - 1))), .val (.int (1 : Int32)), .val (.long (Int64.ofNat (n - 1))), .second, .val (.long (Int64.ofNat (n - 1))), .second] []))
                  refine go (fun _ k => XS.iload X206.here hx rfl (hb hby at_272) rfl k) ?_
                  show G (T206.setTop (mkF m 274 #[.val (.int p1), .val (.int p2), .val (.int p3), .val (.int p4), .val (.int (1 : Int32)), .val (.int (Int32.ofNat n)), .val (.ref b1), .val (.ref b10), .val (.int (1 : Int32)), .val (.int (Int32.ofNat (((n - 1) + 1) - 1))), .val (.int (1 : Int32)), .val (.long (Int64.ofNat (n - 1))), .second, .val (.long (Int64.ofNat (n - 1))), .second] [(.int (1 : Int32))]))
                  have hc217 : ¬ ((1 : Int32) = (0 : Int32)) := (by decide)
                  refine go (fun _ k => XS.ifNo X206.here hx rfl (hb hby at_274) rfl ((if0 _ _).trans (feq hc217).1) k) ?_
                  show G (T206.setTop (mkF m 277 #[.val (.int p1), .val (.int p2), .val (.int p3), .val (.int p4), .val (.int (1 : Int32)), .val (.int (Int32.ofNat n)), .val (.ref b1), .val (.ref b10), .val (.int (1 : Int32)), .val (.int (Int32.ofNat (((n - 1) + 1) - 1))), .val (.int (1 : Int32)), .val (.long (Int64.ofNat (n - 1))), .second, .val (.long (Int64.ofNat (n - 1))), .second] []))
                  refine go (fun _ k => XS.aload X206.here hx rfl (hb hby at_277) rfl rfl k) ?_
                  show G (T206.setTop (mkF m 279 #[.val (.int p1), .val (.int p2), .val (.int p3), .val (.int p4), .val (.int (1 : Int32)), .val (.int (Int32.ofNat n)), .val (.ref b1), .val (.ref b10), .val (.int (1 : Int32)), .val (.int (Int32.ofNat (((n - 1) + 1) - 1))), .val (.int (1 : Int32)), .val (.long (Int64.ofNat (n - 1))), .second, .val (.long (Int64.ofNat (n - 1))), .second] [(.ref b10)]))
                  obtain ⟨cq218, kq218, qa218, qb218, qc218⟩ := isOf hZ rfl f209
                  obtain ⟨_, _, ⟨T218, L218, k218, n218⟩, -, X218, ⟨Lc218, hQ218, l218, y218, z218⟩, st218⟩ := X206.virtualBack hx (y := (⟨"com/example/kerros/kerros/store/SortedChunks", "isEmpty", "()Z"⟩ : MethodName)) (z := (⟨"com/example/kerros/kerros/store/SortedChunks", "isEmpty", "()Z"⟩ : MethodName)) hown (mvT hZ (hw _ (List.mem_of_getElem? (i := 54) rfl))) (mvT hZ (hw _ (List.mem_of_getElem? (i := 55) rfl))) (notFace_of_selects (args := #[]) (mvT hZ (hw _ (List.mem_of_getElem? (i := 57) rfl)))) (mvT hZ (hw _ (List.mem_of_getElem? (i := 57) rfl))) (mvT hZ (hw _ (List.mem_of_getElem? (i := 56) rfl))) (by decide) (backOf (W := 0) (rm9 l Z a0 hw [] b10 ca13 ck13 kc13 (Int32.ofNat (((n - 1) + 1) - 1)) T206.heap n0 Zs206 f212 f213 c206_1) hZ (hw _ (List.mem_of_getElem? (i := 58) rfl)) (hw _ (List.mem_of_getElem? (i := 6) rfl)) (by decide) (by decide)) qa218 qc218 (g := (mkF m 279 #[.val (.int p1), .val (.int p2), .val (.int p3), .val (.int p4), .val (.int (1 : Int32)), .val (.int (Int32.ofNat n)), .val (.ref b1), .val (.ref b10), .val (.int (1 : Int32)), .val (.int (Int32.ofNat (((n - 1) + 1) - 1))), .val (.int (1 : Int32)), .val (.long (Int64.ofNat (n - 1))), .second, .val (.long (Int64.ofNat (n - 1))), .second] [(.ref b10)])) rfl (by rw [hml]; rfl) (Steps.refl _) (argsL := []) (rest := []) (lenOf pd_0_1 rfl) rfl (by show 2 * 0 + _ ≤ _; exact Nat.le_of_eq rfl) (hb hby at_279) (fun _ _ => ⟨rfl, rfl, (by decide : 6 + 0 ≤ _), (by decide : 36 + 0 ≤ _)⟩)
                  dsimp only [Pt.U, Pt.locs, Pt.cells, Pt.slots] at X218 l218 y218 z218 st218 hQ218
                  subst l218 y218 z218
                  obtain ⟨rfl, N218q, e218⟩ := hQ218
                  have N218 := Fr.app N206 N218q
                  refine go (fun _ k => st218.trans k) ?_
                  show G (T218.setTop (mkF m 282 #[.val (.int p1), .val (.int p2), .val (.int p3), .val (.int p4), .val (.int (1 : Int32)), .val (.int (Int32.ofNat n)), .val (.ref b1), .val (.ref b10), .val (.int (1 : Int32)), .val (.int (Int32.ofNat (((n - 1) + 1) - 1))), .val (.int (1 : Int32)), .val (.long (Int64.ofNat (n - 1))), .second, .val (.long (Int64.ofNat (n - 1))), .second] [(.int (emp (Int32.ofNat (((n - 1) + 1) - 1))))]))
                  have J300_219 : G (T218.setTop (mkF m 300 #[.val (.int p1), .val (.int p2), .val (.int p3), .val (.int p4), .val (.int (1 : Int32)), .val (.int (Int32.ofNat n)), .val (.ref b1), .val (.ref b10), .val (.int (1 : Int32)), .val (.int (Int32.ofNat (((n - 1) + 1) - 1))), .val (.int (1 : Int32)), .val (.long (Int64.ofNat (n - 1))), .second, .val (.long (Int64.ofNat (n - 1))), .second] [(.int (1 : Int32))])) := by
                    refine go (fun _ k => XS.istore X218.here hx rfl (hb hby at_300) rfl (l' := #[.val (.int p1), .val (.int p2), .val (.int p3), .val (.int p4), .val (.int (1 : Int32)), .val (.int (Int32.ofNat n)), .val (.ref b1), .val (.ref b10), .val (.int (1 : Int32)), .val (.int (Int32.ofNat (((n - 1) + 1) - 1))), .val (.int (1 : Int32)), .val (.long (Int64.ofNat (n - 1))), .second, .val (.long (Int64.ofNat (n - 1))), .second]) rfl k) ?_
                    show G (T218.setTop (mkF m 302 #[.val (.int p1), .val (.int p2), .val (.int p3), .val (.int p4), .val (.int (1 : Int32)), .val (.int (Int32.ofNat n)), .val (.ref b1), .val (.ref b10), .val (.int (1 : Int32)), .val (.int (Int32.ofNat (((n - 1) + 1) - 1))), .val (.int (1 : Int32)), .val (.long (Int64.ofNat (n - 1))), .second, .val (.long (Int64.ofNat (n - 1))), .second] []))
                    refine go (fun _ k => XS.iload X218.here hx rfl (hb hby at_302) rfl k) ?_
                    show G (T218.setTop (mkF m 304 #[.val (.int p1), .val (.int p2), .val (.int p3), .val (.int p4), .val (.int (1 : Int32)), .val (.int (Int32.ofNat n)), .val (.ref b1), .val (.ref b10), .val (.int (1 : Int32)), .val (.int (Int32.ofNat (((n - 1) + 1) - 1))), .val (.int (1 : Int32)), .val (.long (Int64.ofNat (n - 1))), .second, .val (.long (Int64.ofNat (n - 1))), .second] [(.int (1 : Int32))]))
                    rw [hG]
                    refine own_fin X218 Bd.notSynchronized (v := some (.int (1 : Int32))) (fun h => by rw [Bd.returns] at h; cases h) (fun fs hr => retOut X218 hx Bd.returns rfl (by simp [FieldType.isReference, Value.isRef]) (hb hby at_304) hr) ?_ (by decide) (by decide)
                    show Q0 Z p1 p2 p3 p4 h0 n0 (some (.int (1 : Int32))) T218.heap _
                    rw [e218]
                    exact ⟨rfl, N218⟩
                  show G (T218.setTop (mkF m 282 #[.val (.int p1), .val (.int p2), .val (.int p3), .val (.int p4), .val (.int (1 : Int32)), .val (.int (Int32.ofNat n)), .val (.ref b1), .val (.ref b10), .val (.int (1 : Int32)), .val (.int (Int32.ofNat (((n - 1) + 1) - 1))), .val (.int (1 : Int32)), .val (.long (Int64.ofNat (n - 1))), .second, .val (.long (Int64.ofNat (n - 1))), .second] [(.int (emp (Int32.ofNat (((n - 1) + 1) - 1))))]))
                  refine go (fun _ k => XS.iload X218.here hx rfl (hb hby at_282) rfl k) ?_
                  show G (T218.setTop (mkF m 284 #[.val (.int p1), .val (.int p2), .val (.int p3), .val (.int p4), .val (.int (1 : Int32)), .val (.int (Int32.ofNat n)), .val (.ref b1), .val (.ref b10), .val (.int (1 : Int32)), .val (.int (Int32.ofNat (((n - 1) + 1) - 1))), .val (.int (1 : Int32)), .val (.long (Int64.ofNat (n - 1))), .second, .val (.long (Int64.ofNat (n - 1))), .second] [(.int (Int32.ofNat (((n - 1) + 1) - 1))), (.int (emp (Int32.ofNat (((n - 1) + 1) - 1))))]))
                  by_cases hc284_220 : (Int32.ofNat (((n - 1) + 1) - 1)) = (0 : Int32)
                  · refine go (fun _ k => XS.ifNo X218.here hx rfl (hb hby at_284) rfl ((if0 _ _).trans (teq hc284_220).2) k) ?_
                    show G (T218.setTop (mkF m 287 #[.val (.int p1), .val (.int p2), .val (.int p3), .val (.int p4), .val (.int (1 : Int32)), .val (.int (Int32.ofNat n)), .val (.ref b1), .val (.ref b10), .val (.int (1 : Int32)), .val (.int (Int32.ofNat (((n - 1) + 1) - 1))), .val (.int (1 : Int32)), .val (.long (Int64.ofNat (n - 1))), .second, .val (.long (Int64.ofNat (n - 1))), .second] [(.int (emp (Int32.ofNat (((n - 1) + 1) - 1))))]))
                    refine go (fun _ k => XS.iconst X218.here hx rfl (hb hby at_287) k) ?_
                    show G (T218.setTop (mkF m 288 #[.val (.int p1), .val (.int p2), .val (.int p3), .val (.int p4), .val (.int (1 : Int32)), .val (.int (Int32.ofNat n)), .val (.ref b1), .val (.ref b10), .val (.int (1 : Int32)), .val (.int (Int32.ofNat (((n - 1) + 1) - 1))), .val (.int (1 : Int32)), .val (.long (Int64.ofNat (n - 1))), .second, .val (.long (Int64.ofNat (n - 1))), .second] [(.int (1 : Int32)), (.int (emp (Int32.ofNat (((n - 1) + 1) - 1))))]))
                    refine go (fun _ k => XS.goto X218.here hx rfl (pc0 := 288) (pc' := 292) rfl (hb hby at_288) (by decide) (by decide) k) ?_
                    show G (T218.setTop (mkF m 292 #[.val (.int p1), .val (.int p2), .val (.int p3), .val (.int p4), .val (.int (1 : Int32)), .val (.int (Int32.ofNat n)), .val (.ref b1), .val (.ref b10), .val (.int (1 : Int32)), .val (.int (Int32.ofNat (((n - 1) + 1) - 1))), .val (.int (1 : Int32)), .val (.long (Int64.ofNat (n - 1))), .second, .val (.long (Int64.ofNat (n - 1))), .second] [(.int (1 : Int32)), (.int (emp (Int32.ofNat (((n - 1) + 1) - 1))))]))
                    have hc221 : (emp (Int32.ofNat (((n - 1) + 1) - 1))) = (1 : Int32) := by rw [emp, if_pos hc284_220]
                    refine go (fun _ k => XS.icmpNo X218.here hx rfl (hb hby at_292) rfl (teq hc221).2 k) ?_
                    show G (T218.setTop (mkF m 295 #[.val (.int p1), .val (.int p2), .val (.int p3), .val (.int p4), .val (.int (1 : Int32)), .val (.int (Int32.ofNat n)), .val (.ref b1), .val (.ref b10), .val (.int (1 : Int32)), .val (.int (Int32.ofNat (((n - 1) + 1) - 1))), .val (.int (1 : Int32)), .val (.long (Int64.ofNat (n - 1))), .second, .val (.long (Int64.ofNat (n - 1))), .second] []))
                    refine go (fun _ k => XS.iconst X218.here hx rfl (hb hby at_295) k) ?_
                    show G (T218.setTop (mkF m 296 #[.val (.int p1), .val (.int p2), .val (.int p3), .val (.int p4), .val (.int (1 : Int32)), .val (.int (Int32.ofNat n)), .val (.ref b1), .val (.ref b10), .val (.int (1 : Int32)), .val (.int (Int32.ofNat (((n - 1) + 1) - 1))), .val (.int (1 : Int32)), .val (.long (Int64.ofNat (n - 1))), .second, .val (.long (Int64.ofNat (n - 1))), .second] [(.int (1 : Int32))]))
                    refine go (fun _ k => XS.goto X218.here hx rfl (pc0 := 296) (pc' := 300) rfl (hb hby at_296) (by decide) (by decide) k) ?_
                    show G (T218.setTop (mkF m 300 #[.val (.int p1), .val (.int p2), .val (.int p3), .val (.int p4), .val (.int (1 : Int32)), .val (.int (Int32.ofNat n)), .val (.ref b1), .val (.ref b10), .val (.int (1 : Int32)), .val (.int (Int32.ofNat (((n - 1) + 1) - 1))), .val (.int (1 : Int32)), .val (.long (Int64.ofNat (n - 1))), .second, .val (.long (Int64.ofNat (n - 1))), .second] [(.int (1 : Int32))]))
                    exact J300_219
                  · refine go (fun _ k => XS.ifYes X218.here hx rfl (pc0 := 284) (pc' := 291) rfl (hb hby at_284) rfl ((if0 _ _).trans (feq hc284_220).2) (by decide) (by decide) k) ?_
                    show G (T218.setTop (mkF m 291 #[.val (.int p1), .val (.int p2), .val (.int p3), .val (.int p4), .val (.int (1 : Int32)), .val (.int (Int32.ofNat n)), .val (.ref b1), .val (.ref b10), .val (.int (1 : Int32)), .val (.int (Int32.ofNat (((n - 1) + 1) - 1))), .val (.int (1 : Int32)), .val (.long (Int64.ofNat (n - 1))), .second, .val (.long (Int64.ofNat (n - 1))), .second] [(.int (emp (Int32.ofNat (((n - 1) + 1) - 1))))]))
                    refine go (fun _ k => XS.iconst X218.here hx rfl (hb hby at_291) k) ?_
                    show G (T218.setTop (mkF m 292 #[.val (.int p1), .val (.int p2), .val (.int p3), .val (.int p4), .val (.int (1 : Int32)), .val (.int (Int32.ofNat n)), .val (.ref b1), .val (.ref b10), .val (.int (1 : Int32)), .val (.int (Int32.ofNat (((n - 1) + 1) - 1))), .val (.int (1 : Int32)), .val (.long (Int64.ofNat (n - 1))), .second, .val (.long (Int64.ofNat (n - 1))), .second] [(.int (0 : Int32)), (.int (emp (Int32.ofNat (((n - 1) + 1) - 1))))]))
                    have hc222 : (emp (Int32.ofNat (((n - 1) + 1) - 1))) = (0 : Int32) := by rw [emp, if_neg hc284_220]
                    refine go (fun _ k => XS.icmpNo X218.here hx rfl (hb hby at_292) rfl (teq hc222).2 k) ?_
                    show G (T218.setTop (mkF m 295 #[.val (.int p1), .val (.int p2), .val (.int p3), .val (.int p4), .val (.int (1 : Int32)), .val (.int (Int32.ofNat n)), .val (.ref b1), .val (.ref b10), .val (.int (1 : Int32)), .val (.int (Int32.ofNat (((n - 1) + 1) - 1))), .val (.int (1 : Int32)), .val (.long (Int64.ofNat (n - 1))), .second, .val (.long (Int64.ofNat (n - 1))), .second] []))
                    refine go (fun _ k => XS.iconst X218.here hx rfl (hb hby at_295) k) ?_
                    show G (T218.setTop (mkF m 296 #[.val (.int p1), .val (.int p2), .val (.int p3), .val (.int p4), .val (.int (1 : Int32)), .val (.int (Int32.ofNat n)), .val (.ref b1), .val (.ref b10), .val (.int (1 : Int32)), .val (.int (Int32.ofNat (((n - 1) + 1) - 1))), .val (.int (1 : Int32)), .val (.long (Int64.ofNat (n - 1))), .second, .val (.long (Int64.ofNat (n - 1))), .second] [(.int (1 : Int32))]))
                    refine go (fun _ k => XS.goto X218.here hx rfl (pc0 := 296) (pc' := 300) rfl (hb hby at_296) (by decide) (by decide) k) ?_
                    show G (T218.setTop (mkF m 300 #[.val (.int p1), .val (.int p2), .val (.int p3), .val (.int p4), .val (.int (1 : Int32)), .val (.int (Int32.ofNat n)), .val (.ref b1), .val (.ref b10), .val (.int (1 : Int32)), .val (.int (Int32.ofNat (((n - 1) + 1) - 1))), .val (.int (1 : Int32)), .val (.long (Int64.ofNat (n - 1))), .second, .val (.long (Int64.ofNat (n - 1))), .second] [(.int (1 : Int32))]))
                    exact J300_219
          show G (T127.setTop (mkF m 148 #[.val (.int p1), .val (.int p2), .val (.int p3), .val (.int p4), .val (.int (1 : Int32)), .val (.int (Int32.ofNat n)), .val (.ref b1), .val (.ref b10), .val (.int (1 : Int32)), .val (.int (Int32.ofNat (n - 1))), .val (.int (Int32.ofNat i)), .unset, .unset, .unset, .unset] [(.int (emp (Int32.ofNat (n - 1))))]))
          refine go (fun _ k => XS.iload X127.here hx rfl (hb hby at_148) rfl k) ?_
          show G (T127.setTop (mkF m 150 #[.val (.int p1), .val (.int p2), .val (.int p3), .val (.int p4), .val (.int (1 : Int32)), .val (.int (Int32.ofNat n)), .val (.ref b1), .val (.ref b10), .val (.int (1 : Int32)), .val (.int (Int32.ofNat (n - 1))), .val (.int (Int32.ofNat i)), .unset, .unset, .unset, .unset] [(.int (Int32.ofNat (n - 1))), (.int (emp (Int32.ofNat (n - 1))))]))
          by_cases hc150_223 : (Int32.ofNat (n - 1)) = (0 : Int32)
          · refine go (fun _ k => XS.ifNo X127.here hx rfl (hb hby at_150) rfl ((if0 _ _).trans (teq hc150_223).2) k) ?_
            show G (T127.setTop (mkF m 153 #[.val (.int p1), .val (.int p2), .val (.int p3), .val (.int p4), .val (.int (1 : Int32)), .val (.int (Int32.ofNat n)), .val (.ref b1), .val (.ref b10), .val (.int (1 : Int32)), .val (.int (Int32.ofNat (n - 1))), .val (.int (Int32.ofNat i)), .unset, .unset, .unset, .unset] [(.int (emp (Int32.ofNat (n - 1))))]))
            refine go (fun _ k => XS.iconst X127.here hx rfl (hb hby at_153) k) ?_
            show G (T127.setTop (mkF m 154 #[.val (.int p1), .val (.int p2), .val (.int p3), .val (.int p4), .val (.int (1 : Int32)), .val (.int (Int32.ofNat n)), .val (.ref b1), .val (.ref b10), .val (.int (1 : Int32)), .val (.int (Int32.ofNat (n - 1))), .val (.int (Int32.ofNat i)), .unset, .unset, .unset, .unset] [(.int (1 : Int32)), (.int (emp (Int32.ofNat (n - 1))))]))
            refine go (fun _ k => XS.goto X127.here hx rfl (pc0 := 154) (pc' := 158) rfl (hb hby at_154) (by decide) (by decide) k) ?_
            show G (T127.setTop (mkF m 158 #[.val (.int p1), .val (.int p2), .val (.int p3), .val (.int p4), .val (.int (1 : Int32)), .val (.int (Int32.ofNat n)), .val (.ref b1), .val (.ref b10), .val (.int (1 : Int32)), .val (.int (Int32.ofNat (n - 1))), .val (.int (Int32.ofNat i)), .unset, .unset, .unset, .unset] [(.int (1 : Int32)), (.int (emp (Int32.ofNat (n - 1))))]))
            have hc224 : (emp (Int32.ofNat (n - 1))) = (1 : Int32) := by rw [emp, if_pos hc150_223]
            refine go (fun _ k => XS.icmpNo X127.here hx rfl (hb hby at_158) rfl (teq hc224).2 k) ?_
            show G (T127.setTop (mkF m 161 #[.val (.int p1), .val (.int p2), .val (.int p3), .val (.int p4), .val (.int (1 : Int32)), .val (.int (Int32.ofNat n)), .val (.ref b1), .val (.ref b10), .val (.int (1 : Int32)), .val (.int (Int32.ofNat (n - 1))), .val (.int (Int32.ofNat i)), .unset, .unset, .unset, .unset] []))
            refine go (fun _ k => XS.iconst X127.here hx rfl (hb hby at_161) k) ?_
            show G (T127.setTop (mkF m 162 #[.val (.int p1), .val (.int p2), .val (.int p3), .val (.int p4), .val (.int (1 : Int32)), .val (.int (Int32.ofNat n)), .val (.ref b1), .val (.ref b10), .val (.int (1 : Int32)), .val (.int (Int32.ofNat (n - 1))), .val (.int (Int32.ofNat i)), .unset, .unset, .unset, .unset] [(.int (1 : Int32))]))
            refine go (fun _ k => XS.goto X127.here hx rfl (pc0 := 162) (pc' := 166) rfl (hb hby at_162) (by decide) (by decide) k) ?_
            show G (T127.setTop (mkF m 166 #[.val (.int p1), .val (.int p2), .val (.int p3), .val (.int p4), .val (.int (1 : Int32)), .val (.int (Int32.ofNat n)), .val (.ref b1), .val (.ref b10), .val (.int (1 : Int32)), .val (.int (Int32.ofNat (n - 1))), .val (.int (Int32.ofNat i)), .unset, .unset, .unset, .unset] [(.int (1 : Int32))]))
            exact J166_128
          · refine go (fun _ k => XS.ifYes X127.here hx rfl (pc0 := 150) (pc' := 157) rfl (hb hby at_150) rfl ((if0 _ _).trans (feq hc150_223).2) (by decide) (by decide) k) ?_
            show G (T127.setTop (mkF m 157 #[.val (.int p1), .val (.int p2), .val (.int p3), .val (.int p4), .val (.int (1 : Int32)), .val (.int (Int32.ofNat n)), .val (.ref b1), .val (.ref b10), .val (.int (1 : Int32)), .val (.int (Int32.ofNat (n - 1))), .val (.int (Int32.ofNat i)), .unset, .unset, .unset, .unset] [(.int (emp (Int32.ofNat (n - 1))))]))
            refine go (fun _ k => XS.iconst X127.here hx rfl (hb hby at_157) k) ?_
            show G (T127.setTop (mkF m 158 #[.val (.int p1), .val (.int p2), .val (.int p3), .val (.int p4), .val (.int (1 : Int32)), .val (.int (Int32.ofNat n)), .val (.ref b1), .val (.ref b10), .val (.int (1 : Int32)), .val (.int (Int32.ofNat (n - 1))), .val (.int (Int32.ofNat i)), .unset, .unset, .unset, .unset] [(.int (0 : Int32)), (.int (emp (Int32.ofNat (n - 1))))]))
            have hc225 : (emp (Int32.ofNat (n - 1))) = (0 : Int32) := by rw [emp, if_neg hc150_223]
            refine go (fun _ k => XS.icmpNo X127.here hx rfl (hb hby at_158) rfl (teq hc225).2 k) ?_
            show G (T127.setTop (mkF m 161 #[.val (.int p1), .val (.int p2), .val (.int p3), .val (.int p4), .val (.int (1 : Int32)), .val (.int (Int32.ofNat n)), .val (.ref b1), .val (.ref b10), .val (.int (1 : Int32)), .val (.int (Int32.ofNat (n - 1))), .val (.int (Int32.ofNat i)), .unset, .unset, .unset, .unset] []))
            refine go (fun _ k => XS.iconst X127.here hx rfl (hb hby at_161) k) ?_
            show G (T127.setTop (mkF m 162 #[.val (.int p1), .val (.int p2), .val (.int p3), .val (.int p4), .val (.int (1 : Int32)), .val (.int (Int32.ofNat n)), .val (.ref b1), .val (.ref b10), .val (.int (1 : Int32)), .val (.int (Int32.ofNat (n - 1))), .val (.int (Int32.ofNat i)), .unset, .unset, .unset, .unset] [(.int (1 : Int32))]))
            refine go (fun _ k => XS.goto X127.here hx rfl (pc0 := 162) (pc' := 166) rfl (hb hby at_162) (by decide) (by decide) k) ?_
            show G (T127.setTop (mkF m 166 #[.val (.int p1), .val (.int p2), .val (.int p3), .val (.int p4), .val (.int (1 : Int32)), .val (.int (Int32.ofNat n)), .val (.ref b1), .val (.ref b10), .val (.int (1 : Int32)), .val (.int (Int32.ofNat (n - 1))), .val (.int (Int32.ofNat i)), .unset, .unset, .unset, .unset] [(.int (1 : Int32))]))
            exact J166_128
        · refine go (fun _ k => XS.ifYes X17.here hx rfl (pc0 := 115) (pc' := 168) rfl (hb hby at_115) rfl ((if0 _ _).trans (flt hc115_115).2.2.2) (by decide) (by decide) k) ?_
          show G (T17.setTop (mkF m 168 #[.val (.int p1), .val (.int p2), .val (.int p3), .val (.int p4), .val (.int (1 : Int32)), .val (.int (Int32.ofNat n)), .val (.ref b1), .val (.ref b10), .val (.int (1 : Int32)), .val (.int (Int32.ofNat n)), .unset, .unset, .unset, .unset, .unset] []))
          exact J168_19
    show G (T17.setTop (mkF m 83 #[.val (.int p1), .val (.int p2), .val (.int p3), .val (.int p4), .val (.int (1 : Int32)), .val (.int (Int32.ofNat n)), .val (.ref b1), .val (.ref b10), .unset, .unset, .unset, .unset, .unset, .unset, .unset] [(.int (emp (Int32.ofNat n)))]))
    refine go (fun _ k => XS.iload X17.here hx rfl (hb hby at_83) rfl k) ?_
    show G (T17.setTop (mkF m 85 #[.val (.int p1), .val (.int p2), .val (.int p3), .val (.int p4), .val (.int (1 : Int32)), .val (.int (Int32.ofNat n)), .val (.ref b1), .val (.ref b10), .unset, .unset, .unset, .unset, .unset, .unset, .unset] [(.int (Int32.ofNat n)), (.int (emp (Int32.ofNat n)))]))
    by_cases hc85_226 : (Int32.ofNat n) = (0 : Int32)
    · refine go (fun _ k => XS.ifNo X17.here hx rfl (hb hby at_85) rfl ((if0 _ _).trans (teq hc85_226).2) k) ?_
      show G (T17.setTop (mkF m 88 #[.val (.int p1), .val (.int p2), .val (.int p3), .val (.int p4), .val (.int (1 : Int32)), .val (.int (Int32.ofNat n)), .val (.ref b1), .val (.ref b10), .unset, .unset, .unset, .unset, .unset, .unset, .unset] [(.int (emp (Int32.ofNat n)))]))
      refine go (fun _ k => XS.iconst X17.here hx rfl (hb hby at_88) k) ?_
      show G (T17.setTop (mkF m 89 #[.val (.int p1), .val (.int p2), .val (.int p3), .val (.int p4), .val (.int (1 : Int32)), .val (.int (Int32.ofNat n)), .val (.ref b1), .val (.ref b10), .unset, .unset, .unset, .unset, .unset, .unset, .unset] [(.int (1 : Int32)), (.int (emp (Int32.ofNat n)))]))
      refine go (fun _ k => XS.goto X17.here hx rfl (pc0 := 89) (pc' := 93) rfl (hb hby at_89) (by decide) (by decide) k) ?_
      show G (T17.setTop (mkF m 93 #[.val (.int p1), .val (.int p2), .val (.int p3), .val (.int p4), .val (.int (1 : Int32)), .val (.int (Int32.ofNat n)), .val (.ref b1), .val (.ref b10), .unset, .unset, .unset, .unset, .unset, .unset, .unset] [(.int (1 : Int32)), (.int (emp (Int32.ofNat n)))]))
      have hc227 : (emp (Int32.ofNat n)) = (1 : Int32) := by rw [emp, if_pos hc85_226]
      refine go (fun _ k => XS.icmpNo X17.here hx rfl (hb hby at_93) rfl (teq hc227).2 k) ?_
      show G (T17.setTop (mkF m 96 #[.val (.int p1), .val (.int p2), .val (.int p3), .val (.int p4), .val (.int (1 : Int32)), .val (.int (Int32.ofNat n)), .val (.ref b1), .val (.ref b10), .unset, .unset, .unset, .unset, .unset, .unset, .unset] []))
      refine go (fun _ k => XS.iconst X17.here hx rfl (hb hby at_96) k) ?_
      show G (T17.setTop (mkF m 97 #[.val (.int p1), .val (.int p2), .val (.int p3), .val (.int p4), .val (.int (1 : Int32)), .val (.int (Int32.ofNat n)), .val (.ref b1), .val (.ref b10), .unset, .unset, .unset, .unset, .unset, .unset, .unset] [(.int (1 : Int32))]))
      refine go (fun _ k => XS.goto X17.here hx rfl (pc0 := 97) (pc' := 101) rfl (hb hby at_97) (by decide) (by decide) k) ?_
      show G (T17.setTop (mkF m 101 #[.val (.int p1), .val (.int p2), .val (.int p3), .val (.int p4), .val (.int (1 : Int32)), .val (.int (Int32.ofNat n)), .val (.ref b1), .val (.ref b10), .unset, .unset, .unset, .unset, .unset, .unset, .unset] [(.int (1 : Int32))]))
      exact J101_18
    · refine go (fun _ k => XS.ifYes X17.here hx rfl (pc0 := 85) (pc' := 92) rfl (hb hby at_85) rfl ((if0 _ _).trans (feq hc85_226).2) (by decide) (by decide) k) ?_
      show G (T17.setTop (mkF m 92 #[.val (.int p1), .val (.int p2), .val (.int p3), .val (.int p4), .val (.int (1 : Int32)), .val (.int (Int32.ofNat n)), .val (.ref b1), .val (.ref b10), .unset, .unset, .unset, .unset, .unset, .unset, .unset] [(.int (emp (Int32.ofNat n)))]))
      refine go (fun _ k => XS.iconst X17.here hx rfl (hb hby at_92) k) ?_
      show G (T17.setTop (mkF m 93 #[.val (.int p1), .val (.int p2), .val (.int p3), .val (.int p4), .val (.int (1 : Int32)), .val (.int (Int32.ofNat n)), .val (.ref b1), .val (.ref b10), .unset, .unset, .unset, .unset, .unset, .unset, .unset] [(.int (0 : Int32)), (.int (emp (Int32.ofNat n)))]))
      have hc228 : (emp (Int32.ofNat n)) = (0 : Int32) := by rw [emp, if_neg hc85_226]
      refine go (fun _ k => XS.icmpNo X17.here hx rfl (hb hby at_93) rfl (teq hc228).2 k) ?_
      show G (T17.setTop (mkF m 96 #[.val (.int p1), .val (.int p2), .val (.int p3), .val (.int p4), .val (.int (1 : Int32)), .val (.int (Int32.ofNat n)), .val (.ref b1), .val (.ref b10), .unset, .unset, .unset, .unset, .unset, .unset, .unset] []))
      refine go (fun _ k => XS.iconst X17.here hx rfl (hb hby at_96) k) ?_
      show G (T17.setTop (mkF m 97 #[.val (.int p1), .val (.int p2), .val (.int p3), .val (.int p4), .val (.int (1 : Int32)), .val (.int (Int32.ofNat n)), .val (.ref b1), .val (.ref b10), .unset, .unset, .unset, .unset, .unset, .unset, .unset] [(.int (1 : Int32))]))
      refine go (fun _ k => XS.goto X17.here hx rfl (pc0 := 97) (pc' := 101) rfl (hb hby at_97) (by decide) (by decide) k) ?_
      show G (T17.setTop (mkF m 101 #[.val (.int p1), .val (.int p2), .val (.int p3), .val (.int p4), .val (.int (1 : Int32)), .val (.int (Int32.ofNat n)), .val (.ref b1), .val (.ref b10), .unset, .unset, .unset, .unset, .unset, .unset, .unset] [(.int (1 : Int32))]))
      exact J101_18
  · show G (s₁.setTop (mkF m 15 #[.val (.int p1), .val (.int p2), .val (.int p3), .val (.int p4), .val (.int (2 : Int32)), .val (.int (Int32.ofNat n)), .unset, .unset, .unset, .unset, .unset, .unset, .unset, .unset, .unset] []))
    refine go (fun _ k => XS.bipush X0.here hx rfl (hb hby at_15) k) ?_
    show G (s₁.setTop (mkF m 17 #[.val (.int p1), .val (.int p2), .val (.int p3), .val (.int p4), .val (.int (2 : Int32)), .val (.int (Int32.ofNat n)), .unset, .unset, .unset, .unset, .unset, .unset, .unset, .unset, .unset] [(.int (6 : Int32))]))
    obtain ⟨T229, h229, k229, X229, e229, E229, A229, B229, st229⟩ := newPE X0 hx hZ (hw _ (List.mem_of_getElem? (i := 1) rfl)) e0 (g := (mkF m 17 #[.val (.int p1), .val (.int p2), .val (.int p3), .val (.int p4), .val (.int (2 : Int32)), .val (.int (Int32.ofNat n)), .unset, .unset, .unset, .unset, .unset, .unset, .unset, .unset, .unset] [(.int (6 : Int32))])) rfl (hb hby at_17) rfl (by decide) (cap := 6) (by decide) (by decide) (by decide) (by decide) (ad := "[J") (by decide)
    obtain ⟨b229, ga229⟩ : ∃ z, z = h0.size := ⟨_, rfl⟩
    have g_b229 : n0 ≤ b229 := Nat.le_trans Z0 (Nat.le_of_eq ga229.symm)
    rw [← ga229] at A229 B229 st229
    have Zs229 : n0 ≤ h229.size := Nat.le_trans Z0 E229.1
    have V229 : Arv Z h229 b229 k229 .long (6 : Int32) [(.long (0 : Int64)), (.long (0 : Int64)), (.long (0 : Int64)), (.long (0 : Int64)), (.long (0 : Int64)), (.long (0 : Int64))] (.long (0 : Int64)) := (Arv.new A229 (by decide)).pad (pad_rep [] (.long (0 : Int64)) 6)
    refine go st229 ?_
    show G (T229.setTop (mkF m 19 #[.val (.int p1), .val (.int p2), .val (.int p3), .val (.int p4), .val (.int (2 : Int32)), .val (.int (Int32.ofNat n)), .unset, .unset, .unset, .unset, .unset, .unset, .unset, .unset, .unset] [(.ref b229)]))
    refine go (fun _ k => XS.astore X229.here hx rfl (hb hby at_19) rfl rfl (l' := #[.val (.int p1), .val (.int p2), .val (.int p3), .val (.int p4), .val (.int (2 : Int32)), .val (.int (Int32.ofNat n)), .val (.ref b229), .unset, .unset, .unset, .unset, .unset, .unset, .unset, .unset]) rfl k) ?_
    show G (T229.setTop (mkF m 21 #[.val (.int p1), .val (.int p2), .val (.int p3), .val (.int p4), .val (.int (2 : Int32)), .val (.int (Int32.ofNat n)), .val (.ref b229), .unset, .unset, .unset, .unset, .unset, .unset, .unset, .unset] []))
    refine go (fun _ k => XS.aload X229.here hx rfl (hb hby at_21) rfl rfl k) ?_
    show G (T229.setTop (mkF m 23 #[.val (.int p1), .val (.int p2), .val (.int p3), .val (.int p4), .val (.int (2 : Int32)), .val (.int (Int32.ofNat n)), .val (.ref b229), .unset, .unset, .unset, .unset, .unset, .unset, .unset, .unset] [(.ref b229)]))
    refine go (fun _ k => XS.iconst X229.here hx rfl (hb hby at_23) k) ?_
    show G (T229.setTop (mkF m 24 #[.val (.int p1), .val (.int p2), .val (.int p3), .val (.int p4), .val (.int (2 : Int32)), .val (.int (Int32.ofNat n)), .val (.ref b229), .unset, .unset, .unset, .unset, .unset, .unset, .unset, .unset] [(.int (0 : Int32)), (.ref b229)]))
    refine go (fun _ k => XS.lconst X229.here hx rfl (hb hby at_24) k) ?_
    show G (T229.setTop (mkF m 25 #[.val (.int p1), .val (.int p2), .val (.int p3), .val (.int p4), .val (.int (2 : Int32)), .val (.int (Int32.ofNat n)), .val (.ref b229), .unset, .unset, .unset, .unset, .unset, .unset, .unset, .unset] [(.long (0 : Int64)), (.int (0 : Int32)), (.ref b229)]))
    obtain ⟨cl230, Ar230, qk230, qs230, qn230, qh230, qg230⟩ := id V229
    obtain ⟨T230, h230, X230, e230, W230, st230⟩ := stJ X229 hx hZ e229 Ar230 (j := (0 : Int32)) (inb_of qs230 ⟨by decide, by decide⟩) (g := (mkF m 25 #[.val (.int p1), .val (.int p2), .val (.int p3), .val (.int p4), .val (.int (2 : Int32)), .val (.int (Int32.ofNat n)), .val (.ref b229), .unset, .unset, .unset, .unset, .unset, .unset, .unset, .unset] [(.long (0 : Int64)), (.int (0 : Int32)), (.ref b229)])) rfl rfl (hb hby at_25)
    have V230 : Arv Z h230 b229 k229 .long (6 : Int32) [(.long (0 : Int64)), (.long (0 : Int64)), (.long (0 : Int64)), (.long (0 : Int64)), (.long (0 : Int64)), (.long (0 : Int64))] (.long (0 : Int64)) := Arv.set Ar230 qk230 qs230 qn230 qh230 qg230 rfl W230 0 rfl (Nat.le_of_ble_eq_true rfl)
    have f231 := B229.wr W230
    have Zs230 : n0 ≤ h230.size := Nat.le_trans Zs229 (Keep.of_wr W230).1
    have N230 := Fr.snoc X230 N0 g_b229
    refine go st230 ?_
    show G (T230.setTop (mkF m 26 #[.val (.int p1), .val (.int p2), .val (.int p3), .val (.int p4), .val (.int (2 : Int32)), .val (.int (Int32.ofNat n)), .val (.ref b229), .unset, .unset, .unset, .unset, .unset, .unset, .unset, .unset] []))
    refine go (fun _ k => XS.iload X230.here hx rfl (hb hby at_26) rfl k) ?_
    show G (T230.setTop (mkF m 28 #[.val (.int p1), .val (.int p2), .val (.int p3), .val (.int p4), .val (.int (2 : Int32)), .val (.int (Int32.ofNat n)), .val (.ref b229), .unset, .unset, .unset, .unset, .unset, .unset, .unset, .unset] [(.int (2 : Int32))]))
    refine go (fun _ k => XS.iconst X230.here hx rfl (hb hby at_28) k) ?_
    show G (T230.setTop (mkF m 29 #[.val (.int p1), .val (.int p2), .val (.int p3), .val (.int p4), .val (.int (2 : Int32)), .val (.int (Int32.ofNat n)), .val (.ref b229), .unset, .unset, .unset, .unset, .unset, .unset, .unset, .unset] [(.int (1 : Int32)), (.int (2 : Int32))]))
    have hc232 : ¬ ((2 : Int32) = (1 : Int32)) := (by decide)
    refine go (fun _ k => XS.icmpYes X230.here hx rfl (pc0 := 29) (pc' := 49) rfl (hb hby at_29) rfl (feq hc232).2 (by decide) (by decide) k) ?_
    show G (T230.setTop (mkF m 49 #[.val (.int p1), .val (.int p2), .val (.int p3), .val (.int p4), .val (.int (2 : Int32)), .val (.int (Int32.ofNat n)), .val (.ref b229), .unset, .unset, .unset, .unset, .unset, .unset, .unset, .unset] []))
    refine go (fun _ k => XS.aload X230.here hx rfl (hb hby at_49) rfl rfl k) ?_
    show G (T230.setTop (mkF m 51 #[.val (.int p1), .val (.int p2), .val (.int p3), .val (.int p4), .val (.int (2 : Int32)), .val (.int (Int32.ofNat n)), .val (.ref b229), .unset, .unset, .unset, .unset, .unset, .unset, .unset, .unset] [(.ref b229)]))
    refine go (fun _ k => XS.iconst X230.here hx rfl (hb hby at_51) k) ?_
    show G (T230.setTop (mkF m 52 #[.val (.int p1), .val (.int p2), .val (.int p3), .val (.int p4), .val (.int (2 : Int32)), .val (.int (Int32.ofNat n)), .val (.ref b229), .unset, .unset, .unset, .unset, .unset, .unset, .unset, .unset] [(.int (2 : Int32)), (.ref b229)]))
    refine go (X230.ldc2Long hx hown (mvT hZ (hw _ (List.mem_of_getElem? (i := 2) rfl))) (g := (mkF m 52 #[.val (.int p1), .val (.int p2), .val (.int p3), .val (.int p4), .val (.int (2 : Int32)), .val (.int (Int32.ofNat n)), .val (.ref b229), .unset, .unset, .unset, .unset, .unset, .unset, .unset, .unset] [(.int (2 : Int32)), (.ref b229)])) rfl (hb hby at_52)) ?_
    show G (T230.setTop (mkF m 55 #[.val (.int p1), .val (.int p2), .val (.int p3), .val (.int p4), .val (.int (2 : Int32)), .val (.int (Int32.ofNat n)), .val (.ref b229), .unset, .unset, .unset, .unset, .unset, .unset, .unset, .unset] [(.long (10 : Int64)), (.int (2 : Int32)), (.ref b229)]))
    obtain ⟨cl233, Ar233, qk233, qs233, qn233, qh233, qg233⟩ := id V230
    obtain ⟨T233, h233, X233, e233, W233, st233⟩ := stJ X230 hx hZ e230 Ar233 (j := (2 : Int32)) (inb_of qs233 ⟨by decide, by decide⟩) (g := (mkF m 55 #[.val (.int p1), .val (.int p2), .val (.int p3), .val (.int p4), .val (.int (2 : Int32)), .val (.int (Int32.ofNat n)), .val (.ref b229), .unset, .unset, .unset, .unset, .unset, .unset, .unset, .unset] [(.long (10 : Int64)), (.int (2 : Int32)), (.ref b229)])) rfl rfl (hb hby at_55)
    have V233 : Arv Z h233 b229 k229 .long (6 : Int32) [(.long (0 : Int64)), (.long (0 : Int64)), (.long (10 : Int64)), (.long (0 : Int64)), (.long (0 : Int64)), (.long (0 : Int64))] (.long (0 : Int64)) := Arv.set Ar233 qk233 qs233 qn233 qh233 qg233 rfl W233 2 rfl (Nat.le_of_ble_eq_true rfl)
    have f234 := f231.wr W233
    have Zs233 : n0 ≤ h233.size := Nat.le_trans Zs230 (Keep.of_wr W233).1
    have N233 := Fr.snoc X233 N230 g_b229
    refine go st233 ?_
    show G (T233.setTop (mkF m 56 #[.val (.int p1), .val (.int p2), .val (.int p3), .val (.int p4), .val (.int (2 : Int32)), .val (.int (Int32.ofNat n)), .val (.ref b229), .unset, .unset, .unset, .unset, .unset, .unset, .unset, .unset] []))
    refine go (fun _ k => XS.aload X233.here hx rfl (hb hby at_56) rfl rfl k) ?_
    show G (T233.setTop (mkF m 58 #[.val (.int p1), .val (.int p2), .val (.int p3), .val (.int p4), .val (.int (2 : Int32)), .val (.int (Int32.ofNat n)), .val (.ref b229), .unset, .unset, .unset, .unset, .unset, .unset, .unset, .unset] [(.ref b229)]))
    refine go (fun _ k => XS.iconst X233.here hx rfl (hb hby at_58) k) ?_
    show G (T233.setTop (mkF m 59 #[.val (.int p1), .val (.int p2), .val (.int p3), .val (.int p4), .val (.int (2 : Int32)), .val (.int (Int32.ofNat n)), .val (.ref b229), .unset, .unset, .unset, .unset, .unset, .unset, .unset, .unset] [(.int (4 : Int32)), (.ref b229)]))
    refine go (X233.ldc2Long hx hown (mvT hZ (hw _ (List.mem_of_getElem? (i := 3) rfl))) (g := (mkF m 59 #[.val (.int p1), .val (.int p2), .val (.int p3), .val (.int p4), .val (.int (2 : Int32)), .val (.int (Int32.ofNat n)), .val (.ref b229), .unset, .unset, .unset, .unset, .unset, .unset, .unset, .unset] [(.int (4 : Int32)), (.ref b229)])) rfl (hb hby at_59)) ?_
    show G (T233.setTop (mkF m 62 #[.val (.int p1), .val (.int p2), .val (.int p3), .val (.int p4), .val (.int (2 : Int32)), .val (.int (Int32.ofNat n)), .val (.ref b229), .unset, .unset, .unset, .unset, .unset, .unset, .unset, .unset] [(.long (20 : Int64)), (.int (4 : Int32)), (.ref b229)]))
    obtain ⟨cl235, Ar235, qk235, qs235, qn235, qh235, qg235⟩ := id V233
    obtain ⟨T235, h235, X235, e235, W235, st235⟩ := stJ X233 hx hZ e233 Ar235 (j := (4 : Int32)) (inb_of qs235 ⟨by decide, by decide⟩) (g := (mkF m 62 #[.val (.int p1), .val (.int p2), .val (.int p3), .val (.int p4), .val (.int (2 : Int32)), .val (.int (Int32.ofNat n)), .val (.ref b229), .unset, .unset, .unset, .unset, .unset, .unset, .unset, .unset] [(.long (20 : Int64)), (.int (4 : Int32)), (.ref b229)])) rfl rfl (hb hby at_62)
    have V235 : Arv Z h235 b229 k229 .long (6 : Int32) [(.long (0 : Int64)), (.long (0 : Int64)), (.long (10 : Int64)), (.long (0 : Int64)), (.long (20 : Int64)), (.long (0 : Int64))] (.long (0 : Int64)) := Arv.set Ar235 qk235 qs235 qn235 qh235 qg235 rfl W235 4 rfl (Nat.le_of_ble_eq_true rfl)
    have f236 := f234.wr W235
    have Zs235 : n0 ≤ h235.size := Nat.le_trans Zs233 (Keep.of_wr W235).1
    have N235 := Fr.snoc X235 N233 g_b229
    refine go st235 ?_
    show G (T235.setTop (mkF m 63 #[.val (.int p1), .val (.int p2), .val (.int p3), .val (.int p4), .val (.int (2 : Int32)), .val (.int (Int32.ofNat n)), .val (.ref b229), .unset, .unset, .unset, .unset, .unset, .unset, .unset, .unset] []))
    have VWL237 : LA Z h235 b229 k229 6 := ⟨_, rfl, V235⟩
    obtain ⟨T238, h238, X238, e238, E238, A238, D238, -, st238⟩ := newO X235 hx hZ hown (hw _ (List.mem_of_getElem? (i := 4) rfl)) (hw _ (List.mem_of_getElem? (i := 5) rfl)) (hw _ (List.mem_of_getElem? (i := 6) rfl)) e235 (g := (mkF m 63 #[.val (.int p1), .val (.int p2), .val (.int p3), .val (.int p4), .val (.int (2 : Int32)), .val (.int (Int32.ofNat n)), .val (.ref b229), .unset, .unset, .unset, .unset, .unset, .unset, .unset, .unset] [])) rfl (hb hby at_63) (by decide) (by decide)
    obtain ⟨b238, ga238⟩ : ∃ z, z = h235.size := ⟨_, rfl⟩
    have ne_b229_b238 : b229 ≠ b238 := Nat.ne_of_lt (Nat.lt_of_lt_of_le f236.lt (Nat.le_of_eq ga238.symm))
    have g_b238 : n0 ≤ b238 := Nat.le_trans Zs235 (Nat.le_of_eq ga238.symm)
    rw [← ga238] at A238 D238 st238
    have f239 := f236.ext E238
    have f240 := VWL237.ext E238
    have Zs238 : n0 ≤ h238.size := Nat.le_trans Zs235 E238.1
    have F238_width : Fld Z h238 b238 "com/example/kerros/kerros/store/SortedChunks" "width" "I" (.int (0 : Int32)) := D238 (Or.inr (hw _ (List.mem_of_getElem? (i := 14) rfl))) (ty := .int) (by decide)
    have F238_used : Fld Z h238 b238 "com/example/kerros/kerros/store/SortedChunks" "used" "I" (.int (0 : Int32)) := D238 (Or.inl (hw _ (List.mem_of_getElem? (i := 20) rfl))) (ty := .int) (by decide)
    have F238_chunks : Fld Z h238 b238 "com/example/kerros/kerros/store/SortedChunks" "chunks" "[Lcom/example/kerros/kerros/store/SortedChunks$Chunk;" .null := D238 (Or.inl (hw _ (List.mem_of_getElem? (i := 24) rfl))) (ty := (.array (.object "com/example/kerros/kerros/store/SortedChunks$Chunk"))) (by decide)
    refine go st238 ?_
    show G (T238.setTop (mkF m 66 #[.val (.int p1), .val (.int p2), .val (.int p3), .val (.int p4), .val (.int (2 : Int32)), .val (.int (Int32.ofNat n)), .val (.ref b229), .unset, .unset, .unset, .unset, .unset, .unset, .unset, .unset] [(.ref b238)]))
    refine go (fun _ k => XS.dup X238.here hx rfl (hb hby at_66) rfl rfl k) ?_
    show G (T238.setTop (mkF m 67 #[.val (.int p1), .val (.int p2), .val (.int p3), .val (.int p4), .val (.int (2 : Int32)), .val (.int (Int32.ofNat n)), .val (.ref b229), .unset, .unset, .unset, .unset, .unset, .unset, .unset, .unset] [(.ref b238), (.ref b238)]))
    refine go (fun _ k => XS.iload X238.here hx rfl (hb hby at_67) rfl k) ?_
    show G (T238.setTop (mkF m 69 #[.val (.int p1), .val (.int p2), .val (.int p3), .val (.int p4), .val (.int (2 : Int32)), .val (.int (Int32.ofNat n)), .val (.ref b229), .unset, .unset, .unset, .unset, .unset, .unset, .unset, .unset] [(.int (2 : Int32)), (.ref b238), (.ref b238)]))
    refine go (fun _ k => XS.aload X238.here hx rfl (hb hby at_69) rfl rfl k) ?_
    show G (T238.setTop (mkF m 71 #[.val (.int p1), .val (.int p2), .val (.int p3), .val (.int p4), .val (.int (2 : Int32)), .val (.int (Int32.ofNat n)), .val (.ref b229), .unset, .unset, .unset, .unset, .unset, .unset, .unset, .unset] [(.ref b229), (.int (2 : Int32)), (.ref b238), (.ref b238)]))
    refine go (fun _ k => XS.iload X238.here hx rfl (hb hby at_71) rfl k) ?_
    show G (T238.setTop (mkF m 73 #[.val (.int p1), .val (.int p2), .val (.int p3), .val (.int p4), .val (.int (2 : Int32)), .val (.int (Int32.ofNat n)), .val (.ref b229), .unset, .unset, .unset, .unset, .unset, .unset, .unset, .unset] [(.int (Int32.ofNat n)), (.ref b229), (.int (2 : Int32)), (.ref b238), (.ref b238)]))
    obtain ⟨_, _, ⟨T241, L241, k241, n241⟩, -, X241, ⟨Lc241, hQ241, l241, y241, z241⟩, st241⟩ := X238.specialBack hx (y := (⟨"com/example/kerros/kerros/store/SortedChunks", "<init>", "(I[JI)V"⟩ : MethodName)) rfl hown (mvT hZ (hw _ (List.mem_of_getElem? (i := 7) rfl))) (mvT hZ (hw _ (List.mem_of_getElem? (i := 8) rfl))) (mvT hZ (hw _ (List.mem_of_getElem? (i := 9) rfl))) (by decide) (backOf (W := 1) (rm1w2 l Z a0 hw [] b238 b229 n k229 h238 n0 Zs238 (by omega) F238_width F238_used F238_chunks A238 f240 f239 (Ne.symm ne_b229_b238) g_b238) hZ (hw _ (List.mem_of_getElem? (i := 9) rfl)) (hw _ (List.mem_of_getElem? (i := 6) rfl)) (by decide) (by decide)) (g := (mkF m 73 #[.val (.int p1), .val (.int p2), .val (.int p3), .val (.int p4), .val (.int (2 : Int32)), .val (.int (Int32.ofNat n)), .val (.ref b229), .unset, .unset, .unset, .unset, .unset, .unset, .unset, .unset] [(.int (Int32.ofNat n)), (.ref b229), (.int (2 : Int32)), (.ref b238), (.ref b238)])) rfl (by rw [hml]; rfl) (Steps.refl _) (a := b238) (argsL := [(.int (2 : Int32)), (.ref b229), (.int (Int32.ofNat n))]) (rest := [(.ref b238)]) (lenOf pd_0_0 rfl) rfl (by show 2 * 0 + _ ≤ _; exact Nat.le_of_eq rfl) (hb hby at_73) (fun _ _ => ⟨rfl, e238, (by decide : 2 + 3 ≤ _), (by decide : 9 + 15 ≤ _)⟩)
    dsimp only [Pt.U, Pt.locs, Pt.cells, Pt.slots] at X241 l241 y241 z241 st241 hQ241
    subst l241 y241 z241
    obtain ⟨ca241, ck241, wa241, kc241, kw241, cb241, rfl, N241q, Kc241, c241_0, c241_1, c241_2, c241_3, c241_4, c241_5, c241_6, c241_7, c241_8, c241_9, c241_10, c241_11, c241_12, c241_13, c241_14, c241_15, c241_16⟩ := hQ241
    have ne_b229_ca241 : b229 ≠ ca241 := Nat.ne_of_lt (Nat.lt_of_lt_of_le f239.lt c241_0)
    have ne_b238_ca241 : b238 ≠ ca241 := Nat.ne_of_lt (Nat.lt_of_lt_of_le A238.lt c241_0)
    have g_ca241 : n0 ≤ ca241 := Nat.le_trans Zs238 c241_0
    have ne_b229_ck241 : b229 ≠ ck241 := Nat.ne_of_lt (Nat.lt_of_lt_of_le f239.lt c241_1)
    have ne_b238_ck241 : b238 ≠ ck241 := Nat.ne_of_lt (Nat.lt_of_lt_of_le A238.lt c241_1)
    have g_ck241 : n0 ≤ ck241 := Nat.le_trans Zs238 c241_1
    have ne_b229_wa241 : b229 ≠ wa241 := Nat.ne_of_lt (Nat.lt_of_lt_of_le f239.lt c241_2)
    have ne_b238_wa241 : b238 ≠ wa241 := Nat.ne_of_lt (Nat.lt_of_lt_of_le A238.lt c241_2)
    have g_wa241 : n0 ≤ wa241 := Nat.le_trans Zs238 c241_2
    have f242 := f239.keep Kc241
    have f243 := f240.keep Kc241 (ninS ne_b229_b238 nin0)
    have f244 := A238.keep Kc241
    have Zs241 : n0 ≤ T241.heap.size := Nat.le_trans Zs238 Kc241.1
    have N241 := Fr.app N235 N241q
    refine go (fun _ k => st241.trans k) ?_
    show G (T241.setTop (mkF m 76 #[.val (.int p1), .val (.int p2), .val (.int p3), .val (.int p4), .val (.int (2 : Int32)), .val (.int (Int32.ofNat n)), .val (.ref b229), .unset, .unset, .unset, .unset, .unset, .unset, .unset, .unset] [(.ref b238)]))
    refine go (fun _ k => XS.astore X241.here hx rfl (hb hby at_76) rfl rfl (l' := #[.val (.int p1), .val (.int p2), .val (.int p3), .val (.int p4), .val (.int (2 : Int32)), .val (.int (Int32.ofNat n)), .val (.ref b229), .val (.ref b238), .unset, .unset, .unset, .unset, .unset, .unset, .unset]) rfl k) ?_
    show G (T241.setTop (mkF m 78 #[.val (.int p1), .val (.int p2), .val (.int p3), .val (.int p4), .val (.int (2 : Int32)), .val (.int (Int32.ofNat n)), .val (.ref b229), .val (.ref b238), .unset, .unset, .unset, .unset, .unset, .unset, .unset] []))
    refine go (fun _ k => XS.aload X241.here hx rfl (hb hby at_78) rfl rfl k) ?_
    show G (T241.setTop (mkF m 80 #[.val (.int p1), .val (.int p2), .val (.int p3), .val (.int p4), .val (.int (2 : Int32)), .val (.int (Int32.ofNat n)), .val (.ref b229), .val (.ref b238), .unset, .unset, .unset, .unset, .unset, .unset, .unset] [(.ref b238)]))
    obtain ⟨cq245, kq245, qa245, qb245, qc245⟩ := isOf hZ rfl f244
    obtain ⟨_, _, ⟨T245, L245, k245, n245⟩, -, X245, ⟨Lc245, hQ245, l245, y245, z245⟩, st245⟩ := X241.virtualBack hx (y := (⟨"com/example/kerros/kerros/store/SortedChunks", "isEmpty", "()Z"⟩ : MethodName)) (z := (⟨"com/example/kerros/kerros/store/SortedChunks", "isEmpty", "()Z"⟩ : MethodName)) hown (mvT hZ (hw _ (List.mem_of_getElem? (i := 54) rfl))) (mvT hZ (hw _ (List.mem_of_getElem? (i := 55) rfl))) (notFace_of_selects (args := #[]) (mvT hZ (hw _ (List.mem_of_getElem? (i := 57) rfl)))) (mvT hZ (hw _ (List.mem_of_getElem? (i := 57) rfl))) (mvT hZ (hw _ (List.mem_of_getElem? (i := 56) rfl))) (by decide) (backOf (W := 0) (rm9 l Z a0 hw [] b238 ca241 ck241 kc241 (Int32.ofNat n) T241.heap n0 Zs241 c241_8 c241_9 c241_12) hZ (hw _ (List.mem_of_getElem? (i := 58) rfl)) (hw _ (List.mem_of_getElem? (i := 6) rfl)) (by decide) (by decide)) qa245 qc245 (g := (mkF m 80 #[.val (.int p1), .val (.int p2), .val (.int p3), .val (.int p4), .val (.int (2 : Int32)), .val (.int (Int32.ofNat n)), .val (.ref b229), .val (.ref b238), .unset, .unset, .unset, .unset, .unset, .unset, .unset] [(.ref b238)])) rfl (by rw [hml]; rfl) (Steps.refl _) (argsL := []) (rest := []) (lenOf pd_0_1 rfl) rfl (by show 2 * 0 + _ ≤ _; exact Nat.le_of_eq rfl) (hb hby at_80) (fun _ _ => ⟨rfl, rfl, (by decide : 5 + 0 ≤ _), (by decide : 24 + 0 ≤ _)⟩)
    dsimp only [Pt.U, Pt.locs, Pt.cells, Pt.slots] at X245 l245 y245 z245 st245 hQ245
    subst l245 y245 z245
    obtain ⟨rfl, N245q, e245⟩ := hQ245
    have N245 := Fr.app N241 N245q
    refine go (fun _ k => st245.trans k) ?_
    show G (T245.setTop (mkF m 83 #[.val (.int p1), .val (.int p2), .val (.int p3), .val (.int p4), .val (.int (2 : Int32)), .val (.int (Int32.ofNat n)), .val (.ref b229), .val (.ref b238), .unset, .unset, .unset, .unset, .unset, .unset, .unset] [(.int (emp (Int32.ofNat n)))]))
    have J101_246 : G (T245.setTop (mkF m 101 #[.val (.int p1), .val (.int p2), .val (.int p3), .val (.int p4), .val (.int (2 : Int32)), .val (.int (Int32.ofNat n)), .val (.ref b229), .val (.ref b238), .unset, .unset, .unset, .unset, .unset, .unset, .unset] [(.int (1 : Int32))])) := by
      refine go (fun _ k => XS.istore X245.here hx rfl (hb hby at_101) rfl (l' := #[.val (.int p1), .val (.int p2), .val (.int p3), .val (.int p4), .val (.int (2 : Int32)), .val (.int (Int32.ofNat n)), .val (.ref b229), .val (.ref b238), .val (.int (1 : Int32)), .unset, .unset, .unset, .unset, .unset, .unset]) rfl k) ?_
      show G (T245.setTop (mkF m 103 #[.val (.int p1), .val (.int p2), .val (.int p3), .val (.int p4), .val (.int (2 : Int32)), .val (.int (Int32.ofNat n)), .val (.ref b229), .val (.ref b238), .val (.int (1 : Int32)), .unset, .unset, .unset, .unset, .unset, .unset] []))
      refine go (fun _ k => XS.iload X245.here hx rfl (hb hby at_103) rfl k) ?_
      show G (T245.setTop (mkF m 105 #[.val (.int p1), .val (.int p2), .val (.int p3), .val (.int p4), .val (.int (2 : Int32)), .val (.int (Int32.ofNat n)), .val (.ref b229), .val (.ref b238), .val (.int (1 : Int32)), .unset, .unset, .unset, .unset, .unset, .unset] [(.int (Int32.ofNat n))]))
      refine go (fun _ k => XS.istore X245.here hx rfl (hb hby at_105) rfl (l' := #[.val (.int p1), .val (.int p2), .val (.int p3), .val (.int p4), .val (.int (2 : Int32)), .val (.int (Int32.ofNat n)), .val (.ref b229), .val (.ref b238), .val (.int (1 : Int32)), .val (.int (Int32.ofNat n)), .unset, .unset, .unset, .unset, .unset]) rfl k) ?_
      show G (T245.setTop (mkF m 107 #[.val (.int p1), .val (.int p2), .val (.int p3), .val (.int p4), .val (.int (2 : Int32)), .val (.int (Int32.ofNat n)), .val (.ref b229), .val (.ref b238), .val (.int (1 : Int32)), .val (.int (Int32.ofNat n)), .unset, .unset, .unset, .unset, .unset] []))
      have J168_247 : G (T245.setTop (mkF m 168 #[.val (.int p1), .val (.int p2), .val (.int p3), .val (.int p4), .val (.int (2 : Int32)), .val (.int (Int32.ofNat n)), .val (.ref b229), .val (.ref b238), .val (.int (1 : Int32)), .val (.int (Int32.ofNat n)), .unset, .unset, .unset, .unset, .unset] [])) := by
        refine go (fun _ k => XS.iloadN X245.here hx rfl (hb hby at_168) rfl k) ?_
        show G (T245.setTop (mkF m 169 #[.val (.int p1), .val (.int p2), .val (.int p3), .val (.int p4), .val (.int (2 : Int32)), .val (.int (Int32.ofNat n)), .val (.ref b229), .val (.ref b238), .val (.int (1 : Int32)), .val (.int (Int32.ofNat n)), .unset, .unset, .unset, .unset, .unset] [(.int p3)]))
        refine go (fun _ k => XS.iconst X245.here hx rfl (hb hby at_169) k) ?_
        show G (T245.setTop (mkF m 170 #[.val (.int p1), .val (.int p2), .val (.int p3), .val (.int p4), .val (.int (2 : Int32)), .val (.int (Int32.ofNat n)), .val (.ref b229), .val (.ref b238), .val (.int (1 : Int32)), .val (.int (Int32.ofNat n)), .unset, .unset, .unset, .unset, .unset] [(.int (2 : Int32)), (.int p3)]))
        refine go (fun _ k => XS.iand X245.here hx rfl (hb hby at_170) rfl k) ?_
        show G (T245.setTop (mkF m 171 #[.val (.int p1), .val (.int p2), .val (.int p3), .val (.int p4), .val (.int (2 : Int32)), .val (.int (Int32.ofNat n)), .val (.ref b229), .val (.ref b238), .val (.int (1 : Int32)), .val (.int (Int32.ofNat n)), .unset, .unset, .unset, .unset, .unset] [(.int (p3 &&& (2 : Int32)))]))
        by_cases hc171_248 : (p3 &&& (2 : Int32)) = (0 : Int32)
        · refine go (fun _ k => XS.ifYes X245.here hx rfl (pc0 := 171) (pc' := 302) rfl (hb hby at_171) rfl ((if0 _ _).trans (teq hc171_248).1) (by decide) (by decide) k) ?_
          show G (T245.setTop (mkF m 302 #[.val (.int p1), .val (.int p2), .val (.int p3), .val (.int p4), .val (.int (2 : Int32)), .val (.int (Int32.ofNat n)), .val (.ref b229), .val (.ref b238), .val (.int (1 : Int32)), .val (.int (Int32.ofNat n)), .unset, .unset, .unset, .unset, .unset] []))
          refine go (fun _ k => XS.iload X245.here hx rfl (hb hby at_302) rfl k) ?_
          show G (T245.setTop (mkF m 304 #[.val (.int p1), .val (.int p2), .val (.int p3), .val (.int p4), .val (.int (2 : Int32)), .val (.int (Int32.ofNat n)), .val (.ref b229), .val (.ref b238), .val (.int (1 : Int32)), .val (.int (Int32.ofNat n)), .unset, .unset, .unset, .unset, .unset] [(.int (1 : Int32))]))
          rw [hG]
          refine own_fin X245 Bd.notSynchronized (v := some (.int (1 : Int32))) (fun h => by rw [Bd.returns] at h; cases h) (fun fs hr => retOut X245 hx Bd.returns rfl (by simp [FieldType.isReference, Value.isRef]) (hb hby at_304) hr) ?_ (by decide) (by decide)
          show Q0 Z p1 p2 p3 p4 h0 n0 (some (.int (1 : Int32))) T245.heap _
          rw [e245]
          exact ⟨rfl, N245⟩
        · refine go (fun _ k => XS.ifNo X245.here hx rfl (hb hby at_171) rfl ((if0 _ _).trans (feq hc171_248).1) k) ?_
          show G (T245.setTop (mkF m 174 #[.val (.int p1), .val (.int p2), .val (.int p3), .val (.int p4), .val (.int (2 : Int32)), .val (.int (Int32.ofNat n)), .val (.ref b229), .val (.ref b238), .val (.int (1 : Int32)), .val (.int (Int32.ofNat n)), .unset, .unset, .unset, .unset, .unset] []))
          refine go (fun _ k => XS.iloadN X245.here hx rfl (hb hby at_174) rfl k) ?_
          show G (T245.setTop (mkF m 175 #[.val (.int p1), .val (.int p2), .val (.int p3), .val (.int p4), .val (.int (2 : Int32)), .val (.int (Int32.ofNat n)), .val (.ref b229), .val (.ref b238), .val (.int (1 : Int32)), .val (.int (Int32.ofNat n)), .unset, .unset, .unset, .unset, .unset] [(.int p3)]))
          refine go (fun _ k => XS.iconst X245.here hx rfl (hb hby at_175) k) ?_
          show G (T245.setTop (mkF m 176 #[.val (.int p1), .val (.int p2), .val (.int p3), .val (.int p4), .val (.int (2 : Int32)), .val (.int (Int32.ofNat n)), .val (.ref b229), .val (.ref b238), .val (.int (1 : Int32)), .val (.int (Int32.ofNat n)), .unset, .unset, .unset, .unset, .unset] [(.int (4 : Int32)), (.int p3)]))
          refine go (fun _ k => XS.iand X245.here hx rfl (hb hby at_176) rfl k) ?_
          show G (T245.setTop (mkF m 177 #[.val (.int p1), .val (.int p2), .val (.int p3), .val (.int p4), .val (.int (2 : Int32)), .val (.int (Int32.ofNat n)), .val (.ref b229), .val (.ref b238), .val (.int (1 : Int32)), .val (.int (Int32.ofNat n)), .unset, .unset, .unset, .unset, .unset] [(.int (p3 &&& (4 : Int32)))]))
          by_cases hc177_249 : (p3 &&& (4 : Int32)) = (0 : Int32)
          · refine go (fun _ k => XS.ifYes X245.here hx rfl (pc0 := 177) (pc' := 184) rfl (hb hby at_177) rfl ((if0 _ _).trans (teq hc177_249).1) (by decide) (by decide) k) ?_
            show G (T245.setTop (mkF m 184 #[.val (.int p1), .val (.int p2), .val (.int p3), .val (.int p4), .val (.int (2 : Int32)), .val (.int (Int32.ofNat n)), .val (.ref b229), .val (.ref b238), .val (.int (1 : Int32)), .val (.int (Int32.ofNat n)), .unset, .unset, .unset, .unset, .unset] []))
            refine go (fun _ k => XS.iconst X245.here hx rfl (hb hby at_184) k) ?_
            show G (T245.setTop (mkF m 185 #[.val (.int p1), .val (.int p2), .val (.int p3), .val (.int p4), .val (.int (2 : Int32)), .val (.int (Int32.ofNat n)), .val (.ref b229), .val (.ref b238), .val (.int (1 : Int32)), .val (.int (Int32.ofNat n)), .unset, .unset, .unset, .unset, .unset] [(.int (0 : Int32))]))
            refine go (fun _ k => XS.istore X245.here hx rfl (hb hby at_185) rfl (l' := #[.val (.int p1), .val (.int p2), .val (.int p3), .val (.int p4), .val (.int (2 : Int32)), .val (.int (Int32.ofNat n)), .val (.ref b229), .val (.ref b238), .val (.int (1 : Int32)), .val (.int (Int32.ofNat n)), .val (.int (0 : Int32)), .unset, .unset, .unset, .unset]) rfl k) ?_
            show G (T245.setTop (mkF m 187 #[.val (.int p1), .val (.int p2), .val (.int p3), .val (.int p4), .val (.int (2 : Int32)), .val (.int (Int32.ofNat n)), .val (.ref b229), .val (.ref b238), .val (.int (1 : Int32)), .val (.int (Int32.ofNat n)), .val (.int (0 : Int32)), .unset, .unset, .unset, .unset] []))
            refine go (fun _ k => XS.iload X245.here hx rfl (hb hby at_187) rfl k) ?_
            show G (T245.setTop (mkF m 189 #[.val (.int p1), .val (.int p2), .val (.int p3), .val (.int p4), .val (.int (2 : Int32)), .val (.int (Int32.ofNat n)), .val (.ref b229), .val (.ref b238), .val (.int (1 : Int32)), .val (.int (Int32.ofNat n)), .val (.int (0 : Int32)), .unset, .unset, .unset, .unset] [(.int (0 : Int32))]))
            have hc250 : (0 : Int32) = (0 : Int32) := rfl
            refine go (fun _ k => XS.ifYes X245.here hx rfl (pc0 := 189) (pc' := 198) rfl (hb hby at_189) rfl ((if0 _ _).trans (teq hc250).1) (by decide) (by decide) k) ?_
            show G (T245.setTop (mkF m 198 #[.val (.int p1), .val (.int p2), .val (.int p3), .val (.int p4), .val (.int (2 : Int32)), .val (.int (Int32.ofNat n)), .val (.ref b229), .val (.ref b238), .val (.int (1 : Int32)), .val (.int (Int32.ofNat n)), .val (.int (0 : Int32)), .unset, .unset, .unset, .unset] []))
            refine go (fun _ k => XS.lconst X245.here hx rfl (hb hby at_198) k) ?_
            show G (T245.setTop (mkF m 199 #[.val (.int p1), .val (.int p2), .val (.int p3), .val (.int p4), .val (.int (2 : Int32)), .val (.int (Int32.ofNat n)), .val (.ref b229), .val (.ref b238), .val (.int (1 : Int32)), .val (.int (Int32.ofNat n)), .val (.int (0 : Int32)), .unset, .unset, .unset, .unset] [(.long (0 : Int64))]))
            refine go (fun _ k => XS.lstore X245.here hx rfl (hb hby at_199) rfl (l' := #[.val (.int p1), .val (.int p2), .val (.int p3), .val (.int p4), .val (.int (2 : Int32)), .val (.int (Int32.ofNat n)), .val (.ref b229), .val (.ref b238), .val (.int (1 : Int32)), .val (.int (Int32.ofNat n)), .val (.int (0 : Int32)), .val (.long (0 : Int64)), .second, .unset, .unset]) rfl k) ?_
            show G (T245.setTop (mkF m 201 #[.val (.int p1), .val (.int p2), .val (.int p3), .val (.int p4), .val (.int (2 : Int32)), .val (.int (Int32.ofNat n)), .val (.ref b229), .val (.ref b238), .val (.int (1 : Int32)), .val (.int (Int32.ofNat n)), .val (.int (0 : Int32)), .val (.long (0 : Int64)), .second, .unset, .unset] []))
            refine go (fun _ k => XS.aload X245.here hx rfl (hb hby at_201) rfl rfl k) ?_
            show G (T245.setTop (mkF m 203 #[.val (.int p1), .val (.int p2), .val (.int p3), .val (.int p4), .val (.int (2 : Int32)), .val (.int (Int32.ofNat n)), .val (.ref b229), .val (.ref b238), .val (.int (1 : Int32)), .val (.int (Int32.ofNat n)), .val (.int (0 : Int32)), .val (.long (0 : Int64)), .second, .unset, .unset] [(.ref b238)]))
            refine go (fun _ k => XS.lload X245.here hx rfl (hb hby at_203) rfl k) ?_
            show G (T245.setTop (mkF m 205 #[.val (.int p1), .val (.int p2), .val (.int p3), .val (.int p4), .val (.int (2 : Int32)), .val (.int (Int32.ofNat n)), .val (.ref b229), .val (.ref b238), .val (.int (1 : Int32)), .val (.int (Int32.ofNat n)), .val (.int (0 : Int32)), .val (.long (0 : Int64)), .second, .unset, .unset] [(.long (0 : Int64)), (.ref b238)]))
            obtain ⟨cq251, kq251, qa251, qb251, qc251⟩ := isOf hZ e245 f244
            obtain ⟨_, _, ⟨T251, L251, k251, n251⟩, -, X251, ⟨Lc251, hQ251, l251, y251, z251⟩, st251⟩ := X245.virtualBack hx (y := (⟨"com/example/kerros/kerros/store/SortedChunks", "insert", "(J)J"⟩ : MethodName)) (z := (⟨"com/example/kerros/kerros/store/SortedChunks", "insert", "(J)J"⟩ : MethodName)) hown (mvT hZ (hw _ (List.mem_of_getElem? (i := 60) rfl))) (mvT hZ (hw _ (List.mem_of_getElem? (i := 61) rfl))) (notFace_of_selects (args := #[]) (mvT hZ (hw _ (List.mem_of_getElem? (i := 63) rfl)))) (mvT hZ (hw _ (List.mem_of_getElem? (i := 63) rfl))) (mvT hZ (hw _ (List.mem_of_getElem? (i := 62) rfl))) (by decide) (backOf (W := 0) (rm10w2 l Z a0 hw [] b238 0 ca241 ck241 wa241 kc241 kw241 n cb241 T241.heap n0 Zs241 c241_6 c241_7 c241_8 c241_9 c241_10 c241_11 c241_12 c241_13 c241_14 ne_b238_ck241 ne_b238_wa241 c241_3 c241_4 c241_5 g_ck241 g_wa241 (by omega) (by omega) (by omega) (by omega)) hZ (hw _ (List.mem_of_getElem? (i := 64) rfl)) (hw _ (List.mem_of_getElem? (i := 6) rfl)) (by decide) (by decide)) qa251 qc251 (g := (mkF m 205 #[.val (.int p1), .val (.int p2), .val (.int p3), .val (.int p4), .val (.int (2 : Int32)), .val (.int (Int32.ofNat n)), .val (.ref b229), .val (.ref b238), .val (.int (1 : Int32)), .val (.int (Int32.ofNat n)), .val (.int (0 : Int32)), .val (.long (0 : Int64)), .second, .unset, .unset] [(.long (0 : Int64)), (.ref b238)])) rfl (by rw [hml]; rfl) (Steps.refl _) (argsL := [(.long (0 : Int64))]) (rest := []) (lenOf pd_0_2 rfl) rfl (by show 2 * 0 + _ ≤ _; exact Nat.le_of_eq rfl) (hb hby at_205) (fun _ _ => ⟨rfl, e245, (by decide : 5 + 1 ≤ _), (by decide : 24 + 12 ≤ _)⟩)
            dsimp only [Pt.U, Pt.locs, Pt.cells, Pt.slots] at X251 l251 y251 z251 st251 hQ251
            subst l251 y251 z251
            obtain ⟨wx251, kx251, dx251, rfl, N251q, Kc251, c251_0, c251_1, c251_2, c251_3, c251_4, c251_5, c251_6⟩ := hQ251
            have ne_b229_wx251 : b229 ≠ wx251 := c251_0.elim (fun q => by rw [q]; exact ne_b229_wa241) (fun q => Nat.ne_of_lt (Nat.lt_of_lt_of_le f242.lt q))
            have ne_b238_wx251 : b238 ≠ wx251 := c251_0.elim (fun q => by rw [q]; exact ne_b238_wa241) (fun q => Nat.ne_of_lt (Nat.lt_of_lt_of_le f244.lt q))
            have ne_ca241_wx251 : ca241 ≠ wx251 := c251_0.elim (fun q => by rw [q]; exact c241_4) (fun q => Nat.ne_of_lt (Nat.lt_of_lt_of_le c241_9.lt q))
            have ne_ck241_wx251 : ck241 ≠ wx251 := c251_0.elim (fun q => by rw [q]; exact c241_5) (fun q => Nat.ne_of_lt (Nat.lt_of_lt_of_le c241_10.lt q))
            have g_wx251 : n0 ≤ wx251 := c251_0.elim (fun q => by rw [q]; exact g_wa241) (fun q => Nat.le_trans Zs241 q)
            have f252 := f242.keep Kc251
            have f253 := f243.keep Kc251 (ninS ne_b229_ck241 (ninS ne_b229_wa241 nin0))
            have f254 := f244.keep Kc251
            have f255 := c241_6.keep Kc251 (ninS ne_b238_ck241 (ninS ne_b238_wa241 nin0))
            have f256 := c241_7.keep Kc251 (ninS ne_b238_ck241 (ninS ne_b238_wa241 nin0))
            have f257 := c241_8.keep Kc251 (ninS ne_b238_ck241 (ninS ne_b238_wa241 nin0))
            have f258 := c241_9.keep Kc251 (ninS c241_3 (ninS c241_4 nin0))
            have f259 := c241_10.keep Kc251
            have f260 := c241_14.keep Kc251
            have Zs251 : n0 ≤ T251.heap.size := Nat.le_trans Zs241 Kc251.1
            have N251 := Fr.app N245 N251q
            refine go (fun _ k => st251.trans k) ?_
            show G (T251.setTop (mkF m 208 #[.val (.int p1), .val (.int p2), .val (.int p3), .val (.int p4), .val (.int (2 : Int32)), .val (.int (Int32.ofNat n)), .val (.ref b229), .val (.ref b238), .val (.int (1 : Int32)), .val (.int (Int32.ofNat n)), .val (.int (0 : Int32)), .val (.long (0 : Int64)), .second, .unset, .unset] [(.long (Int64.ofNat 0))]))
            refine go (fun _ k => XS.lstore X251.here hx rfl (hb hby at_208) rfl (l' := #[.val (.int p1), .val (.int p2), .val (.int p3), .val (.int p4), .val (.int (2 : Int32)), .val (.int (Int32.ofNat n)), .val (.ref b229), .val (.ref b238), .val (.int (1 : Int32)), .val (.int (Int32.ofNat n)), .val (.int (0 : Int32)), .val (.long (0 : Int64)), .second, .val (.long (Int64.ofNat 0)), .second]) rfl k) ?_
            show G (T251.setTop (mkF m 210 #[.val (.int p1), .val (.int p2), .val (.int p3), .val (.int p4), .val (.int (2 : Int32)), .val (.int (Int32.ofNat n)), .val (.ref b229), .val (.ref b238), .val (.int (1 : Int32)), .val (.int (Int32.ofNat n)), .val (.int (0 : Int32)), .val (.long (0 : Int64)), .second, .val (.long (Int64.ofNat 0)), .second] []))
            refine go (fun _ k => XS.aload X251.here hx rfl (hb hby at_210) rfl rfl k) ?_
            show G (T251.setTop (mkF m 212 #[.val (.int p1), .val (.int p2), .val (.int p3), .val (.int p4), .val (.int (2 : Int32)), .val (.int (Int32.ofNat n)), .val (.ref b229), .val (.ref b238), .val (.int (1 : Int32)), .val (.int (Int32.ofNat n)), .val (.int (0 : Int32)), .val (.long (0 : Int64)), .second, .val (.long (Int64.ofNat 0)), .second] [(.ref b238)]))
            refine go (fun _ k => XS.lload X251.here hx rfl (hb hby at_212) rfl k) ?_
            show G (T251.setTop (mkF m 214 #[.val (.int p1), .val (.int p2), .val (.int p3), .val (.int p4), .val (.int (2 : Int32)), .val (.int (Int32.ofNat n)), .val (.ref b229), .val (.ref b238), .val (.int (1 : Int32)), .val (.int (Int32.ofNat n)), .val (.int (0 : Int32)), .val (.long (0 : Int64)), .second, .val (.long (Int64.ofNat 0)), .second] [(.long (Int64.ofNat 0)), (.ref b238)]))
            refine go (fun _ k => XS.iconst X251.here hx rfl (hb hby at_214) k) ?_
            show G (T251.setTop (mkF m 215 #[.val (.int p1), .val (.int p2), .val (.int p3), .val (.int p4), .val (.int (2 : Int32)), .val (.int (Int32.ofNat n)), .val (.ref b229), .val (.ref b238), .val (.int (1 : Int32)), .val (.int (Int32.ofNat n)), .val (.int (0 : Int32)), .val (.long (0 : Int64)), .second, .val (.long (Int64.ofNat 0)), .second] [(.int (0 : Int32)), (.long (Int64.ofNat 0)), (.ref b238)]))
            refine go (fun _ k => XS.iload X251.here hx rfl (hb hby at_215) rfl k) ?_
            show G (T251.setTop (mkF m 217 #[.val (.int p1), .val (.int p2), .val (.int p3), .val (.int p4), .val (.int (2 : Int32)), .val (.int (Int32.ofNat n)), .val (.ref b229), .val (.ref b238), .val (.int (1 : Int32)), .val (.int (Int32.ofNat n)), .val (.int (0 : Int32)), .val (.long (0 : Int64)), .second, .val (.long (Int64.ofNat 0)), .second] [(.int (0 : Int32)), (.int (0 : Int32)), (.long (Int64.ofNat 0)), (.ref b238)]))
            have hc261 : (0 : Int32) = (0 : Int32) := rfl
            refine go (fun _ k => XS.ifYes X251.here hx rfl (pc0 := 217) (pc' := 226) rfl (hb hby at_217) rfl ((if0 _ _).trans (teq hc261).1) (by decide) (by decide) k) ?_
            show G (T251.setTop (mkF m 226 #[.val (.int p1), .val (.int p2), .val (.int p3), .val (.int p4), .val (.int (2 : Int32)), .val (.int (Int32.ofNat n)), .val (.ref b229), .val (.ref b238), .val (.int (1 : Int32)), .val (.int (Int32.ofNat n)), .val (.int (0 : Int32)), .val (.long (0 : Int64)), .second, .val (.long (Int64.ofNat 0)), .second] [(.int (0 : Int32)), (.long (Int64.ofNat 0)), (.ref b238)]))
            refine go (X251.ldc2Long hx hown (mvT hZ (hw _ (List.mem_of_getElem? (i := 85) rfl))) (g := (mkF m 226 #[.val (.int p1), .val (.int p2), .val (.int p3), .val (.int p4), .val (.int (2 : Int32)), .val (.int (Int32.ofNat n)), .val (.ref b229), .val (.ref b238), .val (.int (1 : Int32)), .val (.int (Int32.ofNat n)), .val (.int (0 : Int32)), .val (.long (0 : Int64)), .second, .val (.long (Int64.ofNat 0)), .second] [(.int (0 : Int32)), (.long (Int64.ofNat 0)), (.ref b238)])) rfl (hb hby at_226)) ?_
            show G (T251.setTop (mkF m 229 #[.val (.int p1), .val (.int p2), .val (.int p3), .val (.int p4), .val (.int (2 : Int32)), .val (.int (Int32.ofNat n)), .val (.ref b229), .val (.ref b238), .val (.int (1 : Int32)), .val (.int (Int32.ofNat n)), .val (.int (0 : Int32)), .val (.long (0 : Int64)), .second, .val (.long (Int64.ofNat 0)), .second] [(.long (-1 : Int64)), (.int (0 : Int32)), (.long (Int64.ofNat 0)), (.ref b238)]))
            obtain ⟨cq262, kq262, qa262, qb262, qc262⟩ := isOf hZ rfl f254
            obtain ⟨_, _, ⟨T262, L262, k262, n262⟩, -, X262, ⟨Lc262, hQ262, l262, y262, z262⟩, st262⟩ := X251.virtualBack hx (y := (⟨"com/example/kerros/kerros/store/SortedChunks", "setWord", "(JIJ)V"⟩ : MethodName)) (z := (⟨"com/example/kerros/kerros/store/SortedChunks", "setWord", "(JIJ)V"⟩ : MethodName)) hown (mvT hZ (hw _ (List.mem_of_getElem? (i := 86) rfl))) (mvT hZ (hw _ (List.mem_of_getElem? (i := 87) rfl))) (notFace_of_selects (args := #[]) (mvT hZ (hw _ (List.mem_of_getElem? (i := 89) rfl)))) (mvT hZ (hw _ (List.mem_of_getElem? (i := 89) rfl))) (mvT hZ (hw _ (List.mem_of_getElem? (i := 88) rfl))) (by decide) (backOf (W := 0) (rm16w2 l Z a0 hw [] b238 (-1 : Int64) 0 ca241 ck241 wx251 kc241 kx251 (n + 1) dx251 T251.heap n0 Zs251 f255 f256 f257 f258 f259 c251_1 c251_2 c251_3 c251_4 ne_b238_ck241 ne_b238_wx251 c241_3 ne_ca241_wx251 ne_ck241_wx251 g_ck241 g_wx251 (by omega) (by omega) (by omega)) hZ (hw _ (List.mem_of_getElem? (i := 90) rfl)) (hw _ (List.mem_of_getElem? (i := 6) rfl)) (by decide) (by decide)) qa262 qc262 (g := (mkF m 229 #[.val (.int p1), .val (.int p2), .val (.int p3), .val (.int p4), .val (.int (2 : Int32)), .val (.int (Int32.ofNat n)), .val (.ref b229), .val (.ref b238), .val (.int (1 : Int32)), .val (.int (Int32.ofNat n)), .val (.int (0 : Int32)), .val (.long (0 : Int64)), .second, .val (.long (Int64.ofNat 0)), .second] [(.long (-1 : Int64)), (.int (0 : Int32)), (.long (Int64.ofNat 0)), (.ref b238)])) rfl (by rw [hml]; rfl) (Steps.refl _) (argsL := [(.long (Int64.ofNat 0)), (.int (0 : Int32)), (.long (-1 : Int64))]) (rest := []) (lenOf pd_0_3 rfl) rfl (by show 2 * 0 + _ ≤ _; exact Nat.le_of_eq rfl) (hb hby at_229) (fun _ _ => ⟨rfl, rfl, (by decide : 6 + 0 ≤ _), (by decide : 36 + 0 ≤ _)⟩)
            dsimp only [Pt.U, Pt.locs, Pt.cells, Pt.slots] at X262 l262 y262 z262 st262 hQ262
            subst l262 y262 z262
            obtain ⟨rfl, N262q, Kc262, c262_0⟩ := hQ262
            have f263 := f252.keep Kc262
            have f264 := f253.keep Kc262 (ninS ne_b229_wx251 nin0)
            have f265 := f254.keep Kc262
            have f266 := f255.keep Kc262 (ninS ne_b238_wx251 nin0)
            have f267 := f256.keep Kc262 (ninS ne_b238_wx251 nin0)
            have f268 := f257.keep Kc262 (ninS ne_b238_wx251 nin0)
            have f269 := f258.keep Kc262 (ninS ne_ca241_wx251 nin0)
            have f270 := f259.keep Kc262
            have f271 := f260.keep Kc262
            have f272 := c251_1.keep Kc262 (ninS ne_ck241_wx251 nin0)
            have f273 := c251_2.keep Kc262 (ninS ne_ck241_wx251 nin0)
            have f274 := c251_4.keep Kc262
            have Zs262 : n0 ≤ T262.heap.size := Nat.le_trans Zs251 Kc262.1
            have N262 := Fr.app N251 N262q
            refine go (fun _ k => st262.trans k) ?_
            show G (T262.setTop (mkF m 232 #[.val (.int p1), .val (.int p2), .val (.int p3), .val (.int p4), .val (.int (2 : Int32)), .val (.int (Int32.ofNat n)), .val (.ref b229), .val (.ref b238), .val (.int (1 : Int32)), .val (.int (Int32.ofNat n)), .val (.int (0 : Int32)), .val (.long (0 : Int64)), .second, .val (.long (Int64.ofNat 0)), .second] []))
            refine go (fun _ k => XS.iinc X262.here hx rfl (hb hby at_232) rfl (l' := #[.val (.int p1), .val (.int p2), .val (.int p3), .val (.int p4), .val (.int (2 : Int32)), .val (.int (Int32.ofNat n)), .val (.ref b229), .val (.ref b238), .val (.int (1 : Int32)), .val (.int ((Int32.ofNat n) + (1 : Int32))), .val (.int (0 : Int32)), .val (.long (0 : Int64)), .second, .val (.long (Int64.ofNat 0)), .second]) rfl k) ?_
            show G (T262.setTop (mkF m 235 #[.val (.int p1), .val (.int p2), .val (.int p3), .val (.int p4), .val (.int (2 : Int32)), .val (.int (Int32.ofNat n)), .val (.ref b229), .val (.ref b238), .val (.int (1 : Int32)), .val (.int ((Int32.ofNat n) + (1 : Int32))), .val (.int (0 : Int32)), .val (.long (0 : Int64)), .second, .val (.long (Int64.ofNat 0)), .second] []))
            rw [show ((Int32.ofNat n) + (1 : Int32)) = (Int32.ofNat (n + 1)) from own_onadd n 1]
            show G (T262.setTop (mkF m 235 #[.val (.int p1), .val (.int p2), .val (.int p3), .val (.int p4), .val (.int (2 : Int32)), .val (.int (Int32.ofNat n)), .val (.ref b229), .val (.ref b238), .val (.int (1 : Int32)), .val (.int (Int32.ofNat (n + 1))), .val (.int (0 : Int32)), .val (.long (0 : Int64)), .second, .val (.long (Int64.ofNat 0)), .second] []))
            refine go (fun _ k => XS.iload X262.here hx rfl (hb hby at_235) rfl k) ?_
            show G (T262.setTop (mkF m 237 #[.val (.int p1), .val (.int p2), .val (.int p3), .val (.int p4), .val (.int (2 : Int32)), .val (.int (Int32.ofNat n)), .val (.ref b229), .val (.ref b238), .val (.int (1 : Int32)), .val (.int (Int32.ofNat (n + 1))), .val (.int (0 : Int32)), .val (.long (0 : Int64)), .second, .val (.long (Int64.ofNat 0)), .second] [(.int (1 : Int32))]))
            have hc275 : ¬ ((1 : Int32) = (0 : Int32)) := (by decide)
            refine go (fun _ k => XS.ifNo X262.here hx rfl (hb hby at_237) rfl ((if0 _ _).trans (feq hc275).1) k) ?_
            show G (T262.setTop (mkF m 240 #[.val (.int p1), .val (.int p2), .val (.int p3), .val (.int p4), .val (.int (2 : Int32)), .val (.int (Int32.ofNat n)), .val (.ref b229), .val (.ref b238), .val (.int (1 : Int32)), .val (.int (Int32.ofNat (n + 1))), .val (.int (0 : Int32)), .val (.long (0 : Int64)), .second, .val (.long (Int64.ofNat 0)), .second] []))
            refine go (fun _ k => XS.aload X262.here hx rfl (hb hby at_240) rfl rfl k) ?_
            show G (T262.setTop (mkF m 242 #[.val (.int p1), .val (.int p2), .val (.int p3), .val (.int p4), .val (.int (2 : Int32)), .val (.int (Int32.ofNat n)), .val (.ref b229), .val (.ref b238), .val (.int (1 : Int32)), .val (.int (Int32.ofNat (n + 1))), .val (.int (0 : Int32)), .val (.long (0 : Int64)), .second, .val (.long (Int64.ofNat 0)), .second] [(.ref b238)]))
            obtain ⟨cq276, kq276, qa276, qb276, qc276⟩ := isOf hZ rfl f265
            obtain ⟨_, _, ⟨T276, L276, k276, n276⟩, -, X276, ⟨Lc276, hQ276, l276, y276, z276⟩, st276⟩ := X262.virtualBack hx (y := (⟨"com/example/kerros/kerros/store/SortedChunks", "isEmpty", "()Z"⟩ : MethodName)) (z := (⟨"com/example/kerros/kerros/store/SortedChunks", "isEmpty", "()Z"⟩ : MethodName)) hown (mvT hZ (hw _ (List.mem_of_getElem? (i := 54) rfl))) (mvT hZ (hw _ (List.mem_of_getElem? (i := 55) rfl))) (notFace_of_selects (args := #[]) (mvT hZ (hw _ (List.mem_of_getElem? (i := 57) rfl)))) (mvT hZ (hw _ (List.mem_of_getElem? (i := 57) rfl))) (mvT hZ (hw _ (List.mem_of_getElem? (i := 56) rfl))) (by decide) (backOf (W := 0) (rm9 l Z a0 hw [] b238 ca241 ck241 kc241 (Int32.ofNat (n + 1)) T262.heap n0 Zs262 f268 f269 f273) hZ (hw _ (List.mem_of_getElem? (i := 58) rfl)) (hw _ (List.mem_of_getElem? (i := 6) rfl)) (by decide) (by decide)) qa276 qc276 (g := (mkF m 242 #[.val (.int p1), .val (.int p2), .val (.int p3), .val (.int p4), .val (.int (2 : Int32)), .val (.int (Int32.ofNat n)), .val (.ref b229), .val (.ref b238), .val (.int (1 : Int32)), .val (.int (Int32.ofNat (n + 1))), .val (.int (0 : Int32)), .val (.long (0 : Int64)), .second, .val (.long (Int64.ofNat 0)), .second] [(.ref b238)])) rfl (by rw [hml]; rfl) (Steps.refl _) (argsL := []) (rest := []) (lenOf pd_0_1 rfl) rfl (by show 2 * 0 + _ ≤ _; exact Nat.le_of_eq rfl) (hb hby at_242) (fun _ _ => ⟨rfl, rfl, (by decide : 6 + 0 ≤ _), (by decide : 36 + 0 ≤ _)⟩)
            dsimp only [Pt.U, Pt.locs, Pt.cells, Pt.slots] at X276 l276 y276 z276 st276 hQ276
            subst l276 y276 z276
            obtain ⟨rfl, N276q, e276⟩ := hQ276
            have N276 := Fr.app N262 N276q
            refine go (fun _ k => st276.trans k) ?_
            show G (T276.setTop (mkF m 245 #[.val (.int p1), .val (.int p2), .val (.int p3), .val (.int p4), .val (.int (2 : Int32)), .val (.int (Int32.ofNat n)), .val (.ref b229), .val (.ref b238), .val (.int (1 : Int32)), .val (.int (Int32.ofNat (n + 1))), .val (.int (0 : Int32)), .val (.long (0 : Int64)), .second, .val (.long (Int64.ofNat 0)), .second] [(.int (emp (Int32.ofNat (n + 1))))]))
            have hc277 : (emp (Int32.ofNat (n + 1))) = (0 : Int32) := by rw [emp, if_neg (own_onne _ (by omega) (by omega))]
            refine go (fun _ k => XS.ifNo X276.here hx rfl (hb hby at_245) rfl ((if0 _ _).trans (teq hc277).2) k) ?_
            show G (T276.setTop (mkF m 248 #[.val (.int p1), .val (.int p2), .val (.int p3), .val (.int p4), .val (.int (2 : Int32)), .val (.int (Int32.ofNat n)), .val (.ref b229), .val (.ref b238), .val (.int (1 : Int32)), .val (.int (Int32.ofNat (n + 1))), .val (.int (0 : Int32)), .val (.long (0 : Int64)), .second, .val (.long (Int64.ofNat 0)), .second] []))
            refine go (fun _ k => XS.iconst X276.here hx rfl (hb hby at_248) k) ?_
            show G (T276.setTop (mkF m 249 #[.val (.int p1), .val (.int p2), .val (.int p3), .val (.int p4), .val (.int (2 : Int32)), .val (.int (Int32.ofNat n)), .val (.ref b229), .val (.ref b238), .val (.int (1 : Int32)), .val (.int (Int32.ofNat (n + 1))), .val (.int (0 : Int32)), .val (.long (0 : Int64)), .second, .val (.long (Int64.ofNat 0)), .second] [(.int (1 : Int32))]))
            refine go (fun _ k => XS.goto X276.here hx rfl (pc0 := 249) (pc' := 253) rfl (hb hby at_249) (by decide) (by decide) k) ?_
            show G (T276.setTop (mkF m 253 #[.val (.int p1), .val (.int p2), .val (.int p3), .val (.int p4), .val (.int (2 : Int32)), .val (.int (Int32.ofNat n)), .val (.ref b229), .val (.ref b238), .val (.int (1 : Int32)), .val (.int (Int32.ofNat (n + 1))), .val (.int (0 : Int32)), .val (.long (0 : Int64)), .second, .val (.long (Int64.ofNat 0)), .second] [(.int (1 : Int32))]))
            refine go (fun _ k => XS.istore X276.here hx rfl (hb hby at_253) rfl (l' := #[.val (.int p1), .val (.int p2), .val (.int p3), .val (.int p4), .val (.int (2 : Int32)), .val (.int (Int32.ofNat n)), .val (.ref b229), .val (.ref b238), .val (.int (1 : Int32)), .val (.int (Int32.ofNat (n + 1))), .val (.int (0 : Int32)), .val (.long (0 : Int64)), .second, .val (.long (Int64.ofNat 0)), .second]) rfl k) ?_
            show G (T276.setTop (mkF m 255 #[.val (.int p1), .val (.int p2), .val (.int p3), .val (.int p4), .val (.int (2 : Int32)), .val (.int (Int32.ofNat n)), .val (.ref b229), .val (.ref b238), .val (.int (1 : Int32)), .val (.int (Int32.ofNat (n + 1))), .val (.int (0 : Int32)), .val (.long (0 : Int64)), .second, .val (.long (Int64.ofNat 0)), .second] []))
            refine go (fun _ k => XS.iloadN X276.here hx rfl (hb hby at_255) rfl k) ?_
            show G (T276.setTop (mkF m 256 #[.val (.int p1), .val (.int p2), .val (.int p3), .val (.int p4), .val (.int (2 : Int32)), .val (.int (Int32.ofNat n)), .val (.ref b229), .val (.ref b238), .val (.int (1 : Int32)), .val (.int (Int32.ofNat (n + 1))), .val (.int (0 : Int32)), .val (.long (0 : Int64)), .second, .val (.long (Int64.ofNat 0)), .second] [(.int p3)]))
            refine go (fun _ k => XS.bipush X276.here hx rfl (hb hby at_256) k) ?_
            show G (T276.setTop (mkF m 258 #[.val (.int p1), .val (.int p2), .val (.int p3), .val (.int p4), .val (.int (2 : Int32)), .val (.int (Int32.ofNat n)), .val (.ref b229), .val (.ref b238), .val (.int (1 : Int32)), .val (.int (Int32.ofNat (n + 1))), .val (.int (0 : Int32)), .val (.long (0 : Int64)), .second, .val (.long (Int64.ofNat 0)), .second] [(.int (8 : Int32)), (.int p3)]))
            refine go (fun _ k => XS.iand X276.here hx rfl (hb hby at_258) rfl k) ?_
            show G (T276.setTop (mkF m 259 #[.val (.int p1), .val (.int p2), .val (.int p3), .val (.int p4), .val (.int (2 : Int32)), .val (.int (Int32.ofNat n)), .val (.ref b229), .val (.ref b238), .val (.int (1 : Int32)), .val (.int (Int32.ofNat (n + 1))), .val (.int (0 : Int32)), .val (.long (0 : Int64)), .second, .val (.long (Int64.ofNat 0)), .second] [(.int (p3 &&& (8 : Int32)))]))
            by_cases hc259_278 : (p3 &&& (8 : Int32)) = (0 : Int32)
            · refine go (fun _ k => XS.ifYes X276.here hx rfl (pc0 := 259) (pc' := 302) rfl (hb hby at_259) rfl ((if0 _ _).trans (teq hc259_278).1) (by decide) (by decide) k) ?_
              show G (T276.setTop (mkF m 302 #[.val (.int p1), .val (.int p2), .val (.int p3), .val (.int p4), .val (.int (2 : Int32)), .val (.int (Int32.ofNat n)), .val (.ref b229), .val (.ref b238), .val (.int (1 : Int32)), .val (.int (Int32.ofNat (n + 1))), .val (.int (0 : Int32)), .val (.long (0 : Int64)), .second, .val (.long (Int64.ofNat 0)), .second] []))
              refine go (fun _ k => XS.iload X276.here hx rfl (hb hby at_302) rfl k) ?_
              show G (T276.setTop (mkF m 304 #[.val (.int p1), .val (.int p2), .val (.int p3), .val (.int p4), .val (.int (2 : Int32)), .val (.int (Int32.ofNat n)), .val (.ref b229), .val (.ref b238), .val (.int (1 : Int32)), .val (.int (Int32.ofNat (n + 1))), .val (.int (0 : Int32)), .val (.long (0 : Int64)), .second, .val (.long (Int64.ofNat 0)), .second] [(.int (1 : Int32))]))
              rw [hG]
              refine own_fin X276 Bd.notSynchronized (v := some (.int (1 : Int32))) (fun h => by rw [Bd.returns] at h; cases h) (fun fs hr => retOut X276 hx Bd.returns rfl (by simp [FieldType.isReference, Value.isRef]) (hb hby at_304) hr) ?_ (by decide) (by decide)
              show Q0 Z p1 p2 p3 p4 h0 n0 (some (.int (1 : Int32))) T276.heap _
              rw [e276]
              exact ⟨rfl, N276⟩
            · refine go (fun _ k => XS.ifNo X276.here hx rfl (hb hby at_259) rfl ((if0 _ _).trans (feq hc259_278).1) k) ?_
              show G (T276.setTop (mkF m 262 #[.val (.int p1), .val (.int p2), .val (.int p3), .val (.int p4), .val (.int (2 : Int32)), .val (.int (Int32.ofNat n)), .val (.ref b229), .val (.ref b238), .val (.int (1 : Int32)), .val (.int (Int32.ofNat (n + 1))), .val (.int (0 : Int32)), .val (.long (0 : Int64)), .second, .val (.long (Int64.ofNat 0)), .second] []))
              refine go (fun _ k => XS.aload X276.here hx rfl (hb hby at_262) rfl rfl k) ?_
              show G (T276.setTop (mkF m 264 #[.val (.int p1), .val (.int p2), .val (.int p3), .val (.int p4), .val (.int (2 : Int32)), .val (.int (Int32.ofNat n)), .val (.ref b229), .val (.ref b238), .val (.int (1 : Int32)), .val (.int (Int32.ofNat (n + 1))), .val (.int (0 : Int32)), .val (.long (0 : Int64)), .second, .val (.long (Int64.ofNat 0)), .second] [(.ref b238)]))
              refine go (fun _ k => XS.lload X276.here hx rfl (hb hby at_264) rfl k) ?_
              show G (T276.setTop (mkF m 266 #[.val (.int p1), .val (.int p2), .val (.int p3), .val (.int p4), .val (.int (2 : Int32)), .val (.int (Int32.ofNat n)), .val (.ref b229), .val (.ref b238), .val (.int (1 : Int32)), .val (.int (Int32.ofNat (n + 1))), .val (.int (0 : Int32)), .val (.long (0 : Int64)), .second, .val (.long (Int64.ofNat 0)), .second] [(.long (Int64.ofNat 0)), (.ref b238)]))
              obtain ⟨cq279, kq279, qa279, qb279, qc279⟩ := isOf hZ e276 f265
              obtain ⟨_, _, ⟨T279, L279, k279, n279⟩, -, X279, ⟨Lc279, hQ279, l279, y279, z279⟩, st279⟩ := X276.virtualBack hx (y := (⟨"com/example/kerros/kerros/store/SortedChunks", "remove", "(J)V"⟩ : MethodName)) (z := (⟨"com/example/kerros/kerros/store/SortedChunks", "remove", "(J)V"⟩ : MethodName)) hown (mvT hZ (hw _ (List.mem_of_getElem? (i := 101) rfl))) (mvT hZ (hw _ (List.mem_of_getElem? (i := 102) rfl))) (notFace_of_selects (args := #[]) (mvT hZ (hw _ (List.mem_of_getElem? (i := 104) rfl)))) (mvT hZ (hw _ (List.mem_of_getElem? (i := 104) rfl))) (mvT hZ (hw _ (List.mem_of_getElem? (i := 103) rfl))) (by decide) (backOf (W := 0) (rm17w2 l Z a0 hw [] b238 0 ca241 ck241 wx251 kc241 kx251 (n + 1) dx251 T262.heap n0 Zs262 f266 f267 f268 f269 f270 f272 f273 c262_0 f274 ne_b238_ck241 ne_b238_wx251 c241_3 ne_ca241_wx251 ne_ck241_wx251 g_ck241 g_wx251 (by omega) (by omega) (by omega)) hZ (hw _ (List.mem_of_getElem? (i := 105) rfl)) (hw _ (List.mem_of_getElem? (i := 6) rfl)) (by decide) (by decide)) qa279 qc279 (g := (mkF m 266 #[.val (.int p1), .val (.int p2), .val (.int p3), .val (.int p4), .val (.int (2 : Int32)), .val (.int (Int32.ofNat n)), .val (.ref b229), .val (.ref b238), .val (.int (1 : Int32)), .val (.int (Int32.ofNat (n + 1))), .val (.int (0 : Int32)), .val (.long (0 : Int64)), .second, .val (.long (Int64.ofNat 0)), .second] [(.long (Int64.ofNat 0)), (.ref b238)])) rfl (by rw [hml]; rfl) (Steps.refl _) (argsL := [(.long (Int64.ofNat 0))]) (rest := []) (lenOf pd_0_4 rfl) rfl (by show 2 * 0 + _ ≤ _; exact Nat.le_of_eq rfl) (hb hby at_266) (fun _ _ => ⟨rfl, e276, (by decide : 6 + 0 ≤ _), (by decide : 36 + 0 ≤ _)⟩)
              dsimp only [Pt.U, Pt.locs, Pt.cells, Pt.slots] at X279 l279 y279 z279 st279 hQ279
              subst l279 y279 z279
              obtain ⟨rfl, N279q, Kc279, c279_0, c279_1, c279_2⟩ := hQ279
              have f280 := f263.keep Kc279
              have f281 := f264.keep Kc279 (ninS ne_b229_ck241 (ninS ne_b229_wx251 nin0))
              have f282 := f265.keep Kc279
              have f283 := f266.keep Kc279 (ninS ne_b238_ck241 (ninS ne_b238_wx251 nin0))
              have f284 := f267.keep Kc279 (ninS ne_b238_ck241 (ninS ne_b238_wx251 nin0))
              have f285 := f268.keep Kc279 (ninS ne_b238_ck241 (ninS ne_b238_wx251 nin0))
              have f286 := f269.keep Kc279 (ninS c241_3 (ninS ne_ca241_wx251 nin0))
              have f287 := f270.keep Kc279
              have f288 := f271.keep Kc279
              have f289 := f274.keep Kc279
              have Zs279 : n0 ≤ T279.heap.size := Nat.le_trans Zs262 Kc279.1
              have N279 := Fr.app N276 N279q
              refine go (fun _ k => st279.trans k) ?_
              show G (T279.setTop (mkF m 269 #[.val (.int p1), .val (.int p2), .val (.int p3), .val (.int p4), .val (.int (2 : Int32)), .val (.int (Int32.ofNat n)), .val (.ref b229), .val (.ref b238), .val (.int (1 : Int32)), .val (.int (Int32.ofNat (n + 1))), .val (.int (0 : Int32)), .val (.long (0 : Int64)), .second, .val (.long (Int64.ofNat 0)), .second] []))
              refine go (fun _ k => XS.iinc X279.here hx rfl (hb hby at_269) rfl (l' := #[.val (.int p1), .val (.int p2), .val (.int p3), .val (.int p4), .val (.int (2 : Int32)), .val (.int (Int32.ofNat n)), .val (.ref b229), .val (.ref b238), .val (.int (1 : Int32)), .val (.int ((Int32.ofNat (n + 1)) + (-1 : Int32))), .val (.int (0 : Int32)), .val (.long (0 : Int64)), .second, .val (.long (Int64.ofNat 0)), .second]) rfl k) ?_
              show G (T279.setTop (mkF m 272 #[.val (.int p1), .val (.int p2), .val (.int p3), .val (.int p4), .val (.int (2 : Int32)), .val (.int (Int32.ofNat n)), .val (.ref b229), .val (.ref b238), .val (.int (1 : Int32)), .val (.int ((Int32.ofNat (n + 1)) + (-1 : Int32))), .val (.int (0 : Int32)), .val (.long (0 : Int64)), .second, .val (.long (Int64.ofNat 0)), .second] []))
              rw [show ((Int32.ofNat (n + 1)) + (-1 : Int32)) = (Int32.ofNat ((n + 1) - 1)) from own_ondec (n + 1) (by omega)]
              show G (T279.setTop (mkF m 272 #[.val (.int p1), .val (.int p2), .val (.int p3), .val (.int p4), .val (.int (2 : Int32)), .val (.int (Int32.ofNat n)), .val (.ref b229), .val (.ref b238), .val (.int (1 : Int32)), .val (.int (Int32.ofNat ((n + 1) - 1))), .val (.int (0 : Int32)), .val (.long (0 : Int64)), .second, .val (.long (Int64.ofNat 0)), .second] []))
              refine go (fun _ k => XS.iload X279.here hx rfl (hb hby at_272) rfl k) ?_
              show G (T279.setTop (mkF m 274 #[.val (.int p1), .val (.int p2), .val (.int p3), .val (.int p4), .val (.int (2 : Int32)), .val (.int (Int32.ofNat n)), .val (.ref b229), .val (.ref b238), .val (.int (1 : Int32)), .val (.int (Int32.ofNat ((n + 1) - 1))), .val (.int (0 : Int32)), .val (.long (0 : Int64)), .second, .val (.long (Int64.ofNat 0)), .second] [(.int (1 : Int32))]))
              have hc290 : ¬ ((1 : Int32) = (0 : Int32)) := (by decide)
              refine go (fun _ k => XS.ifNo X279.here hx rfl (hb hby at_274) rfl ((if0 _ _).trans (feq hc290).1) k) ?_
              show G (T279.setTop (mkF m 277 #[.val (.int p1), .val (.int p2), .val (.int p3), .val (.int p4), .val (.int (2 : Int32)), .val (.int (Int32.ofNat n)), .val (.ref b229), .val (.ref b238), .val (.int (1 : Int32)), .val (.int (Int32.ofNat ((n + 1) - 1))), .val (.int (0 : Int32)), .val (.long (0 : Int64)), .second, .val (.long (Int64.ofNat 0)), .second] []))
              refine go (fun _ k => XS.aload X279.here hx rfl (hb hby at_277) rfl rfl k) ?_
              show G (T279.setTop (mkF m 279 #[.val (.int p1), .val (.int p2), .val (.int p3), .val (.int p4), .val (.int (2 : Int32)), .val (.int (Int32.ofNat n)), .val (.ref b229), .val (.ref b238), .val (.int (1 : Int32)), .val (.int (Int32.ofNat ((n + 1) - 1))), .val (.int (0 : Int32)), .val (.long (0 : Int64)), .second, .val (.long (Int64.ofNat 0)), .second] [(.ref b238)]))
              obtain ⟨cq291, kq291, qa291, qb291, qc291⟩ := isOf hZ rfl f282
              obtain ⟨_, _, ⟨T291, L291, k291, n291⟩, -, X291, ⟨Lc291, hQ291, l291, y291, z291⟩, st291⟩ := X279.virtualBack hx (y := (⟨"com/example/kerros/kerros/store/SortedChunks", "isEmpty", "()Z"⟩ : MethodName)) (z := (⟨"com/example/kerros/kerros/store/SortedChunks", "isEmpty", "()Z"⟩ : MethodName)) hown (mvT hZ (hw _ (List.mem_of_getElem? (i := 54) rfl))) (mvT hZ (hw _ (List.mem_of_getElem? (i := 55) rfl))) (notFace_of_selects (args := #[]) (mvT hZ (hw _ (List.mem_of_getElem? (i := 57) rfl)))) (mvT hZ (hw _ (List.mem_of_getElem? (i := 57) rfl))) (mvT hZ (hw _ (List.mem_of_getElem? (i := 56) rfl))) (by decide) (backOf (W := 0) (rm9 l Z a0 hw [] b238 ca241 ck241 kc241 (Int32.ofNat ((n + 1) - 1)) T279.heap n0 Zs279 f285 f286 c279_1) hZ (hw _ (List.mem_of_getElem? (i := 58) rfl)) (hw _ (List.mem_of_getElem? (i := 6) rfl)) (by decide) (by decide)) qa291 qc291 (g := (mkF m 279 #[.val (.int p1), .val (.int p2), .val (.int p3), .val (.int p4), .val (.int (2 : Int32)), .val (.int (Int32.ofNat n)), .val (.ref b229), .val (.ref b238), .val (.int (1 : Int32)), .val (.int (Int32.ofNat ((n + 1) - 1))), .val (.int (0 : Int32)), .val (.long (0 : Int64)), .second, .val (.long (Int64.ofNat 0)), .second] [(.ref b238)])) rfl (by rw [hml]; rfl) (Steps.refl _) (argsL := []) (rest := []) (lenOf pd_0_1 rfl) rfl (by show 2 * 0 + _ ≤ _; exact Nat.le_of_eq rfl) (hb hby at_279) (fun _ _ => ⟨rfl, rfl, (by decide : 6 + 0 ≤ _), (by decide : 36 + 0 ≤ _)⟩)
              dsimp only [Pt.U, Pt.locs, Pt.cells, Pt.slots] at X291 l291 y291 z291 st291 hQ291
              subst l291 y291 z291
              obtain ⟨rfl, N291q, e291⟩ := hQ291
              have N291 := Fr.app N279 N291q
              refine go (fun _ k => st291.trans k) ?_
              show G (T291.setTop (mkF m 282 #[.val (.int p1), .val (.int p2), .val (.int p3), .val (.int p4), .val (.int (2 : Int32)), .val (.int (Int32.ofNat n)), .val (.ref b229), .val (.ref b238), .val (.int (1 : Int32)), .val (.int (Int32.ofNat ((n + 1) - 1))), .val (.int (0 : Int32)), .val (.long (0 : Int64)), .second, .val (.long (Int64.ofNat 0)), .second] [(.int (emp (Int32.ofNat ((n + 1) - 1))))]))
              have J300_292 : G (T291.setTop (mkF m 300 #[.val (.int p1), .val (.int p2), .val (.int p3), .val (.int p4), .val (.int (2 : Int32)), .val (.int (Int32.ofNat n)), .val (.ref b229), .val (.ref b238), .val (.int (1 : Int32)), .val (.int (Int32.ofNat ((n + 1) - 1))), .val (.int (0 : Int32)), .val (.long (0 : Int64)), .second, .val (.long (Int64.ofNat 0)), .second] [(.int (1 : Int32))])) := by
                refine go (fun _ k => XS.istore X291.here hx rfl (hb hby at_300) rfl (l' := #[.val (.int p1), .val (.int p2), .val (.int p3), .val (.int p4), .val (.int (2 : Int32)), .val (.int (Int32.ofNat n)), .val (.ref b229), .val (.ref b238), .val (.int (1 : Int32)), .val (.int (Int32.ofNat ((n + 1) - 1))), .val (.int (0 : Int32)), .val (.long (0 : Int64)), .second, .val (.long (Int64.ofNat 0)), .second]) rfl k) ?_
                show G (T291.setTop (mkF m 302 #[.val (.int p1), .val (.int p2), .val (.int p3), .val (.int p4), .val (.int (2 : Int32)), .val (.int (Int32.ofNat n)), .val (.ref b229), .val (.ref b238), .val (.int (1 : Int32)), .val (.int (Int32.ofNat ((n + 1) - 1))), .val (.int (0 : Int32)), .val (.long (0 : Int64)), .second, .val (.long (Int64.ofNat 0)), .second] []))
                refine go (fun _ k => XS.iload X291.here hx rfl (hb hby at_302) rfl k) ?_
                show G (T291.setTop (mkF m 304 #[.val (.int p1), .val (.int p2), .val (.int p3), .val (.int p4), .val (.int (2 : Int32)), .val (.int (Int32.ofNat n)), .val (.ref b229), .val (.ref b238), .val (.int (1 : Int32)), .val (.int (Int32.ofNat ((n + 1) - 1))), .val (.int (0 : Int32)), .val (.long (0 : Int64)), .second, .val (.long (Int64.ofNat 0)), .second] [(.int (1 : Int32))]))
                rw [hG]
                refine own_fin X291 Bd.notSynchronized (v := some (.int (1 : Int32))) (fun h => by rw [Bd.returns] at h; cases h) (fun fs hr => retOut X291 hx Bd.returns rfl (by simp [FieldType.isReference, Value.isRef]) (hb hby at_304) hr) ?_ (by decide) (by decide)
                show Q0 Z p1 p2 p3 p4 h0 n0 (some (.int (1 : Int32))) T291.heap _
                rw [e291]
                exact ⟨rfl, N291⟩
              show G (T291.setTop (mkF m 282 #[.val (.int p1), .val (.int p2), .val (.int p3), .val (.int p4), .val (.int (2 : Int32)), .val (.int (Int32.ofNat n)), .val (.ref b229), .val (.ref b238), .val (.int (1 : Int32)), .val (.int (Int32.ofNat ((n + 1) - 1))), .val (.int (0 : Int32)), .val (.long (0 : Int64)), .second, .val (.long (Int64.ofNat 0)), .second] [(.int (emp (Int32.ofNat ((n + 1) - 1))))]))
              refine go (fun _ k => XS.iload X291.here hx rfl (hb hby at_282) rfl k) ?_
              show G (T291.setTop (mkF m 284 #[.val (.int p1), .val (.int p2), .val (.int p3), .val (.int p4), .val (.int (2 : Int32)), .val (.int (Int32.ofNat n)), .val (.ref b229), .val (.ref b238), .val (.int (1 : Int32)), .val (.int (Int32.ofNat ((n + 1) - 1))), .val (.int (0 : Int32)), .val (.long (0 : Int64)), .second, .val (.long (Int64.ofNat 0)), .second] [(.int (Int32.ofNat ((n + 1) - 1))), (.int (emp (Int32.ofNat ((n + 1) - 1))))]))
              by_cases hc284_293 : (Int32.ofNat ((n + 1) - 1)) = (0 : Int32)
              · refine go (fun _ k => XS.ifNo X291.here hx rfl (hb hby at_284) rfl ((if0 _ _).trans (teq hc284_293).2) k) ?_
                show G (T291.setTop (mkF m 287 #[.val (.int p1), .val (.int p2), .val (.int p3), .val (.int p4), .val (.int (2 : Int32)), .val (.int (Int32.ofNat n)), .val (.ref b229), .val (.ref b238), .val (.int (1 : Int32)), .val (.int (Int32.ofNat ((n + 1) - 1))), .val (.int (0 : Int32)), .val (.long (0 : Int64)), .second, .val (.long (Int64.ofNat 0)), .second] [(.int (emp (Int32.ofNat ((n + 1) - 1))))]))
                refine go (fun _ k => XS.iconst X291.here hx rfl (hb hby at_287) k) ?_
                show G (T291.setTop (mkF m 288 #[.val (.int p1), .val (.int p2), .val (.int p3), .val (.int p4), .val (.int (2 : Int32)), .val (.int (Int32.ofNat n)), .val (.ref b229), .val (.ref b238), .val (.int (1 : Int32)), .val (.int (Int32.ofNat ((n + 1) - 1))), .val (.int (0 : Int32)), .val (.long (0 : Int64)), .second, .val (.long (Int64.ofNat 0)), .second] [(.int (1 : Int32)), (.int (emp (Int32.ofNat ((n + 1) - 1))))]))
                refine go (fun _ k => XS.goto X291.here hx rfl (pc0 := 288) (pc' := 292) rfl (hb hby at_288) (by decide) (by decide) k) ?_
                show G (T291.setTop (mkF m 292 #[.val (.int p1), .val (.int p2), .val (.int p3), .val (.int p4), .val (.int (2 : Int32)), .val (.int (Int32.ofNat n)), .val (.ref b229), .val (.ref b238), .val (.int (1 : Int32)), .val (.int (Int32.ofNat ((n + 1) - 1))), .val (.int (0 : Int32)), .val (.long (0 : Int64)), .second, .val (.long (Int64.ofNat 0)), .second] [(.int (1 : Int32)), (.int (emp (Int32.ofNat ((n + 1) - 1))))]))
                have hc294 : (emp (Int32.ofNat ((n + 1) - 1))) = (1 : Int32) := by rw [emp, if_pos hc284_293]
                refine go (fun _ k => XS.icmpNo X291.here hx rfl (hb hby at_292) rfl (teq hc294).2 k) ?_
                show G (T291.setTop (mkF m 295 #[.val (.int p1), .val (.int p2), .val (.int p3), .val (.int p4), .val (.int (2 : Int32)), .val (.int (Int32.ofNat n)), .val (.ref b229), .val (.ref b238), .val (.int (1 : Int32)), .val (.int (Int32.ofNat ((n + 1) - 1))), .val (.int (0 : Int32)), .val (.long (0 : Int64)), .second, .val (.long (Int64.ofNat 0)), .second] []))
                refine go (fun _ k => XS.iconst X291.here hx rfl (hb hby at_295) k) ?_
                show G (T291.setTop (mkF m 296 #[.val (.int p1), .val (.int p2), .val (.int p3), .val (.int p4), .val (.int (2 : Int32)), .val (.int (Int32.ofNat n)), .val (.ref b229), .val (.ref b238), .val (.int (1 : Int32)), .val (.int (Int32.ofNat ((n + 1) - 1))), .val (.int (0 : Int32)), .val (.long (0 : Int64)), .second, .val (.long (Int64.ofNat 0)), .second] [(.int (1 : Int32))]))
                refine go (fun _ k => XS.goto X291.here hx rfl (pc0 := 296) (pc' := 300) rfl (hb hby at_296) (by decide) (by decide) k) ?_
                show G (T291.setTop (mkF m 300 #[.val (.int p1), .val (.int p2), .val (.int p3), .val (.int p4), .val (.int (2 : Int32)), .val (.int (Int32.ofNat n)), .val (.ref b229), .val (.ref b238), .val (.int (1 : Int32)), .val (.int (Int32.ofNat ((n + 1) - 1))), .val (.int (0 : Int32)), .val (.long (0 : Int64)), .second, .val (.long (Int64.ofNat 0)), .second] [(.int (1 : Int32))]))
                exact J300_292
              · refine go (fun _ k => XS.ifYes X291.here hx rfl (pc0 := 284) (pc' := 291) rfl (hb hby at_284) rfl ((if0 _ _).trans (feq hc284_293).2) (by decide) (by decide) k) ?_
                show G (T291.setTop (mkF m 291 #[.val (.int p1), .val (.int p2), .val (.int p3), .val (.int p4), .val (.int (2 : Int32)), .val (.int (Int32.ofNat n)), .val (.ref b229), .val (.ref b238), .val (.int (1 : Int32)), .val (.int (Int32.ofNat ((n + 1) - 1))), .val (.int (0 : Int32)), .val (.long (0 : Int64)), .second, .val (.long (Int64.ofNat 0)), .second] [(.int (emp (Int32.ofNat ((n + 1) - 1))))]))
                refine go (fun _ k => XS.iconst X291.here hx rfl (hb hby at_291) k) ?_
                show G (T291.setTop (mkF m 292 #[.val (.int p1), .val (.int p2), .val (.int p3), .val (.int p4), .val (.int (2 : Int32)), .val (.int (Int32.ofNat n)), .val (.ref b229), .val (.ref b238), .val (.int (1 : Int32)), .val (.int (Int32.ofNat ((n + 1) - 1))), .val (.int (0 : Int32)), .val (.long (0 : Int64)), .second, .val (.long (Int64.ofNat 0)), .second] [(.int (0 : Int32)), (.int (emp (Int32.ofNat ((n + 1) - 1))))]))
                have hc295 : (emp (Int32.ofNat ((n + 1) - 1))) = (0 : Int32) := by rw [emp, if_neg hc284_293]
                refine go (fun _ k => XS.icmpNo X291.here hx rfl (hb hby at_292) rfl (teq hc295).2 k) ?_
                show G (T291.setTop (mkF m 295 #[.val (.int p1), .val (.int p2), .val (.int p3), .val (.int p4), .val (.int (2 : Int32)), .val (.int (Int32.ofNat n)), .val (.ref b229), .val (.ref b238), .val (.int (1 : Int32)), .val (.int (Int32.ofNat ((n + 1) - 1))), .val (.int (0 : Int32)), .val (.long (0 : Int64)), .second, .val (.long (Int64.ofNat 0)), .second] []))
                refine go (fun _ k => XS.iconst X291.here hx rfl (hb hby at_295) k) ?_
                show G (T291.setTop (mkF m 296 #[.val (.int p1), .val (.int p2), .val (.int p3), .val (.int p4), .val (.int (2 : Int32)), .val (.int (Int32.ofNat n)), .val (.ref b229), .val (.ref b238), .val (.int (1 : Int32)), .val (.int (Int32.ofNat ((n + 1) - 1))), .val (.int (0 : Int32)), .val (.long (0 : Int64)), .second, .val (.long (Int64.ofNat 0)), .second] [(.int (1 : Int32))]))
                refine go (fun _ k => XS.goto X291.here hx rfl (pc0 := 296) (pc' := 300) rfl (hb hby at_296) (by decide) (by decide) k) ?_
                show G (T291.setTop (mkF m 300 #[.val (.int p1), .val (.int p2), .val (.int p3), .val (.int p4), .val (.int (2 : Int32)), .val (.int (Int32.ofNat n)), .val (.ref b229), .val (.ref b238), .val (.int (1 : Int32)), .val (.int (Int32.ofNat ((n + 1) - 1))), .val (.int (0 : Int32)), .val (.long (0 : Int64)), .second, .val (.long (Int64.ofNat 0)), .second] [(.int (1 : Int32))]))
                exact J300_292
          · refine go (fun _ k => XS.ifNo X245.here hx rfl (hb hby at_177) rfl ((if0 _ _).trans (feq hc177_249).1) k) ?_
            show G (T245.setTop (mkF m 180 #[.val (.int p1), .val (.int p2), .val (.int p3), .val (.int p4), .val (.int (2 : Int32)), .val (.int (Int32.ofNat n)), .val (.ref b229), .val (.ref b238), .val (.int (1 : Int32)), .val (.int (Int32.ofNat n)), .unset, .unset, .unset, .unset, .unset] []))
            refine go (fun _ k => XS.iconst X245.here hx rfl (hb hby at_180) k) ?_
            show G (T245.setTop (mkF m 181 #[.val (.int p1), .val (.int p2), .val (.int p3), .val (.int p4), .val (.int (2 : Int32)), .val (.int (Int32.ofNat n)), .val (.ref b229), .val (.ref b238), .val (.int (1 : Int32)), .val (.int (Int32.ofNat n)), .unset, .unset, .unset, .unset, .unset] [(.int (1 : Int32))]))
            refine go (fun _ k => XS.goto X245.here hx rfl (pc0 := 181) (pc' := 185) rfl (hb hby at_181) (by decide) (by decide) k) ?_
            show G (T245.setTop (mkF m 185 #[.val (.int p1), .val (.int p2), .val (.int p3), .val (.int p4), .val (.int (2 : Int32)), .val (.int (Int32.ofNat n)), .val (.ref b229), .val (.ref b238), .val (.int (1 : Int32)), .val (.int (Int32.ofNat n)), .unset, .unset, .unset, .unset, .unset] [(.int (1 : Int32))]))
            refine go (fun _ k => XS.istore X245.here hx rfl (hb hby at_185) rfl (l' := #[.val (.int p1), .val (.int p2), .val (.int p3), .val (.int p4), .val (.int (2 : Int32)), .val (.int (Int32.ofNat n)), .val (.ref b229), .val (.ref b238), .val (.int (1 : Int32)), .val (.int (Int32.ofNat n)), .val (.int (1 : Int32)), .unset, .unset, .unset, .unset]) rfl k) ?_
            show G (T245.setTop (mkF m 187 #[.val (.int p1), .val (.int p2), .val (.int p3), .val (.int p4), .val (.int (2 : Int32)), .val (.int (Int32.ofNat n)), .val (.ref b229), .val (.ref b238), .val (.int (1 : Int32)), .val (.int (Int32.ofNat n)), .val (.int (1 : Int32)), .unset, .unset, .unset, .unset] []))
            refine go (fun _ k => XS.iload X245.here hx rfl (hb hby at_187) rfl k) ?_
            show G (T245.setTop (mkF m 189 #[.val (.int p1), .val (.int p2), .val (.int p3), .val (.int p4), .val (.int (2 : Int32)), .val (.int (Int32.ofNat n)), .val (.ref b229), .val (.ref b238), .val (.int (1 : Int32)), .val (.int (Int32.ofNat n)), .val (.int (1 : Int32)), .unset, .unset, .unset, .unset] [(.int (1 : Int32))]))
            have hc296 : ¬ ((1 : Int32) = (0 : Int32)) := (by decide)
            refine go (fun _ k => XS.ifNo X245.here hx rfl (hb hby at_189) rfl ((if0 _ _).trans (feq hc296).1) k) ?_
            show G (T245.setTop (mkF m 192 #[.val (.int p1), .val (.int p2), .val (.int p3), .val (.int p4), .val (.int (2 : Int32)), .val (.int (Int32.ofNat n)), .val (.ref b229), .val (.ref b238), .val (.int (1 : Int32)), .val (.int (Int32.ofNat n)), .val (.int (1 : Int32)), .unset, .unset, .unset, .unset] []))
            refine go (fun _ k => XS.iload X245.here hx rfl (hb hby at_192) rfl k) ?_
            show G (T245.setTop (mkF m 194 #[.val (.int p1), .val (.int p2), .val (.int p3), .val (.int p4), .val (.int (2 : Int32)), .val (.int (Int32.ofNat n)), .val (.ref b229), .val (.ref b238), .val (.int (1 : Int32)), .val (.int (Int32.ofNat n)), .val (.int (1 : Int32)), .unset, .unset, .unset, .unset] [(.int (Int32.ofNat n))]))
            refine go (fun _ k => XS.i2l X245.here hx rfl (hb hby at_194) rfl k) ?_
            show G (T245.setTop (mkF m 195 #[.val (.int p1), .val (.int p2), .val (.int p3), .val (.int p4), .val (.int (2 : Int32)), .val (.int (Int32.ofNat n)), .val (.ref b229), .val (.ref b238), .val (.int (1 : Int32)), .val (.int (Int32.ofNat n)), .val (.int (1 : Int32)), .unset, .unset, .unset, .unset] [(.long ((Int32.ofNat n).toInt64))]))
            rw [show ((Int32.ofNat n).toInt64) = (Int64.ofNat n) from own_i2l n (by omega)]
            show G (T245.setTop (mkF m 195 #[.val (.int p1), .val (.int p2), .val (.int p3), .val (.int p4), .val (.int (2 : Int32)), .val (.int (Int32.ofNat n)), .val (.ref b229), .val (.ref b238), .val (.int (1 : Int32)), .val (.int (Int32.ofNat n)), .val (.int (1 : Int32)), .unset, .unset, .unset, .unset] [(.long (Int64.ofNat n))]))
            refine go (fun _ k => XS.goto X245.here hx rfl (pc0 := 195) (pc' := 199) rfl (hb hby at_195) (by decide) (by decide) k) ?_
            show G (T245.setTop (mkF m 199 #[.val (.int p1), .val (.int p2), .val (.int p3), .val (.int p4), .val (.int (2 : Int32)), .val (.int (Int32.ofNat n)), .val (.ref b229), .val (.ref b238), .val (.int (1 : Int32)), .val (.int (Int32.ofNat n)), .val (.int (1 : Int32)), .unset, .unset, .unset, .unset] [(.long (Int64.ofNat n))]))
            refine go (fun _ k => XS.lstore X245.here hx rfl (hb hby at_199) rfl (l' := #[.val (.int p1), .val (.int p2), .val (.int p3), .val (.int p4), .val (.int (2 : Int32)), .val (.int (Int32.ofNat n)), .val (.ref b229), .val (.ref b238), .val (.int (1 : Int32)), .val (.int (Int32.ofNat n)), .val (.int (1 : Int32)), .val (.long (Int64.ofNat n)), .second, .unset, .unset]) rfl k) ?_
            show G (T245.setTop (mkF m 201 #[.val (.int p1), .val (.int p2), .val (.int p3), .val (.int p4), .val (.int (2 : Int32)), .val (.int (Int32.ofNat n)), .val (.ref b229), .val (.ref b238), .val (.int (1 : Int32)), .val (.int (Int32.ofNat n)), .val (.int (1 : Int32)), .val (.long (Int64.ofNat n)), .second, .unset, .unset] []))
            refine go (fun _ k => XS.aload X245.here hx rfl (hb hby at_201) rfl rfl k) ?_
            show G (T245.setTop (mkF m 203 #[.val (.int p1), .val (.int p2), .val (.int p3), .val (.int p4), .val (.int (2 : Int32)), .val (.int (Int32.ofNat n)), .val (.ref b229), .val (.ref b238), .val (.int (1 : Int32)), .val (.int (Int32.ofNat n)), .val (.int (1 : Int32)), .val (.long (Int64.ofNat n)), .second, .unset, .unset] [(.ref b238)]))
            refine go (fun _ k => XS.lload X245.here hx rfl (hb hby at_203) rfl k) ?_
            show G (T245.setTop (mkF m 205 #[.val (.int p1), .val (.int p2), .val (.int p3), .val (.int p4), .val (.int (2 : Int32)), .val (.int (Int32.ofNat n)), .val (.ref b229), .val (.ref b238), .val (.int (1 : Int32)), .val (.int (Int32.ofNat n)), .val (.int (1 : Int32)), .val (.long (Int64.ofNat n)), .second, .unset, .unset] [(.long (Int64.ofNat n)), (.ref b238)]))
            obtain ⟨cq297, kq297, qa297, qb297, qc297⟩ := isOf hZ e245 f244
            obtain ⟨_, _, ⟨T297, L297, k297, n297⟩, -, X297, ⟨Lc297, hQ297, l297, y297, z297⟩, st297⟩ := X245.virtualBack hx (y := (⟨"com/example/kerros/kerros/store/SortedChunks", "insert", "(J)J"⟩ : MethodName)) (z := (⟨"com/example/kerros/kerros/store/SortedChunks", "insert", "(J)J"⟩ : MethodName)) hown (mvT hZ (hw _ (List.mem_of_getElem? (i := 60) rfl))) (mvT hZ (hw _ (List.mem_of_getElem? (i := 61) rfl))) (notFace_of_selects (args := #[]) (mvT hZ (hw _ (List.mem_of_getElem? (i := 63) rfl)))) (mvT hZ (hw _ (List.mem_of_getElem? (i := 63) rfl))) (mvT hZ (hw _ (List.mem_of_getElem? (i := 62) rfl))) (by decide) (backOf (W := 0) (rm10w2 l Z a0 hw [] b238 n ca241 ck241 wa241 kc241 kw241 n cb241 T241.heap n0 Zs241 c241_6 c241_7 c241_8 c241_9 c241_10 c241_11 c241_12 c241_13 c241_14 ne_b238_ck241 ne_b238_wa241 c241_3 c241_4 c241_5 g_ck241 g_wa241 (by omega) (by omega) (by omega) (by omega)) hZ (hw _ (List.mem_of_getElem? (i := 64) rfl)) (hw _ (List.mem_of_getElem? (i := 6) rfl)) (by decide) (by decide)) qa297 qc297 (g := (mkF m 205 #[.val (.int p1), .val (.int p2), .val (.int p3), .val (.int p4), .val (.int (2 : Int32)), .val (.int (Int32.ofNat n)), .val (.ref b229), .val (.ref b238), .val (.int (1 : Int32)), .val (.int (Int32.ofNat n)), .val (.int (1 : Int32)), .val (.long (Int64.ofNat n)), .second, .unset, .unset] [(.long (Int64.ofNat n)), (.ref b238)])) rfl (by rw [hml]; rfl) (Steps.refl _) (argsL := [(.long (Int64.ofNat n))]) (rest := []) (lenOf pd_0_2 rfl) rfl (by show 2 * 0 + _ ≤ _; exact Nat.le_of_eq rfl) (hb hby at_205) (fun _ _ => ⟨rfl, e245, (by decide : 5 + 1 ≤ _), (by decide : 24 + 12 ≤ _)⟩)
            dsimp only [Pt.U, Pt.locs, Pt.cells, Pt.slots] at X297 l297 y297 z297 st297 hQ297
            subst l297 y297 z297
            obtain ⟨wx297, kx297, dx297, rfl, N297q, Kc297, c297_0, c297_1, c297_2, c297_3, c297_4, c297_5, c297_6⟩ := hQ297
            have ne_b229_wx297 : b229 ≠ wx297 := c297_0.elim (fun q => by rw [q]; exact ne_b229_wa241) (fun q => Nat.ne_of_lt (Nat.lt_of_lt_of_le f242.lt q))
            have ne_b238_wx297 : b238 ≠ wx297 := c297_0.elim (fun q => by rw [q]; exact ne_b238_wa241) (fun q => Nat.ne_of_lt (Nat.lt_of_lt_of_le f244.lt q))
            have ne_ca241_wx297 : ca241 ≠ wx297 := c297_0.elim (fun q => by rw [q]; exact c241_4) (fun q => Nat.ne_of_lt (Nat.lt_of_lt_of_le c241_9.lt q))
            have ne_ck241_wx297 : ck241 ≠ wx297 := c297_0.elim (fun q => by rw [q]; exact c241_5) (fun q => Nat.ne_of_lt (Nat.lt_of_lt_of_le c241_10.lt q))
            have g_wx297 : n0 ≤ wx297 := c297_0.elim (fun q => by rw [q]; exact g_wa241) (fun q => Nat.le_trans Zs241 q)
            have f298 := f242.keep Kc297
            have f299 := f243.keep Kc297 (ninS ne_b229_ck241 (ninS ne_b229_wa241 nin0))
            have f300 := f244.keep Kc297
            have f301 := c241_6.keep Kc297 (ninS ne_b238_ck241 (ninS ne_b238_wa241 nin0))
            have f302 := c241_7.keep Kc297 (ninS ne_b238_ck241 (ninS ne_b238_wa241 nin0))
            have f303 := c241_8.keep Kc297 (ninS ne_b238_ck241 (ninS ne_b238_wa241 nin0))
            have f304 := c241_9.keep Kc297 (ninS c241_3 (ninS c241_4 nin0))
            have f305 := c241_10.keep Kc297
            have f306 := c241_14.keep Kc297
            have Zs297 : n0 ≤ T297.heap.size := Nat.le_trans Zs241 Kc297.1
            have N297 := Fr.app N245 N297q
            refine go (fun _ k => st297.trans k) ?_
            show G (T297.setTop (mkF m 208 #[.val (.int p1), .val (.int p2), .val (.int p3), .val (.int p4), .val (.int (2 : Int32)), .val (.int (Int32.ofNat n)), .val (.ref b229), .val (.ref b238), .val (.int (1 : Int32)), .val (.int (Int32.ofNat n)), .val (.int (1 : Int32)), .val (.long (Int64.ofNat n)), .second, .unset, .unset] [(.long (Int64.ofNat n))]))
            refine go (fun _ k => XS.lstore X297.here hx rfl (hb hby at_208) rfl (l' := #[.val (.int p1), .val (.int p2), .val (.int p3), .val (.int p4), .val (.int (2 : Int32)), .val (.int (Int32.ofNat n)), .val (.ref b229), .val (.ref b238), .val (.int (1 : Int32)), .val (.int (Int32.ofNat n)), .val (.int (1 : Int32)), .val (.long (Int64.ofNat n)), .second, .val (.long (Int64.ofNat n)), .second]) rfl k) ?_
            show G (T297.setTop (mkF m 210 #[.val (.int p1), .val (.int p2), .val (.int p3), .val (.int p4), .val (.int (2 : Int32)), .val (.int (Int32.ofNat n)), .val (.ref b229), .val (.ref b238), .val (.int (1 : Int32)), .val (.int (Int32.ofNat n)), .val (.int (1 : Int32)), .val (.long (Int64.ofNat n)), .second, .val (.long (Int64.ofNat n)), .second] []))
            refine go (fun _ k => XS.aload X297.here hx rfl (hb hby at_210) rfl rfl k) ?_
            show G (T297.setTop (mkF m 212 #[.val (.int p1), .val (.int p2), .val (.int p3), .val (.int p4), .val (.int (2 : Int32)), .val (.int (Int32.ofNat n)), .val (.ref b229), .val (.ref b238), .val (.int (1 : Int32)), .val (.int (Int32.ofNat n)), .val (.int (1 : Int32)), .val (.long (Int64.ofNat n)), .second, .val (.long (Int64.ofNat n)), .second] [(.ref b238)]))
            refine go (fun _ k => XS.lload X297.here hx rfl (hb hby at_212) rfl k) ?_
            show G (T297.setTop (mkF m 214 #[.val (.int p1), .val (.int p2), .val (.int p3), .val (.int p4), .val (.int (2 : Int32)), .val (.int (Int32.ofNat n)), .val (.ref b229), .val (.ref b238), .val (.int (1 : Int32)), .val (.int (Int32.ofNat n)), .val (.int (1 : Int32)), .val (.long (Int64.ofNat n)), .second, .val (.long (Int64.ofNat n)), .second] [(.long (Int64.ofNat n)), (.ref b238)]))
            refine go (fun _ k => XS.iconst X297.here hx rfl (hb hby at_214) k) ?_
            show G (T297.setTop (mkF m 215 #[.val (.int p1), .val (.int p2), .val (.int p3), .val (.int p4), .val (.int (2 : Int32)), .val (.int (Int32.ofNat n)), .val (.ref b229), .val (.ref b238), .val (.int (1 : Int32)), .val (.int (Int32.ofNat n)), .val (.int (1 : Int32)), .val (.long (Int64.ofNat n)), .second, .val (.long (Int64.ofNat n)), .second] [(.int (0 : Int32)), (.long (Int64.ofNat n)), (.ref b238)]))
            refine go (fun _ k => XS.iload X297.here hx rfl (hb hby at_215) rfl k) ?_
            show G (T297.setTop (mkF m 217 #[.val (.int p1), .val (.int p2), .val (.int p3), .val (.int p4), .val (.int (2 : Int32)), .val (.int (Int32.ofNat n)), .val (.ref b229), .val (.ref b238), .val (.int (1 : Int32)), .val (.int (Int32.ofNat n)), .val (.int (1 : Int32)), .val (.long (Int64.ofNat n)), .second, .val (.long (Int64.ofNat n)), .second] [(.int (1 : Int32)), (.int (0 : Int32)), (.long (Int64.ofNat n)), (.ref b238)]))
            have hc307 : ¬ ((1 : Int32) = (0 : Int32)) := (by decide)
            refine go (fun _ k => XS.ifNo X297.here hx rfl (hb hby at_217) rfl ((if0 _ _).trans (feq hc307).1) k) ?_
            show G (T297.setTop (mkF m 220 #[.val (.int p1), .val (.int p2), .val (.int p3), .val (.int p4), .val (.int (2 : Int32)), .val (.int (Int32.ofNat n)), .val (.ref b229), .val (.ref b238), .val (.int (1 : Int32)), .val (.int (Int32.ofNat n)), .val (.int (1 : Int32)), .val (.long (Int64.ofNat n)), .second, .val (.long (Int64.ofNat n)), .second] [(.int (0 : Int32)), (.long (Int64.ofNat n)), (.ref b238)]))
            refine go (X297.ldc2Long hx hown (mvT hZ (hw _ (List.mem_of_getElem? (i := 110) rfl))) (g := (mkF m 220 #[.val (.int p1), .val (.int p2), .val (.int p3), .val (.int p4), .val (.int (2 : Int32)), .val (.int (Int32.ofNat n)), .val (.ref b229), .val (.ref b238), .val (.int (1 : Int32)), .val (.int (Int32.ofNat n)), .val (.int (1 : Int32)), .val (.long (Int64.ofNat n)), .second, .val (.long (Int64.ofNat n)), .second] [(.int (0 : Int32)), (.long (Int64.ofNat n)), (.ref b238)])) rfl (hb hby at_220)) ?_
            show G (T297.setTop (mkF m 223 #[.val (.int p1), .val (.int p2), .val (.int p3), .val (.int p4), .val (.int (2 : Int32)), .val (.int (Int32.ofNat n)), .val (.ref b229), .val (.ref b238), .val (.int (1 : Int32)), .val (.int (Int32.ofNat n)), .val (.int (1 : Int32)), .val (.long (Int64.ofNat n)), .second, .val (.long (Int64.ofNat n)), .second] [(.long (100 : Int64)), (.int (0 : Int32)), (.long (Int64.ofNat n)), (.ref b238)]))
            refine go (fun _ k => XS.goto X297.here hx rfl (pc0 := 223) (pc' := 229) rfl (hb hby at_223) (by decide) (by decide) k) ?_
            show G (T297.setTop (mkF m 229 #[.val (.int p1), .val (.int p2), .val (.int p3), .val (.int p4), .val (.int (2 : Int32)), .val (.int (Int32.ofNat n)), .val (.ref b229), .val (.ref b238), .val (.int (1 : Int32)), .val (.int (Int32.ofNat n)), .val (.int (1 : Int32)), .val (.long (Int64.ofNat n)), .second, .val (.long (Int64.ofNat n)), .second] [(.long (100 : Int64)), (.int (0 : Int32)), (.long (Int64.ofNat n)), (.ref b238)]))
            obtain ⟨cq308, kq308, qa308, qb308, qc308⟩ := isOf hZ rfl f300
            obtain ⟨_, _, ⟨T308, L308, k308, n308⟩, -, X308, ⟨Lc308, hQ308, l308, y308, z308⟩, st308⟩ := X297.virtualBack hx (y := (⟨"com/example/kerros/kerros/store/SortedChunks", "setWord", "(JIJ)V"⟩ : MethodName)) (z := (⟨"com/example/kerros/kerros/store/SortedChunks", "setWord", "(JIJ)V"⟩ : MethodName)) hown (mvT hZ (hw _ (List.mem_of_getElem? (i := 86) rfl))) (mvT hZ (hw _ (List.mem_of_getElem? (i := 87) rfl))) (notFace_of_selects (args := #[]) (mvT hZ (hw _ (List.mem_of_getElem? (i := 89) rfl)))) (mvT hZ (hw _ (List.mem_of_getElem? (i := 89) rfl))) (mvT hZ (hw _ (List.mem_of_getElem? (i := 88) rfl))) (by decide) (backOf (W := 0) (rm16w2 l Z a0 hw [] b238 (100 : Int64) n ca241 ck241 wx297 kc241 kx297 (n + 1) dx297 T297.heap n0 Zs297 f301 f302 f303 f304 f305 c297_1 c297_2 c297_3 c297_4 ne_b238_ck241 ne_b238_wx297 c241_3 ne_ca241_wx297 ne_ck241_wx297 g_ck241 g_wx297 (by omega) (by omega) (by omega)) hZ (hw _ (List.mem_of_getElem? (i := 90) rfl)) (hw _ (List.mem_of_getElem? (i := 6) rfl)) (by decide) (by decide)) qa308 qc308 (g := (mkF m 229 #[.val (.int p1), .val (.int p2), .val (.int p3), .val (.int p4), .val (.int (2 : Int32)), .val (.int (Int32.ofNat n)), .val (.ref b229), .val (.ref b238), .val (.int (1 : Int32)), .val (.int (Int32.ofNat n)), .val (.int (1 : Int32)), .val (.long (Int64.ofNat n)), .second, .val (.long (Int64.ofNat n)), .second] [(.long (100 : Int64)), (.int (0 : Int32)), (.long (Int64.ofNat n)), (.ref b238)])) rfl (by rw [hml]; rfl) (Steps.refl _) (argsL := [(.long (Int64.ofNat n)), (.int (0 : Int32)), (.long (100 : Int64))]) (rest := []) (lenOf pd_0_3 rfl) rfl (by show 2 * 0 + _ ≤ _; exact Nat.le_of_eq rfl) (hb hby at_229) (fun _ _ => ⟨rfl, rfl, (by decide : 6 + 0 ≤ _), (by decide : 36 + 0 ≤ _)⟩)
            dsimp only [Pt.U, Pt.locs, Pt.cells, Pt.slots] at X308 l308 y308 z308 st308 hQ308
            subst l308 y308 z308
            obtain ⟨rfl, N308q, Kc308, c308_0⟩ := hQ308
            have f309 := f298.keep Kc308
            have f310 := f299.keep Kc308 (ninS ne_b229_wx297 nin0)
            have f311 := f300.keep Kc308
            have f312 := f301.keep Kc308 (ninS ne_b238_wx297 nin0)
            have f313 := f302.keep Kc308 (ninS ne_b238_wx297 nin0)
            have f314 := f303.keep Kc308 (ninS ne_b238_wx297 nin0)
            have f315 := f304.keep Kc308 (ninS ne_ca241_wx297 nin0)
            have f316 := f305.keep Kc308
            have f317 := f306.keep Kc308
            have f318 := c297_1.keep Kc308 (ninS ne_ck241_wx297 nin0)
            have f319 := c297_2.keep Kc308 (ninS ne_ck241_wx297 nin0)
            have f320 := c297_4.keep Kc308
            have Zs308 : n0 ≤ T308.heap.size := Nat.le_trans Zs297 Kc308.1
            have N308 := Fr.app N297 N308q
            refine go (fun _ k => st308.trans k) ?_
            show G (T308.setTop (mkF m 232 #[.val (.int p1), .val (.int p2), .val (.int p3), .val (.int p4), .val (.int (2 : Int32)), .val (.int (Int32.ofNat n)), .val (.ref b229), .val (.ref b238), .val (.int (1 : Int32)), .val (.int (Int32.ofNat n)), .val (.int (1 : Int32)), .val (.long (Int64.ofNat n)), .second, .val (.long (Int64.ofNat n)), .second] []))
            refine go (fun _ k => XS.iinc X308.here hx rfl (hb hby at_232) rfl (l' := #[.val (.int p1), .val (.int p2), .val (.int p3), .val (.int p4), .val (.int (2 : Int32)), .val (.int (Int32.ofNat n)), .val (.ref b229), .val (.ref b238), .val (.int (1 : Int32)), .val (.int ((Int32.ofNat n) + (1 : Int32))), .val (.int (1 : Int32)), .val (.long (Int64.ofNat n)), .second, .val (.long (Int64.ofNat n)), .second]) rfl k) ?_
            show G (T308.setTop (mkF m 235 #[.val (.int p1), .val (.int p2), .val (.int p3), .val (.int p4), .val (.int (2 : Int32)), .val (.int (Int32.ofNat n)), .val (.ref b229), .val (.ref b238), .val (.int (1 : Int32)), .val (.int ((Int32.ofNat n) + (1 : Int32))), .val (.int (1 : Int32)), .val (.long (Int64.ofNat n)), .second, .val (.long (Int64.ofNat n)), .second] []))
            rw [show ((Int32.ofNat n) + (1 : Int32)) = (Int32.ofNat (n + 1)) from own_onadd n 1]
            show G (T308.setTop (mkF m 235 #[.val (.int p1), .val (.int p2), .val (.int p3), .val (.int p4), .val (.int (2 : Int32)), .val (.int (Int32.ofNat n)), .val (.ref b229), .val (.ref b238), .val (.int (1 : Int32)), .val (.int (Int32.ofNat (n + 1))), .val (.int (1 : Int32)), .val (.long (Int64.ofNat n)), .second, .val (.long (Int64.ofNat n)), .second] []))
            refine go (fun _ k => XS.iload X308.here hx rfl (hb hby at_235) rfl k) ?_
            show G (T308.setTop (mkF m 237 #[.val (.int p1), .val (.int p2), .val (.int p3), .val (.int p4), .val (.int (2 : Int32)), .val (.int (Int32.ofNat n)), .val (.ref b229), .val (.ref b238), .val (.int (1 : Int32)), .val (.int (Int32.ofNat (n + 1))), .val (.int (1 : Int32)), .val (.long (Int64.ofNat n)), .second, .val (.long (Int64.ofNat n)), .second] [(.int (1 : Int32))]))
            have hc321 : ¬ ((1 : Int32) = (0 : Int32)) := (by decide)
            refine go (fun _ k => XS.ifNo X308.here hx rfl (hb hby at_237) rfl ((if0 _ _).trans (feq hc321).1) k) ?_
            show G (T308.setTop (mkF m 240 #[.val (.int p1), .val (.int p2), .val (.int p3), .val (.int p4), .val (.int (2 : Int32)), .val (.int (Int32.ofNat n)), .val (.ref b229), .val (.ref b238), .val (.int (1 : Int32)), .val (.int (Int32.ofNat (n + 1))), .val (.int (1 : Int32)), .val (.long (Int64.ofNat n)), .second, .val (.long (Int64.ofNat n)), .second] []))
            refine go (fun _ k => XS.aload X308.here hx rfl (hb hby at_240) rfl rfl k) ?_
            show G (T308.setTop (mkF m 242 #[.val (.int p1), .val (.int p2), .val (.int p3), .val (.int p4), .val (.int (2 : Int32)), .val (.int (Int32.ofNat n)), .val (.ref b229), .val (.ref b238), .val (.int (1 : Int32)), .val (.int (Int32.ofNat (n + 1))), .val (.int (1 : Int32)), .val (.long (Int64.ofNat n)), .second, .val (.long (Int64.ofNat n)), .second] [(.ref b238)]))
            obtain ⟨cq322, kq322, qa322, qb322, qc322⟩ := isOf hZ rfl f311
            obtain ⟨_, _, ⟨T322, L322, k322, n322⟩, -, X322, ⟨Lc322, hQ322, l322, y322, z322⟩, st322⟩ := X308.virtualBack hx (y := (⟨"com/example/kerros/kerros/store/SortedChunks", "isEmpty", "()Z"⟩ : MethodName)) (z := (⟨"com/example/kerros/kerros/store/SortedChunks", "isEmpty", "()Z"⟩ : MethodName)) hown (mvT hZ (hw _ (List.mem_of_getElem? (i := 54) rfl))) (mvT hZ (hw _ (List.mem_of_getElem? (i := 55) rfl))) (notFace_of_selects (args := #[]) (mvT hZ (hw _ (List.mem_of_getElem? (i := 57) rfl)))) (mvT hZ (hw _ (List.mem_of_getElem? (i := 57) rfl))) (mvT hZ (hw _ (List.mem_of_getElem? (i := 56) rfl))) (by decide) (backOf (W := 0) (rm9 l Z a0 hw [] b238 ca241 ck241 kc241 (Int32.ofNat (n + 1)) T308.heap n0 Zs308 f314 f315 f319) hZ (hw _ (List.mem_of_getElem? (i := 58) rfl)) (hw _ (List.mem_of_getElem? (i := 6) rfl)) (by decide) (by decide)) qa322 qc322 (g := (mkF m 242 #[.val (.int p1), .val (.int p2), .val (.int p3), .val (.int p4), .val (.int (2 : Int32)), .val (.int (Int32.ofNat n)), .val (.ref b229), .val (.ref b238), .val (.int (1 : Int32)), .val (.int (Int32.ofNat (n + 1))), .val (.int (1 : Int32)), .val (.long (Int64.ofNat n)), .second, .val (.long (Int64.ofNat n)), .second] [(.ref b238)])) rfl (by rw [hml]; rfl) (Steps.refl _) (argsL := []) (rest := []) (lenOf pd_0_1 rfl) rfl (by show 2 * 0 + _ ≤ _; exact Nat.le_of_eq rfl) (hb hby at_242) (fun _ _ => ⟨rfl, rfl, (by decide : 6 + 0 ≤ _), (by decide : 36 + 0 ≤ _)⟩)
            dsimp only [Pt.U, Pt.locs, Pt.cells, Pt.slots] at X322 l322 y322 z322 st322 hQ322
            subst l322 y322 z322
            obtain ⟨rfl, N322q, e322⟩ := hQ322
            have N322 := Fr.app N308 N322q
            refine go (fun _ k => st322.trans k) ?_
            show G (T322.setTop (mkF m 245 #[.val (.int p1), .val (.int p2), .val (.int p3), .val (.int p4), .val (.int (2 : Int32)), .val (.int (Int32.ofNat n)), .val (.ref b229), .val (.ref b238), .val (.int (1 : Int32)), .val (.int (Int32.ofNat (n + 1))), .val (.int (1 : Int32)), .val (.long (Int64.ofNat n)), .second, .val (.long (Int64.ofNat n)), .second] [(.int (emp (Int32.ofNat (n + 1))))]))
            have hc323 : (emp (Int32.ofNat (n + 1))) = (0 : Int32) := by rw [emp, if_neg (own_onne _ (by omega) (by omega))]
            refine go (fun _ k => XS.ifNo X322.here hx rfl (hb hby at_245) rfl ((if0 _ _).trans (teq hc323).2) k) ?_
            show G (T322.setTop (mkF m 248 #[.val (.int p1), .val (.int p2), .val (.int p3), .val (.int p4), .val (.int (2 : Int32)), .val (.int (Int32.ofNat n)), .val (.ref b229), .val (.ref b238), .val (.int (1 : Int32)), .val (.int (Int32.ofNat (n + 1))), .val (.int (1 : Int32)), .val (.long (Int64.ofNat n)), .second, .val (.long (Int64.ofNat n)), .second] []))
            refine go (fun _ k => XS.iconst X322.here hx rfl (hb hby at_248) k) ?_
            show G (T322.setTop (mkF m 249 #[.val (.int p1), .val (.int p2), .val (.int p3), .val (.int p4), .val (.int (2 : Int32)), .val (.int (Int32.ofNat n)), .val (.ref b229), .val (.ref b238), .val (.int (1 : Int32)), .val (.int (Int32.ofNat (n + 1))), .val (.int (1 : Int32)), .val (.long (Int64.ofNat n)), .second, .val (.long (Int64.ofNat n)), .second] [(.int (1 : Int32))]))
            refine go (fun _ k => XS.goto X322.here hx rfl (pc0 := 249) (pc' := 253) rfl (hb hby at_249) (by decide) (by decide) k) ?_
            show G (T322.setTop (mkF m 253 #[.val (.int p1), .val (.int p2), .val (.int p3), .val (.int p4), .val (.int (2 : Int32)), .val (.int (Int32.ofNat n)), .val (.ref b229), .val (.ref b238), .val (.int (1 : Int32)), .val (.int (Int32.ofNat (n + 1))), .val (.int (1 : Int32)), .val (.long (Int64.ofNat n)), .second, .val (.long (Int64.ofNat n)), .second] [(.int (1 : Int32))]))
            refine go (fun _ k => XS.istore X322.here hx rfl (hb hby at_253) rfl (l' := #[.val (.int p1), .val (.int p2), .val (.int p3), .val (.int p4), .val (.int (2 : Int32)), .val (.int (Int32.ofNat n)), .val (.ref b229), .val (.ref b238), .val (.int (1 : Int32)), .val (.int (Int32.ofNat (n + 1))), .val (.int (1 : Int32)), .val (.long (Int64.ofNat n)), .second, .val (.long (Int64.ofNat n)), .second]) rfl k) ?_
            show G (T322.setTop (mkF m 255 #[.val (.int p1), .val (.int p2), .val (.int p3), .val (.int p4), .val (.int (2 : Int32)), .val (.int (Int32.ofNat n)), .val (.ref b229), .val (.ref b238), .val (.int (1 : Int32)), .val (.int (Int32.ofNat (n + 1))), .val (.int (1 : Int32)), .val (.long (Int64.ofNat n)), .second, .val (.long (Int64.ofNat n)), .second] []))
            refine go (fun _ k => XS.iloadN X322.here hx rfl (hb hby at_255) rfl k) ?_
            show G (T322.setTop (mkF m 256 #[.val (.int p1), .val (.int p2), .val (.int p3), .val (.int p4), .val (.int (2 : Int32)), .val (.int (Int32.ofNat n)), .val (.ref b229), .val (.ref b238), .val (.int (1 : Int32)), .val (.int (Int32.ofNat (n + 1))), .val (.int (1 : Int32)), .val (.long (Int64.ofNat n)), .second, .val (.long (Int64.ofNat n)), .second] [(.int p3)]))
            refine go (fun _ k => XS.bipush X322.here hx rfl (hb hby at_256) k) ?_
            show G (T322.setTop (mkF m 258 #[.val (.int p1), .val (.int p2), .val (.int p3), .val (.int p4), .val (.int (2 : Int32)), .val (.int (Int32.ofNat n)), .val (.ref b229), .val (.ref b238), .val (.int (1 : Int32)), .val (.int (Int32.ofNat (n + 1))), .val (.int (1 : Int32)), .val (.long (Int64.ofNat n)), .second, .val (.long (Int64.ofNat n)), .second] [(.int (8 : Int32)), (.int p3)]))
            refine go (fun _ k => XS.iand X322.here hx rfl (hb hby at_258) rfl k) ?_
            show G (T322.setTop (mkF m 259 #[.val (.int p1), .val (.int p2), .val (.int p3), .val (.int p4), .val (.int (2 : Int32)), .val (.int (Int32.ofNat n)), .val (.ref b229), .val (.ref b238), .val (.int (1 : Int32)), .val (.int (Int32.ofNat (n + 1))), .val (.int (1 : Int32)), .val (.long (Int64.ofNat n)), .second, .val (.long (Int64.ofNat n)), .second] [(.int (p3 &&& (8 : Int32)))]))
            by_cases hc259_324 : (p3 &&& (8 : Int32)) = (0 : Int32)
            · refine go (fun _ k => XS.ifYes X322.here hx rfl (pc0 := 259) (pc' := 302) rfl (hb hby at_259) rfl ((if0 _ _).trans (teq hc259_324).1) (by decide) (by decide) k) ?_
              show G (T322.setTop (mkF m 302 #[.val (.int p1), .val (.int p2), .val (.int p3), .val (.int p4), .val (.int (2 : Int32)), .val (.int (Int32.ofNat n)), .val (.ref b229), .val (.ref b238), .val (.int (1 : Int32)), .val (.int (Int32.ofNat (n + 1))), .val (.int (1 : Int32)), .val (.long (Int64.ofNat n)), .second, .val (.long (Int64.ofNat n)), .second] []))
              refine go (fun _ k => XS.iload X322.here hx rfl (hb hby at_302) rfl k) ?_
              show G (T322.setTop (mkF m 304 #[.val (.int p1), .val (.int p2), .val (.int p3), .val (.int p4), .val (.int (2 : Int32)), .val (.int (Int32.ofNat n)), .val (.ref b229), .val (.ref b238), .val (.int (1 : Int32)), .val (.int (Int32.ofNat (n + 1))), .val (.int (1 : Int32)), .val (.long (Int64.ofNat n)), .second, .val (.long (Int64.ofNat n)), .second] [(.int (1 : Int32))]))
              rw [hG]
              refine own_fin X322 Bd.notSynchronized (v := some (.int (1 : Int32))) (fun h => by rw [Bd.returns] at h; cases h) (fun fs hr => retOut X322 hx Bd.returns rfl (by simp [FieldType.isReference, Value.isRef]) (hb hby at_304) hr) ?_ (by decide) (by decide)
              show Q0 Z p1 p2 p3 p4 h0 n0 (some (.int (1 : Int32))) T322.heap _
              rw [e322]
              exact ⟨rfl, N322⟩
            · refine go (fun _ k => XS.ifNo X322.here hx rfl (hb hby at_259) rfl ((if0 _ _).trans (feq hc259_324).1) k) ?_
              show G (T322.setTop (mkF m 262 #[.val (.int p1), .val (.int p2), .val (.int p3), .val (.int p4), .val (.int (2 : Int32)), .val (.int (Int32.ofNat n)), .val (.ref b229), .val (.ref b238), .val (.int (1 : Int32)), .val (.int (Int32.ofNat (n + 1))), .val (.int (1 : Int32)), .val (.long (Int64.ofNat n)), .second, .val (.long (Int64.ofNat n)), .second] []))
              refine go (fun _ k => XS.aload X322.here hx rfl (hb hby at_262) rfl rfl k) ?_
              show G (T322.setTop (mkF m 264 #[.val (.int p1), .val (.int p2), .val (.int p3), .val (.int p4), .val (.int (2 : Int32)), .val (.int (Int32.ofNat n)), .val (.ref b229), .val (.ref b238), .val (.int (1 : Int32)), .val (.int (Int32.ofNat (n + 1))), .val (.int (1 : Int32)), .val (.long (Int64.ofNat n)), .second, .val (.long (Int64.ofNat n)), .second] [(.ref b238)]))
              refine go (fun _ k => XS.lload X322.here hx rfl (hb hby at_264) rfl k) ?_
              show G (T322.setTop (mkF m 266 #[.val (.int p1), .val (.int p2), .val (.int p3), .val (.int p4), .val (.int (2 : Int32)), .val (.int (Int32.ofNat n)), .val (.ref b229), .val (.ref b238), .val (.int (1 : Int32)), .val (.int (Int32.ofNat (n + 1))), .val (.int (1 : Int32)), .val (.long (Int64.ofNat n)), .second, .val (.long (Int64.ofNat n)), .second] [(.long (Int64.ofNat n)), (.ref b238)]))
              obtain ⟨cq325, kq325, qa325, qb325, qc325⟩ := isOf hZ e322 f311
              obtain ⟨_, _, ⟨T325, L325, k325, n325⟩, -, X325, ⟨Lc325, hQ325, l325, y325, z325⟩, st325⟩ := X322.virtualBack hx (y := (⟨"com/example/kerros/kerros/store/SortedChunks", "remove", "(J)V"⟩ : MethodName)) (z := (⟨"com/example/kerros/kerros/store/SortedChunks", "remove", "(J)V"⟩ : MethodName)) hown (mvT hZ (hw _ (List.mem_of_getElem? (i := 101) rfl))) (mvT hZ (hw _ (List.mem_of_getElem? (i := 102) rfl))) (notFace_of_selects (args := #[]) (mvT hZ (hw _ (List.mem_of_getElem? (i := 104) rfl)))) (mvT hZ (hw _ (List.mem_of_getElem? (i := 104) rfl))) (mvT hZ (hw _ (List.mem_of_getElem? (i := 103) rfl))) (by decide) (backOf (W := 0) (rm17w2 l Z a0 hw [] b238 n ca241 ck241 wx297 kc241 kx297 (n + 1) dx297 T308.heap n0 Zs308 f312 f313 f314 f315 f316 f318 f319 c308_0 f320 ne_b238_ck241 ne_b238_wx297 c241_3 ne_ca241_wx297 ne_ck241_wx297 g_ck241 g_wx297 (by omega) (by omega) (by omega)) hZ (hw _ (List.mem_of_getElem? (i := 105) rfl)) (hw _ (List.mem_of_getElem? (i := 6) rfl)) (by decide) (by decide)) qa325 qc325 (g := (mkF m 266 #[.val (.int p1), .val (.int p2), .val (.int p3), .val (.int p4), .val (.int (2 : Int32)), .val (.int (Int32.ofNat n)), .val (.ref b229), .val (.ref b238), .val (.int (1 : Int32)), .val (.int (Int32.ofNat (n + 1))), .val (.int (1 : Int32)), .val (.long (Int64.ofNat n)), .second, .val (.long (Int64.ofNat n)), .second] [(.long (Int64.ofNat n)), (.ref b238)])) rfl (by rw [hml]; rfl) (Steps.refl _) (argsL := [(.long (Int64.ofNat n))]) (rest := []) (lenOf pd_0_4 rfl) rfl (by show 2 * 0 + _ ≤ _; exact Nat.le_of_eq rfl) (hb hby at_266) (fun _ _ => ⟨rfl, e322, (by decide : 6 + 0 ≤ _), (by decide : 36 + 0 ≤ _)⟩)
              dsimp only [Pt.U, Pt.locs, Pt.cells, Pt.slots] at X325 l325 y325 z325 st325 hQ325
              subst l325 y325 z325
              obtain ⟨rfl, N325q, Kc325, c325_0, c325_1, c325_2⟩ := hQ325
              have f326 := f309.keep Kc325
              have f327 := f310.keep Kc325 (ninS ne_b229_ck241 (ninS ne_b229_wx297 nin0))
              have f328 := f311.keep Kc325
              have f329 := f312.keep Kc325 (ninS ne_b238_ck241 (ninS ne_b238_wx297 nin0))
              have f330 := f313.keep Kc325 (ninS ne_b238_ck241 (ninS ne_b238_wx297 nin0))
              have f331 := f314.keep Kc325 (ninS ne_b238_ck241 (ninS ne_b238_wx297 nin0))
              have f332 := f315.keep Kc325 (ninS c241_3 (ninS ne_ca241_wx297 nin0))
              have f333 := f316.keep Kc325
              have f334 := f317.keep Kc325
              have f335 := f320.keep Kc325
              have Zs325 : n0 ≤ T325.heap.size := Nat.le_trans Zs308 Kc325.1
              have N325 := Fr.app N322 N325q
              refine go (fun _ k => st325.trans k) ?_
              show G (T325.setTop (mkF m 269 #[.val (.int p1), .val (.int p2), .val (.int p3), .val (.int p4), .val (.int (2 : Int32)), .val (.int (Int32.ofNat n)), .val (.ref b229), .val (.ref b238), .val (.int (1 : Int32)), .val (.int (Int32.ofNat (n + 1))), .val (.int (1 : Int32)), .val (.long (Int64.ofNat n)), .second, .val (.long (Int64.ofNat n)), .second] []))
              refine go (fun _ k => XS.iinc X325.here hx rfl (hb hby at_269) rfl (l' := #[.val (.int p1), .val (.int p2), .val (.int p3), .val (.int p4), .val (.int (2 : Int32)), .val (.int (Int32.ofNat n)), .val (.ref b229), .val (.ref b238), .val (.int (1 : Int32)), .val (.int ((Int32.ofNat (n + 1)) + (-1 : Int32))), .val (.int (1 : Int32)), .val (.long (Int64.ofNat n)), .second, .val (.long (Int64.ofNat n)), .second]) rfl k) ?_
              show G (T325.setTop (mkF m 272 #[.val (.int p1), .val (.int p2), .val (.int p3), .val (.int p4), .val (.int (2 : Int32)), .val (.int (Int32.ofNat n)), .val (.ref b229), .val (.ref b238), .val (.int (1 : Int32)), .val (.int ((Int32.ofNat (n + 1)) + (-1 : Int32))), .val (.int (1 : Int32)), .val (.long (Int64.ofNat n)), .second, .val (.long (Int64.ofNat n)), .second] []))
              rw [show ((Int32.ofNat (n + 1)) + (-1 : Int32)) = (Int32.ofNat ((n + 1) - 1)) from own_ondec (n + 1) (by omega)]
              show G (T325.setTop (mkF m 272 #[.val (.int p1), .val (.int p2), .val (.int p3), .val (.int p4), .val (.int (2 : Int32)), .val (.int (Int32.ofNat n)), .val (.ref b229), .val (.ref b238), .val (.int (1 : Int32)), .val (.int (Int32.ofNat ((n + 1) - 1))), .val (.int (1 : Int32)), .val (.long (Int64.ofNat n)), .second, .val (.long (Int64.ofNat n)), .second] []))
              refine go (fun _ k => XS.iload X325.here hx rfl (hb hby at_272) rfl k) ?_
              show G (T325.setTop (mkF m 274 #[.val (.int p1), .val (.int p2), .val (.int p3), .val (.int p4), .val (.int (2 : Int32)), .val (.int (Int32.ofNat n)), .val (.ref b229), .val (.ref b238), .val (.int (1 : Int32)), .val (.int (Int32.ofNat ((n + 1) - 1))), .val (.int (1 : Int32)), .val (.long (Int64.ofNat n)), .second, .val (.long (Int64.ofNat n)), .second] [(.int (1 : Int32))]))
              have hc336 : ¬ ((1 : Int32) = (0 : Int32)) := (by decide)
              refine go (fun _ k => XS.ifNo X325.here hx rfl (hb hby at_274) rfl ((if0 _ _).trans (feq hc336).1) k) ?_
              show G (T325.setTop (mkF m 277 #[.val (.int p1), .val (.int p2), .val (.int p3), .val (.int p4), .val (.int (2 : Int32)), .val (.int (Int32.ofNat n)), .val (.ref b229), .val (.ref b238), .val (.int (1 : Int32)), .val (.int (Int32.ofNat ((n + 1) - 1))), .val (.int (1 : Int32)), .val (.long (Int64.ofNat n)), .second, .val (.long (Int64.ofNat n)), .second] []))
              refine go (fun _ k => XS.aload X325.here hx rfl (hb hby at_277) rfl rfl k) ?_
              show G (T325.setTop (mkF m 279 #[.val (.int p1), .val (.int p2), .val (.int p3), .val (.int p4), .val (.int (2 : Int32)), .val (.int (Int32.ofNat n)), .val (.ref b229), .val (.ref b238), .val (.int (1 : Int32)), .val (.int (Int32.ofNat ((n + 1) - 1))), .val (.int (1 : Int32)), .val (.long (Int64.ofNat n)), .second, .val (.long (Int64.ofNat n)), .second] [(.ref b238)]))
              obtain ⟨cq337, kq337, qa337, qb337, qc337⟩ := isOf hZ rfl f328
              obtain ⟨_, _, ⟨T337, L337, k337, n337⟩, -, X337, ⟨Lc337, hQ337, l337, y337, z337⟩, st337⟩ := X325.virtualBack hx (y := (⟨"com/example/kerros/kerros/store/SortedChunks", "isEmpty", "()Z"⟩ : MethodName)) (z := (⟨"com/example/kerros/kerros/store/SortedChunks", "isEmpty", "()Z"⟩ : MethodName)) hown (mvT hZ (hw _ (List.mem_of_getElem? (i := 54) rfl))) (mvT hZ (hw _ (List.mem_of_getElem? (i := 55) rfl))) (notFace_of_selects (args := #[]) (mvT hZ (hw _ (List.mem_of_getElem? (i := 57) rfl)))) (mvT hZ (hw _ (List.mem_of_getElem? (i := 57) rfl))) (mvT hZ (hw _ (List.mem_of_getElem? (i := 56) rfl))) (by decide) (backOf (W := 0) (rm9 l Z a0 hw [] b238 ca241 ck241 kc241 (Int32.ofNat ((n + 1) - 1)) T325.heap n0 Zs325 f331 f332 c325_1) hZ (hw _ (List.mem_of_getElem? (i := 58) rfl)) (hw _ (List.mem_of_getElem? (i := 6) rfl)) (by decide) (by decide)) qa337 qc337 (g := (mkF m 279 #[.val (.int p1), .val (.int p2), .val (.int p3), .val (.int p4), .val (.int (2 : Int32)), .val (.int (Int32.ofNat n)), .val (.ref b229), .val (.ref b238), .val (.int (1 : Int32)), .val (.int (Int32.ofNat ((n + 1) - 1))), .val (.int (1 : Int32)), .val (.long (Int64.ofNat n)), .second, .val (.long (Int64.ofNat n)), .second] [(.ref b238)])) rfl (by rw [hml]; rfl) (Steps.refl _) (argsL := []) (rest := []) (lenOf pd_0_1 rfl) rfl (by show 2 * 0 + _ ≤ _; exact Nat.le_of_eq rfl) (hb hby at_279) (fun _ _ => ⟨rfl, rfl, (by decide : 6 + 0 ≤ _), (by decide : 36 + 0 ≤ _)⟩)
              dsimp only [Pt.U, Pt.locs, Pt.cells, Pt.slots] at X337 l337 y337 z337 st337 hQ337
              subst l337 y337 z337
              obtain ⟨rfl, N337q, e337⟩ := hQ337
              have N337 := Fr.app N325 N337q
              refine go (fun _ k => st337.trans k) ?_
              show G (T337.setTop (mkF m 282 #[.val (.int p1), .val (.int p2), .val (.int p3), .val (.int p4), .val (.int (2 : Int32)), .val (.int (Int32.ofNat n)), .val (.ref b229), .val (.ref b238), .val (.int (1 : Int32)), .val (.int (Int32.ofNat ((n + 1) - 1))), .val (.int (1 : Int32)), .val (.long (Int64.ofNat n)), .second, .val (.long (Int64.ofNat n)), .second] [(.int (emp (Int32.ofNat ((n + 1) - 1))))]))
              have J300_338 : G (T337.setTop (mkF m 300 #[.val (.int p1), .val (.int p2), .val (.int p3), .val (.int p4), .val (.int (2 : Int32)), .val (.int (Int32.ofNat n)), .val (.ref b229), .val (.ref b238), .val (.int (1 : Int32)), .val (.int (Int32.ofNat ((n + 1) - 1))), .val (.int (1 : Int32)), .val (.long (Int64.ofNat n)), .second, .val (.long (Int64.ofNat n)), .second] [(.int (1 : Int32))])) := by
                refine go (fun _ k => XS.istore X337.here hx rfl (hb hby at_300) rfl (l' := #[.val (.int p1), .val (.int p2), .val (.int p3), .val (.int p4), .val (.int (2 : Int32)), .val (.int (Int32.ofNat n)), .val (.ref b229), .val (.ref b238), .val (.int (1 : Int32)), .val (.int (Int32.ofNat ((n + 1) - 1))), .val (.int (1 : Int32)), .val (.long (Int64.ofNat n)), .second, .val (.long (Int64.ofNat n)), .second]) rfl k) ?_
                show G (T337.setTop (mkF m 302 #[.val (.int p1), .val (.int p2), .val (.int p3), .val (.int p4), .val (.int (2 : Int32)), .val (.int (Int32.ofNat n)), .val (.ref b229), .val (.ref b238), .val (.int (1 : Int32)), .val (.int (Int32.ofNat ((n + 1) - 1))), .val (.int (1 : Int32)), .val (.long (Int64.ofNat n)), .second, .val (.long (Int64.ofNat n)), .second] []))
                refine go (fun _ k => XS.iload X337.here hx rfl (hb hby at_302) rfl k) ?_
                show G (T337.setTop (mkF m 304 #[.val (.int p1), .val (.int p2), .val (.int p3), .val (.int p4), .val (.int (2 : Int32)), .val (.int (Int32.ofNat n)), .val (.ref b229), .val (.ref b238), .val (.int (1 : Int32)), .val (.int (Int32.ofNat ((n + 1) - 1))), .val (.int (1 : Int32)), .val (.long (Int64.ofNat n)), .second, .val (.long (Int64.ofNat n)), .second] [(.int (1 : Int32))]))
                rw [hG]
                refine own_fin X337 Bd.notSynchronized (v := some (.int (1 : Int32))) (fun h => by rw [Bd.returns] at h; cases h) (fun fs hr => retOut X337 hx Bd.returns rfl (by simp [FieldType.isReference, Value.isRef]) (hb hby at_304) hr) ?_ (by decide) (by decide)
                show Q0 Z p1 p2 p3 p4 h0 n0 (some (.int (1 : Int32))) T337.heap _
                rw [e337]
                exact ⟨rfl, N337⟩
              show G (T337.setTop (mkF m 282 #[.val (.int p1), .val (.int p2), .val (.int p3), .val (.int p4), .val (.int (2 : Int32)), .val (.int (Int32.ofNat n)), .val (.ref b229), .val (.ref b238), .val (.int (1 : Int32)), .val (.int (Int32.ofNat ((n + 1) - 1))), .val (.int (1 : Int32)), .val (.long (Int64.ofNat n)), .second, .val (.long (Int64.ofNat n)), .second] [(.int (emp (Int32.ofNat ((n + 1) - 1))))]))
              refine go (fun _ k => XS.iload X337.here hx rfl (hb hby at_282) rfl k) ?_
              show G (T337.setTop (mkF m 284 #[.val (.int p1), .val (.int p2), .val (.int p3), .val (.int p4), .val (.int (2 : Int32)), .val (.int (Int32.ofNat n)), .val (.ref b229), .val (.ref b238), .val (.int (1 : Int32)), .val (.int (Int32.ofNat ((n + 1) - 1))), .val (.int (1 : Int32)), .val (.long (Int64.ofNat n)), .second, .val (.long (Int64.ofNat n)), .second] [(.int (Int32.ofNat ((n + 1) - 1))), (.int (emp (Int32.ofNat ((n + 1) - 1))))]))
              by_cases hc284_339 : (Int32.ofNat ((n + 1) - 1)) = (0 : Int32)
              · refine go (fun _ k => XS.ifNo X337.here hx rfl (hb hby at_284) rfl ((if0 _ _).trans (teq hc284_339).2) k) ?_
                show G (T337.setTop (mkF m 287 #[.val (.int p1), .val (.int p2), .val (.int p3), .val (.int p4), .val (.int (2 : Int32)), .val (.int (Int32.ofNat n)), .val (.ref b229), .val (.ref b238), .val (.int (1 : Int32)), .val (.int (Int32.ofNat ((n + 1) - 1))), .val (.int (1 : Int32)), .val (.long (Int64.ofNat n)), .second, .val (.long (Int64.ofNat n)), .second] [(.int (emp (Int32.ofNat ((n + 1) - 1))))]))
                refine go (fun _ k => XS.iconst X337.here hx rfl (hb hby at_287) k) ?_
                show G (T337.setTop (mkF m 288 #[.val (.int p1), .val (.int p2), .val (.int p3), .val (.int p4), .val (.int (2 : Int32)), .val (.int (Int32.ofNat n)), .val (.ref b229), .val (.ref b238), .val (.int (1 : Int32)), .val (.int (Int32.ofNat ((n + 1) - 1))), .val (.int (1 : Int32)), .val (.long (Int64.ofNat n)), .second, .val (.long (Int64.ofNat n)), .second] [(.int (1 : Int32)), (.int (emp (Int32.ofNat ((n + 1) - 1))))]))
                refine go (fun _ k => XS.goto X337.here hx rfl (pc0 := 288) (pc' := 292) rfl (hb hby at_288) (by decide) (by decide) k) ?_
                show G (T337.setTop (mkF m 292 #[.val (.int p1), .val (.int p2), .val (.int p3), .val (.int p4), .val (.int (2 : Int32)), .val (.int (Int32.ofNat n)), .val (.ref b229), .val (.ref b238), .val (.int (1 : Int32)), .val (.int (Int32.ofNat ((n + 1) - 1))), .val (.int (1 : Int32)), .val (.long (Int64.ofNat n)), .second, .val (.long (Int64.ofNat n)), .second] [(.int (1 : Int32)), (.int (emp (Int32.ofNat ((n + 1) - 1))))]))
                have hc340 : (emp (Int32.ofNat ((n + 1) - 1))) = (1 : Int32) := by rw [emp, if_pos hc284_339]
                refine go (fun _ k => XS.icmpNo X337.here hx rfl (hb hby at_292) rfl (teq hc340).2 k) ?_
                show G (T337.setTop (mkF m 295 #[.val (.int p1), .val (.int p2), .val (.int p3), .val (.int p4), .val (.int (2 : Int32)), .val (.int (Int32.ofNat n)), .val (.ref b229), .val (.ref b238), .val (.int (1 : Int32)), .val (.int (Int32.ofNat ((n + 1) - 1))), .val (.int (1 : Int32)), .val (.long (Int64.ofNat n)), .second, .val (.long (Int64.ofNat n)), .second] []))
                refine go (fun _ k => XS.iconst X337.here hx rfl (hb hby at_295) k) ?_
                show G (T337.setTop (mkF m 296 #[.val (.int p1), .val (.int p2), .val (.int p3), .val (.int p4), .val (.int (2 : Int32)), .val (.int (Int32.ofNat n)), .val (.ref b229), .val (.ref b238), .val (.int (1 : Int32)), .val (.int (Int32.ofNat ((n + 1) - 1))), .val (.int (1 : Int32)), .val (.long (Int64.ofNat n)), .second, .val (.long (Int64.ofNat n)), .second] [(.int (1 : Int32))]))
                refine go (fun _ k => XS.goto X337.here hx rfl (pc0 := 296) (pc' := 300) rfl (hb hby at_296) (by decide) (by decide) k) ?_
                show G (T337.setTop (mkF m 300 #[.val (.int p1), .val (.int p2), .val (.int p3), .val (.int p4), .val (.int (2 : Int32)), .val (.int (Int32.ofNat n)), .val (.ref b229), .val (.ref b238), .val (.int (1 : Int32)), .val (.int (Int32.ofNat ((n + 1) - 1))), .val (.int (1 : Int32)), .val (.long (Int64.ofNat n)), .second, .val (.long (Int64.ofNat n)), .second] [(.int (1 : Int32))]))
                exact J300_338
              · refine go (fun _ k => XS.ifYes X337.here hx rfl (pc0 := 284) (pc' := 291) rfl (hb hby at_284) rfl ((if0 _ _).trans (feq hc284_339).2) (by decide) (by decide) k) ?_
                show G (T337.setTop (mkF m 291 #[.val (.int p1), .val (.int p2), .val (.int p3), .val (.int p4), .val (.int (2 : Int32)), .val (.int (Int32.ofNat n)), .val (.ref b229), .val (.ref b238), .val (.int (1 : Int32)), .val (.int (Int32.ofNat ((n + 1) - 1))), .val (.int (1 : Int32)), .val (.long (Int64.ofNat n)), .second, .val (.long (Int64.ofNat n)), .second] [(.int (emp (Int32.ofNat ((n + 1) - 1))))]))
                refine go (fun _ k => XS.iconst X337.here hx rfl (hb hby at_291) k) ?_
                show G (T337.setTop (mkF m 292 #[.val (.int p1), .val (.int p2), .val (.int p3), .val (.int p4), .val (.int (2 : Int32)), .val (.int (Int32.ofNat n)), .val (.ref b229), .val (.ref b238), .val (.int (1 : Int32)), .val (.int (Int32.ofNat ((n + 1) - 1))), .val (.int (1 : Int32)), .val (.long (Int64.ofNat n)), .second, .val (.long (Int64.ofNat n)), .second] [(.int (0 : Int32)), (.int (emp (Int32.ofNat ((n + 1) - 1))))]))
                have hc341 : (emp (Int32.ofNat ((n + 1) - 1))) = (0 : Int32) := by rw [emp, if_neg hc284_339]
                refine go (fun _ k => XS.icmpNo X337.here hx rfl (hb hby at_292) rfl (teq hc341).2 k) ?_
                show G (T337.setTop (mkF m 295 #[.val (.int p1), .val (.int p2), .val (.int p3), .val (.int p4), .val (.int (2 : Int32)), .val (.int (Int32.ofNat n)), .val (.ref b229), .val (.ref b238), .val (.int (1 : Int32)), .val (.int (Int32.ofNat ((n + 1) - 1))), .val (.int (1 : Int32)), .val (.long (Int64.ofNat n)), .second, .val (.long (Int64.ofNat n)), .second] []))
                refine go (fun _ k => XS.iconst X337.here hx rfl (hb hby at_295) k) ?_
                show G (T337.setTop (mkF m 296 #[.val (.int p1), .val (.int p2), .val (.int p3), .val (.int p4), .val (.int (2 : Int32)), .val (.int (Int32.ofNat n)), .val (.ref b229), .val (.ref b238), .val (.int (1 : Int32)), .val (.int (Int32.ofNat ((n + 1) - 1))), .val (.int (1 : Int32)), .val (.long (Int64.ofNat n)), .second, .val (.long (Int64.ofNat n)), .second] [(.int (1 : Int32))]))
                refine go (fun _ k => XS.goto X337.here hx rfl (pc0 := 296) (pc' := 300) rfl (hb hby at_296) (by decide) (by decide) k) ?_
                show G (T337.setTop (mkF m 300 #[.val (.int p1), .val (.int p2), .val (.int p3), .val (.int p4), .val (.int (2 : Int32)), .val (.int (Int32.ofNat n)), .val (.ref b229), .val (.ref b238), .val (.int (1 : Int32)), .val (.int (Int32.ofNat ((n + 1) - 1))), .val (.int (1 : Int32)), .val (.long (Int64.ofNat n)), .second, .val (.long (Int64.ofNat n)), .second] [(.int (1 : Int32))]))
                exact J300_338
      show G (T245.setTop (mkF m 107 #[.val (.int p1), .val (.int p2), .val (.int p3), .val (.int p4), .val (.int (2 : Int32)), .val (.int (Int32.ofNat n)), .val (.ref b229), .val (.ref b238), .val (.int (1 : Int32)), .val (.int (Int32.ofNat n)), .unset, .unset, .unset, .unset, .unset] []))
      refine go (fun _ k => XS.iloadN X245.here hx rfl (hb hby at_107) rfl k) ?_
      show G (T245.setTop (mkF m 108 #[.val (.int p1), .val (.int p2), .val (.int p3), .val (.int p4), .val (.int (2 : Int32)), .val (.int (Int32.ofNat n)), .val (.ref b229), .val (.ref b238), .val (.int (1 : Int32)), .val (.int (Int32.ofNat n)), .unset, .unset, .unset, .unset, .unset] [(.int p3)]))
      refine go (fun _ k => XS.iconst X245.here hx rfl (hb hby at_108) k) ?_
      show G (T245.setTop (mkF m 109 #[.val (.int p1), .val (.int p2), .val (.int p3), .val (.int p4), .val (.int (2 : Int32)), .val (.int (Int32.ofNat n)), .val (.ref b229), .val (.ref b238), .val (.int (1 : Int32)), .val (.int (Int32.ofNat n)), .unset, .unset, .unset, .unset, .unset] [(.int (1 : Int32)), (.int p3)]))
      refine go (fun _ k => XS.iand X245.here hx rfl (hb hby at_109) rfl k) ?_
      show G (T245.setTop (mkF m 110 #[.val (.int p1), .val (.int p2), .val (.int p3), .val (.int p4), .val (.int (2 : Int32)), .val (.int (Int32.ofNat n)), .val (.ref b229), .val (.ref b238), .val (.int (1 : Int32)), .val (.int (Int32.ofNat n)), .unset, .unset, .unset, .unset, .unset] [(.int (p3 &&& (1 : Int32)))]))
      by_cases hc110_342 : (p3 &&& (1 : Int32)) = (0 : Int32)
      · refine go (fun _ k => XS.ifYes X245.here hx rfl (pc0 := 110) (pc' := 168) rfl (hb hby at_110) rfl ((if0 _ _).trans (teq hc110_342).1) (by decide) (by decide) k) ?_
        show G (T245.setTop (mkF m 168 #[.val (.int p1), .val (.int p2), .val (.int p3), .val (.int p4), .val (.int (2 : Int32)), .val (.int (Int32.ofNat n)), .val (.ref b229), .val (.ref b238), .val (.int (1 : Int32)), .val (.int (Int32.ofNat n)), .unset, .unset, .unset, .unset, .unset] []))
        exact J168_247
      · refine go (fun _ k => XS.ifNo X245.here hx rfl (hb hby at_110) rfl ((if0 _ _).trans (feq hc110_342).1) k) ?_
        show G (T245.setTop (mkF m 113 #[.val (.int p1), .val (.int p2), .val (.int p3), .val (.int p4), .val (.int (2 : Int32)), .val (.int (Int32.ofNat n)), .val (.ref b229), .val (.ref b238), .val (.int (1 : Int32)), .val (.int (Int32.ofNat n)), .unset, .unset, .unset, .unset, .unset] []))
        refine go (fun _ k => XS.iload X245.here hx rfl (hb hby at_113) rfl k) ?_
        show G (T245.setTop (mkF m 115 #[.val (.int p1), .val (.int p2), .val (.int p3), .val (.int p4), .val (.int (2 : Int32)), .val (.int (Int32.ofNat n)), .val (.ref b229), .val (.ref b238), .val (.int (1 : Int32)), .val (.int (Int32.ofNat n)), .unset, .unset, .unset, .unset, .unset] [(.int (Int32.ofNat n))]))
        by_cases hc115_343 : (0 : Int32) < (Int32.ofNat n)
        · refine go (fun _ k => XS.ifNo X245.here hx rfl (hb hby at_115) rfl ((if0 _ _).trans (tlt hc115_343).2.2.2) k) ?_
          show G (T245.setTop (mkF m 118 #[.val (.int p1), .val (.int p2), .val (.int p3), .val (.int p4), .val (.int (2 : Int32)), .val (.int (Int32.ofNat n)), .val (.ref b229), .val (.ref b238), .val (.int (1 : Int32)), .val (.int (Int32.ofNat n)), .unset, .unset, .unset, .unset, .unset] []))
          have hnp : 0 < n := (own_onlt (x := 0) (by omega) (by omega)).mp hc115_343
          refine go (fun _ k => XS.iloadN X245.here hx rfl (hb hby at_118) rfl k) ?_
          show G (T245.setTop (mkF m 119 #[.val (.int p1), .val (.int p2), .val (.int p3), .val (.int p4), .val (.int (2 : Int32)), .val (.int (Int32.ofNat n)), .val (.ref b229), .val (.ref b238), .val (.int (1 : Int32)), .val (.int (Int32.ofNat n)), .unset, .unset, .unset, .unset, .unset] [(.int p4)]))
          refine go (X245.ldcInt hx hown (mvT hZ (hw _ (List.mem_of_getElem? (i := 0) rfl))) (g := (mkF m 119 #[.val (.int p1), .val (.int p2), .val (.int p3), .val (.int p4), .val (.int (2 : Int32)), .val (.int (Int32.ofNat n)), .val (.ref b229), .val (.ref b238), .val (.int (1 : Int32)), .val (.int (Int32.ofNat n)), .unset, .unset, .unset, .unset, .unset] [(.int p4)])) rfl (hb hby at_119)) ?_
          show G (T245.setTop (mkF m 121 #[.val (.int p1), .val (.int p2), .val (.int p3), .val (.int p4), .val (.int (2 : Int32)), .val (.int (Int32.ofNat n)), .val (.ref b229), .val (.ref b238), .val (.int (1 : Int32)), .val (.int (Int32.ofNat n)), .unset, .unset, .unset, .unset, .unset] [(.int (2147483647 : Int32)), (.int p4)]))
          refine go (fun _ k => XS.iand X245.here hx rfl (hb hby at_121) rfl k) ?_
          show G (T245.setTop (mkF m 122 #[.val (.int p1), .val (.int p2), .val (.int p3), .val (.int p4), .val (.int (2 : Int32)), .val (.int (Int32.ofNat n)), .val (.ref b229), .val (.ref b238), .val (.int (1 : Int32)), .val (.int (Int32.ofNat n)), .unset, .unset, .unset, .unset, .unset] [(.int (p4 &&& (2147483647 : Int32)))]))
          refine go (fun _ k => XS.iload X245.here hx rfl (hb hby at_122) rfl k) ?_
          show G (T245.setTop (mkF m 124 #[.val (.int p1), .val (.int p2), .val (.int p3), .val (.int p4), .val (.int (2 : Int32)), .val (.int (Int32.ofNat n)), .val (.ref b229), .val (.ref b238), .val (.int (1 : Int32)), .val (.int (Int32.ofNat n)), .unset, .unset, .unset, .unset, .unset] [(.int (Int32.ofNat n)), (.int (p4 &&& (2147483647 : Int32)))]))
          refine go (fun _ k => iremM X245 hx rfl (hb hby at_124) rfl (own_onne n hnp (by omega)) k) ?_
          show G (T245.setTop (mkF m 125 #[.val (.int p1), .val (.int p2), .val (.int p3), .val (.int p4), .val (.int (2 : Int32)), .val (.int (Int32.ofNat n)), .val (.ref b229), .val (.ref b238), .val (.int (1 : Int32)), .val (.int (Int32.ofNat n)), .unset, .unset, .unset, .unset, .unset] [(.int ((p4 &&& (2147483647 : Int32)) % (Int32.ofNat n)))]))
          refine go (fun _ k => XS.istore X245.here hx rfl (hb hby at_125) rfl (l' := #[.val (.int p1), .val (.int p2), .val (.int p3), .val (.int p4), .val (.int (2 : Int32)), .val (.int (Int32.ofNat n)), .val (.ref b229), .val (.ref b238), .val (.int (1 : Int32)), .val (.int (Int32.ofNat n)), .val (.int ((p4 &&& (2147483647 : Int32)) % (Int32.ofNat n))), .unset, .unset, .unset, .unset]) rfl k) ?_
          show G (T245.setTop (mkF m 127 #[.val (.int p1), .val (.int p2), .val (.int p3), .val (.int p4), .val (.int (2 : Int32)), .val (.int (Int32.ofNat n)), .val (.ref b229), .val (.ref b238), .val (.int (1 : Int32)), .val (.int (Int32.ofNat n)), .val (.int ((p4 &&& (2147483647 : Int32)) % (Int32.ofNat n))), .unset, .unset, .unset, .unset] []))
          obtain ⟨i, hi, hie⟩ := own_rem p4 n hnp (by omega)
          rw [show ((p4 &&& (2147483647 : Int32)) % (Int32.ofNat n)) = (Int32.ofNat i) from hie]
          show G (T245.setTop (mkF m 127 #[.val (.int p1), .val (.int p2), .val (.int p3), .val (.int p4), .val (.int (2 : Int32)), .val (.int (Int32.ofNat n)), .val (.ref b229), .val (.ref b238), .val (.int (1 : Int32)), .val (.int (Int32.ofNat n)), .val (.int (Int32.ofNat i)), .unset, .unset, .unset, .unset] []))
          refine go (fun _ k => XS.aload X245.here hx rfl (hb hby at_127) rfl rfl k) ?_
          show G (T245.setTop (mkF m 129 #[.val (.int p1), .val (.int p2), .val (.int p3), .val (.int p4), .val (.int (2 : Int32)), .val (.int (Int32.ofNat n)), .val (.ref b229), .val (.ref b238), .val (.int (1 : Int32)), .val (.int (Int32.ofNat n)), .val (.int (Int32.ofNat i)), .unset, .unset, .unset, .unset] [(.ref b238)]))
          refine go (fun _ k => XS.iload X245.here hx rfl (hb hby at_129) rfl k) ?_
          show G (T245.setTop (mkF m 131 #[.val (.int p1), .val (.int p2), .val (.int p3), .val (.int p4), .val (.int (2 : Int32)), .val (.int (Int32.ofNat n)), .val (.ref b229), .val (.ref b238), .val (.int (1 : Int32)), .val (.int (Int32.ofNat n)), .val (.int (Int32.ofNat i)), .unset, .unset, .unset, .unset] [(.int (Int32.ofNat i)), (.ref b238)]))
          refine go (fun _ k => XS.i2l X245.here hx rfl (hb hby at_131) rfl k) ?_
          show G (T245.setTop (mkF m 132 #[.val (.int p1), .val (.int p2), .val (.int p3), .val (.int p4), .val (.int (2 : Int32)), .val (.int (Int32.ofNat n)), .val (.ref b229), .val (.ref b238), .val (.int (1 : Int32)), .val (.int (Int32.ofNat n)), .val (.int (Int32.ofNat i)), .unset, .unset, .unset, .unset] [(.long ((Int32.ofNat i).toInt64)), (.ref b238)]))
          rw [show ((Int32.ofNat i).toInt64) = (Int64.ofNat i) from own_i2l i (by omega)]
          show G (T245.setTop (mkF m 132 #[.val (.int p1), .val (.int p2), .val (.int p3), .val (.int p4), .val (.int (2 : Int32)), .val (.int (Int32.ofNat n)), .val (.ref b229), .val (.ref b238), .val (.int (1 : Int32)), .val (.int (Int32.ofNat n)), .val (.int (Int32.ofNat i)), .unset, .unset, .unset, .unset] [(.long (Int64.ofNat i)), (.ref b238)]))
          obtain ⟨cq344, kq344, qa344, qb344, qc344⟩ := isOf hZ e245 f244
          obtain ⟨_, _, ⟨T344, L344, k344, n344⟩, -, X344, ⟨Lc344, hQ344, l344, y344, z344⟩, st344⟩ := X245.virtualBack hx (y := (⟨"com/example/kerros/kerros/store/SortedChunks", "remove", "(J)V"⟩ : MethodName)) (z := (⟨"com/example/kerros/kerros/store/SortedChunks", "remove", "(J)V"⟩ : MethodName)) hown (mvT hZ (hw _ (List.mem_of_getElem? (i := 101) rfl))) (mvT hZ (hw _ (List.mem_of_getElem? (i := 102) rfl))) (notFace_of_selects (args := #[]) (mvT hZ (hw _ (List.mem_of_getElem? (i := 104) rfl)))) (mvT hZ (hw _ (List.mem_of_getElem? (i := 104) rfl))) (mvT hZ (hw _ (List.mem_of_getElem? (i := 103) rfl))) (by decide) (backOf (W := 0) (rm17w2 l Z a0 hw [] b238 i ca241 ck241 wa241 kc241 kw241 n cb241 T241.heap n0 Zs241 c241_6 c241_7 c241_8 c241_9 c241_10 c241_11 c241_12 c241_13 c241_14 ne_b238_ck241 ne_b238_wa241 c241_3 c241_4 c241_5 g_ck241 g_wa241 (by omega) (by omega) (by omega)) hZ (hw _ (List.mem_of_getElem? (i := 105) rfl)) (hw _ (List.mem_of_getElem? (i := 6) rfl)) (by decide) (by decide)) qa344 qc344 (g := (mkF m 132 #[.val (.int p1), .val (.int p2), .val (.int p3), .val (.int p4), .val (.int (2 : Int32)), .val (.int (Int32.ofNat n)), .val (.ref b229), .val (.ref b238), .val (.int (1 : Int32)), .val (.int (Int32.ofNat n)), .val (.int (Int32.ofNat i)), .unset, .unset, .unset, .unset] [(.long (Int64.ofNat i)), (.ref b238)])) rfl (by rw [hml]; rfl) (Steps.refl _) (argsL := [(.long (Int64.ofNat i))]) (rest := []) (lenOf pd_0_4 rfl) rfl (by show 2 * 0 + _ ≤ _; exact Nat.le_of_eq rfl) (hb hby at_132) (fun _ _ => ⟨rfl, e245, (by decide : 5 + 0 ≤ _), (by decide : 24 + 0 ≤ _)⟩)
          dsimp only [Pt.U, Pt.locs, Pt.cells, Pt.slots] at X344 l344 y344 z344 st344 hQ344
          subst l344 y344 z344
          obtain ⟨rfl, N344q, Kc344, c344_0, c344_1, c344_2⟩ := hQ344
          have f345 := f242.keep Kc344
          have f346 := f243.keep Kc344 (ninS ne_b229_ck241 (ninS ne_b229_wa241 nin0))
          have f347 := f244.keep Kc344
          have f348 := c241_6.keep Kc344 (ninS ne_b238_ck241 (ninS ne_b238_wa241 nin0))
          have f349 := c241_7.keep Kc344 (ninS ne_b238_ck241 (ninS ne_b238_wa241 nin0))
          have f350 := c241_8.keep Kc344 (ninS ne_b238_ck241 (ninS ne_b238_wa241 nin0))
          have f351 := c241_9.keep Kc344 (ninS c241_3 (ninS c241_4 nin0))
          have f352 := c241_10.keep Kc344
          have f353 := c241_14.keep Kc344
          have Zs344 : n0 ≤ T344.heap.size := Nat.le_trans Zs241 Kc344.1
          have N344 := Fr.app N245 N344q
          refine go (fun _ k => st344.trans k) ?_
          show G (T344.setTop (mkF m 135 #[.val (.int p1), .val (.int p2), .val (.int p3), .val (.int p4), .val (.int (2 : Int32)), .val (.int (Int32.ofNat n)), .val (.ref b229), .val (.ref b238), .val (.int (1 : Int32)), .val (.int (Int32.ofNat n)), .val (.int (Int32.ofNat i)), .unset, .unset, .unset, .unset] []))
          refine go (fun _ k => XS.iinc X344.here hx rfl (hb hby at_135) rfl (l' := #[.val (.int p1), .val (.int p2), .val (.int p3), .val (.int p4), .val (.int (2 : Int32)), .val (.int (Int32.ofNat n)), .val (.ref b229), .val (.ref b238), .val (.int (1 : Int32)), .val (.int ((Int32.ofNat n) + (-1 : Int32))), .val (.int (Int32.ofNat i)), .unset, .unset, .unset, .unset]) rfl k) ?_
          show G (T344.setTop (mkF m 138 #[.val (.int p1), .val (.int p2), .val (.int p3), .val (.int p4), .val (.int (2 : Int32)), .val (.int (Int32.ofNat n)), .val (.ref b229), .val (.ref b238), .val (.int (1 : Int32)), .val (.int ((Int32.ofNat n) + (-1 : Int32))), .val (.int (Int32.ofNat i)), .unset, .unset, .unset, .unset] []))
          rw [show ((Int32.ofNat n) + (-1 : Int32)) = (Int32.ofNat (n - 1)) from own_ondec n (by omega)]
          show G (T344.setTop (mkF m 138 #[.val (.int p1), .val (.int p2), .val (.int p3), .val (.int p4), .val (.int (2 : Int32)), .val (.int (Int32.ofNat n)), .val (.ref b229), .val (.ref b238), .val (.int (1 : Int32)), .val (.int (Int32.ofNat (n - 1))), .val (.int (Int32.ofNat i)), .unset, .unset, .unset, .unset] []))
          refine go (fun _ k => XS.iload X344.here hx rfl (hb hby at_138) rfl k) ?_
          show G (T344.setTop (mkF m 140 #[.val (.int p1), .val (.int p2), .val (.int p3), .val (.int p4), .val (.int (2 : Int32)), .val (.int (Int32.ofNat n)), .val (.ref b229), .val (.ref b238), .val (.int (1 : Int32)), .val (.int (Int32.ofNat (n - 1))), .val (.int (Int32.ofNat i)), .unset, .unset, .unset, .unset] [(.int (1 : Int32))]))
          have hc354 : ¬ ((1 : Int32) = (0 : Int32)) := (by decide)
          refine go (fun _ k => XS.ifNo X344.here hx rfl (hb hby at_140) rfl ((if0 _ _).trans (feq hc354).1) k) ?_
          show G (T344.setTop (mkF m 143 #[.val (.int p1), .val (.int p2), .val (.int p3), .val (.int p4), .val (.int (2 : Int32)), .val (.int (Int32.ofNat n)), .val (.ref b229), .val (.ref b238), .val (.int (1 : Int32)), .val (.int (Int32.ofNat (n - 1))), .val (.int (Int32.ofNat i)), .unset, .unset, .unset, .unset] []))
          refine go (fun _ k => XS.aload X344.here hx rfl (hb hby at_143) rfl rfl k) ?_
          show G (T344.setTop (mkF m 145 #[.val (.int p1), .val (.int p2), .val (.int p3), .val (.int p4), .val (.int (2 : Int32)), .val (.int (Int32.ofNat n)), .val (.ref b229), .val (.ref b238), .val (.int (1 : Int32)), .val (.int (Int32.ofNat (n - 1))), .val (.int (Int32.ofNat i)), .unset, .unset, .unset, .unset] [(.ref b238)]))
          obtain ⟨cq355, kq355, qa355, qb355, qc355⟩ := isOf hZ rfl f347
          obtain ⟨_, _, ⟨T355, L355, k355, n355⟩, -, X355, ⟨Lc355, hQ355, l355, y355, z355⟩, st355⟩ := X344.virtualBack hx (y := (⟨"com/example/kerros/kerros/store/SortedChunks", "isEmpty", "()Z"⟩ : MethodName)) (z := (⟨"com/example/kerros/kerros/store/SortedChunks", "isEmpty", "()Z"⟩ : MethodName)) hown (mvT hZ (hw _ (List.mem_of_getElem? (i := 54) rfl))) (mvT hZ (hw _ (List.mem_of_getElem? (i := 55) rfl))) (notFace_of_selects (args := #[]) (mvT hZ (hw _ (List.mem_of_getElem? (i := 57) rfl)))) (mvT hZ (hw _ (List.mem_of_getElem? (i := 57) rfl))) (mvT hZ (hw _ (List.mem_of_getElem? (i := 56) rfl))) (by decide) (backOf (W := 0) (rm9 l Z a0 hw [] b238 ca241 ck241 kc241 (Int32.ofNat (n - 1)) T344.heap n0 Zs344 f350 f351 c344_1) hZ (hw _ (List.mem_of_getElem? (i := 58) rfl)) (hw _ (List.mem_of_getElem? (i := 6) rfl)) (by decide) (by decide)) qa355 qc355 (g := (mkF m 145 #[.val (.int p1), .val (.int p2), .val (.int p3), .val (.int p4), .val (.int (2 : Int32)), .val (.int (Int32.ofNat n)), .val (.ref b229), .val (.ref b238), .val (.int (1 : Int32)), .val (.int (Int32.ofNat (n - 1))), .val (.int (Int32.ofNat i)), .unset, .unset, .unset, .unset] [(.ref b238)])) rfl (by rw [hml]; rfl) (Steps.refl _) (argsL := []) (rest := []) (lenOf pd_0_1 rfl) rfl (by show 2 * 0 + _ ≤ _; exact Nat.le_of_eq rfl) (hb hby at_145) (fun _ _ => ⟨rfl, rfl, (by decide : 5 + 0 ≤ _), (by decide : 24 + 0 ≤ _)⟩)
          dsimp only [Pt.U, Pt.locs, Pt.cells, Pt.slots] at X355 l355 y355 z355 st355 hQ355
          subst l355 y355 z355
          obtain ⟨rfl, N355q, e355⟩ := hQ355
          have N355 := Fr.app N344 N355q
          refine go (fun _ k => st355.trans k) ?_
          show G (T355.setTop (mkF m 148 #[.val (.int p1), .val (.int p2), .val (.int p3), .val (.int p4), .val (.int (2 : Int32)), .val (.int (Int32.ofNat n)), .val (.ref b229), .val (.ref b238), .val (.int (1 : Int32)), .val (.int (Int32.ofNat (n - 1))), .val (.int (Int32.ofNat i)), .unset, .unset, .unset, .unset] [(.int (emp (Int32.ofNat (n - 1))))]))
          have J166_356 : G (T355.setTop (mkF m 166 #[.val (.int p1), .val (.int p2), .val (.int p3), .val (.int p4), .val (.int (2 : Int32)), .val (.int (Int32.ofNat n)), .val (.ref b229), .val (.ref b238), .val (.int (1 : Int32)), .val (.int (Int32.ofNat (n - 1))), .val (.int (Int32.ofNat i)), .unset, .unset, .unset, .unset] [(.int (1 : Int32))])) := by
            refine go (fun _ k => XS.istore X355.here hx rfl (hb hby at_166) rfl (l' := #[.val (.int p1), .val (.int p2), .val (.int p3), .val (.int p4), .val (.int (2 : Int32)), .val (.int (Int32.ofNat n)), .val (.ref b229), .val (.ref b238), .val (.int (1 : Int32)), .val (.int (Int32.ofNat (n - 1))), .val (.int (Int32.ofNat i)), .unset, .unset, .unset, .unset]) rfl k) ?_
            show G (T355.setTop (mkF m 168 #[.val (.int p1), .val (.int p2), .val (.int p3), .val (.int p4), .val (.int (2 : Int32)), .val (.int (Int32.ofNat n)), .val (.ref b229), .val (.ref b238), .val (.int (1 : Int32)), .val (.int (Int32.ofNat (n - 1))), .val (.int (Int32.ofNat i)), .unset, .unset, .unset, .unset] []))
            refine go (fun _ k => XS.iloadN X355.here hx rfl (hb hby at_168) rfl k) ?_
            show G (T355.setTop (mkF m 169 #[.val (.int p1), .val (.int p2), .val (.int p3), .val (.int p4), .val (.int (2 : Int32)), .val (.int (Int32.ofNat n)), .val (.ref b229), .val (.ref b238), .val (.int (1 : Int32)), .val (.int (Int32.ofNat (n - 1))), .val (.int (Int32.ofNat i)), .unset, .unset, .unset, .unset] [(.int p3)]))
            refine go (fun _ k => XS.iconst X355.here hx rfl (hb hby at_169) k) ?_
            show G (T355.setTop (mkF m 170 #[.val (.int p1), .val (.int p2), .val (.int p3), .val (.int p4), .val (.int (2 : Int32)), .val (.int (Int32.ofNat n)), .val (.ref b229), .val (.ref b238), .val (.int (1 : Int32)), .val (.int (Int32.ofNat (n - 1))), .val (.int (Int32.ofNat i)), .unset, .unset, .unset, .unset] [(.int (2 : Int32)), (.int p3)]))
            refine go (fun _ k => XS.iand X355.here hx rfl (hb hby at_170) rfl k) ?_
            show G (T355.setTop (mkF m 171 #[.val (.int p1), .val (.int p2), .val (.int p3), .val (.int p4), .val (.int (2 : Int32)), .val (.int (Int32.ofNat n)), .val (.ref b229), .val (.ref b238), .val (.int (1 : Int32)), .val (.int (Int32.ofNat (n - 1))), .val (.int (Int32.ofNat i)), .unset, .unset, .unset, .unset] [(.int (p3 &&& (2 : Int32)))]))
            by_cases hc171_357 : (p3 &&& (2 : Int32)) = (0 : Int32)
            · refine go (fun _ k => XS.ifYes X355.here hx rfl (pc0 := 171) (pc' := 302) rfl (hb hby at_171) rfl ((if0 _ _).trans (teq hc171_357).1) (by decide) (by decide) k) ?_
              show G (T355.setTop (mkF m 302 #[.val (.int p1), .val (.int p2), .val (.int p3), .val (.int p4), .val (.int (2 : Int32)), .val (.int (Int32.ofNat n)), .val (.ref b229), .val (.ref b238), .val (.int (1 : Int32)), .val (.int (Int32.ofNat (n - 1))), .val (.int (Int32.ofNat i)), .unset, .unset, .unset, .unset] []))
              refine go (fun _ k => XS.iload X355.here hx rfl (hb hby at_302) rfl k) ?_
              show G (T355.setTop (mkF m 304 #[.val (.int p1), .val (.int p2), .val (.int p3), .val (.int p4), .val (.int (2 : Int32)), .val (.int (Int32.ofNat n)), .val (.ref b229), .val (.ref b238), .val (.int (1 : Int32)), .val (.int (Int32.ofNat (n - 1))), .val (.int (Int32.ofNat i)), .unset, .unset, .unset, .unset] [(.int (1 : Int32))]))
              rw [hG]
              refine own_fin X355 Bd.notSynchronized (v := some (.int (1 : Int32))) (fun h => by rw [Bd.returns] at h; cases h) (fun fs hr => retOut X355 hx Bd.returns rfl (by simp [FieldType.isReference, Value.isRef]) (hb hby at_304) hr) ?_ (by decide) (by decide)
              show Q0 Z p1 p2 p3 p4 h0 n0 (some (.int (1 : Int32))) T355.heap _
              rw [e355]
              exact ⟨rfl, N355⟩
            · refine go (fun _ k => XS.ifNo X355.here hx rfl (hb hby at_171) rfl ((if0 _ _).trans (feq hc171_357).1) k) ?_
              show G (T355.setTop (mkF m 174 #[.val (.int p1), .val (.int p2), .val (.int p3), .val (.int p4), .val (.int (2 : Int32)), .val (.int (Int32.ofNat n)), .val (.ref b229), .val (.ref b238), .val (.int (1 : Int32)), .val (.int (Int32.ofNat (n - 1))), .val (.int (Int32.ofNat i)), .unset, .unset, .unset, .unset] []))
              refine go (fun _ k => XS.iloadN X355.here hx rfl (hb hby at_174) rfl k) ?_
              show G (T355.setTop (mkF m 175 #[.val (.int p1), .val (.int p2), .val (.int p3), .val (.int p4), .val (.int (2 : Int32)), .val (.int (Int32.ofNat n)), .val (.ref b229), .val (.ref b238), .val (.int (1 : Int32)), .val (.int (Int32.ofNat (n - 1))), .val (.int (Int32.ofNat i)), .unset, .unset, .unset, .unset] [(.int p3)]))
              refine go (fun _ k => XS.iconst X355.here hx rfl (hb hby at_175) k) ?_
              show G (T355.setTop (mkF m 176 #[.val (.int p1), .val (.int p2), .val (.int p3), .val (.int p4), .val (.int (2 : Int32)), .val (.int (Int32.ofNat n)), .val (.ref b229), .val (.ref b238), .val (.int (1 : Int32)), .val (.int (Int32.ofNat (n - 1))), .val (.int (Int32.ofNat i)), .unset, .unset, .unset, .unset] [(.int (4 : Int32)), (.int p3)]))
              refine go (fun _ k => XS.iand X355.here hx rfl (hb hby at_176) rfl k) ?_
              show G (T355.setTop (mkF m 177 #[.val (.int p1), .val (.int p2), .val (.int p3), .val (.int p4), .val (.int (2 : Int32)), .val (.int (Int32.ofNat n)), .val (.ref b229), .val (.ref b238), .val (.int (1 : Int32)), .val (.int (Int32.ofNat (n - 1))), .val (.int (Int32.ofNat i)), .unset, .unset, .unset, .unset] [(.int (p3 &&& (4 : Int32)))]))
              by_cases hc177_358 : (p3 &&& (4 : Int32)) = (0 : Int32)
              · refine go (fun _ k => XS.ifYes X355.here hx rfl (pc0 := 177) (pc' := 184) rfl (hb hby at_177) rfl ((if0 _ _).trans (teq hc177_358).1) (by decide) (by decide) k) ?_
                show G (T355.setTop (mkF m 184 #[.val (.int p1), .val (.int p2), .val (.int p3), .val (.int p4), .val (.int (2 : Int32)), .val (.int (Int32.ofNat n)), .val (.ref b229), .val (.ref b238), .val (.int (1 : Int32)), .val (.int (Int32.ofNat (n - 1))), .val (.int (Int32.ofNat i)), .unset, .unset, .unset, .unset] []))
                refine go (fun _ k => XS.iconst X355.here hx rfl (hb hby at_184) k) ?_
                show G (T355.setTop (mkF m 185 #[.val (.int p1), .val (.int p2), .val (.int p3), .val (.int p4), .val (.int (2 : Int32)), .val (.int (Int32.ofNat n)), .val (.ref b229), .val (.ref b238), .val (.int (1 : Int32)), .val (.int (Int32.ofNat (n - 1))), .val (.int (Int32.ofNat i)), .unset, .unset, .unset, .unset] [(.int (0 : Int32))]))
                refine go (fun _ k => XS.istore X355.here hx rfl (hb hby at_185) rfl (l' := #[.val (.int p1), .val (.int p2), .val (.int p3), .val (.int p4), .val (.int (2 : Int32)), .val (.int (Int32.ofNat n)), .val (.ref b229), .val (.ref b238), .val (.int (1 : Int32)), .val (.int (Int32.ofNat (n - 1))), .val (.int (0 : Int32)), .unset, .unset, .unset, .unset]) rfl k) ?_
                show G (T355.setTop (mkF m 187 #[.val (.int p1), .val (.int p2), .val (.int p3), .val (.int p4), .val (.int (2 : Int32)), .val (.int (Int32.ofNat n)), .val (.ref b229), .val (.ref b238), .val (.int (1 : Int32)), .val (.int (Int32.ofNat (n - 1))), .val (.int (0 : Int32)), .unset, .unset, .unset, .unset] []))
                refine go (fun _ k => XS.iload X355.here hx rfl (hb hby at_187) rfl k) ?_
                show G (T355.setTop (mkF m 189 #[.val (.int p1), .val (.int p2), .val (.int p3), .val (.int p4), .val (.int (2 : Int32)), .val (.int (Int32.ofNat n)), .val (.ref b229), .val (.ref b238), .val (.int (1 : Int32)), .val (.int (Int32.ofNat (n - 1))), .val (.int (0 : Int32)), .unset, .unset, .unset, .unset] [(.int (0 : Int32))]))
                have hc359 : (0 : Int32) = (0 : Int32) := rfl
                refine go (fun _ k => XS.ifYes X355.here hx rfl (pc0 := 189) (pc' := 198) rfl (hb hby at_189) rfl ((if0 _ _).trans (teq hc359).1) (by decide) (by decide) k) ?_
                show G (T355.setTop (mkF m 198 #[.val (.int p1), .val (.int p2), .val (.int p3), .val (.int p4), .val (.int (2 : Int32)), .val (.int (Int32.ofNat n)), .val (.ref b229), .val (.ref b238), .val (.int (1 : Int32)), .val (.int (Int32.ofNat (n - 1))), .val (.int (0 : Int32)), .unset, .unset, .unset, .unset] []))
                refine go (fun _ k => XS.lconst X355.here hx rfl (hb hby at_198) k) ?_
                show G (T355.setTop (mkF m 199 #[.val (.int p1), .val (.int p2), .val (.int p3), .val (.int p4), .val (.int (2 : Int32)), .val (.int (Int32.ofNat n)), .val (.ref b229), .val (.ref b238), .val (.int (1 : Int32)), .val (.int (Int32.ofNat (n - 1))), .val (.int (0 : Int32)), .unset, .unset, .unset, .unset] [(.long (0 : Int64))]))
                refine go (fun _ k => XS.lstore X355.here hx rfl (hb hby at_199) rfl (l' := #[.val (.int p1), .val (.int p2), .val (.int p3), .val (.int p4), .val (.int (2 : Int32)), .val (.int (Int32.ofNat n)), .val (.ref b229), .val (.ref b238), .val (.int (1 : Int32)), .val (.int (Int32.ofNat (n - 1))), .val (.int (0 : Int32)), .val (.long (0 : Int64)), .second, .unset, .unset]) rfl k) ?_
                show G (T355.setTop (mkF m 201 #[.val (.int p1), .val (.int p2), .val (.int p3), .val (.int p4), .val (.int (2 : Int32)), .val (.int (Int32.ofNat n)), .val (.ref b229), .val (.ref b238), .val (.int (1 : Int32)), .val (.int (Int32.ofNat (n - 1))), .val (.int (0 : Int32)), .val (.long (0 : Int64)), .second, .unset, .unset] []))
                refine go (fun _ k => XS.aload X355.here hx rfl (hb hby at_201) rfl rfl k) ?_
                show G (T355.setTop (mkF m 203 #[.val (.int p1), .val (.int p2), .val (.int p3), .val (.int p4), .val (.int (2 : Int32)), .val (.int (Int32.ofNat n)), .val (.ref b229), .val (.ref b238), .val (.int (1 : Int32)), .val (.int (Int32.ofNat (n - 1))), .val (.int (0 : Int32)), .val (.long (0 : Int64)), .second, .unset, .unset] [(.ref b238)]))
                refine go (fun _ k => XS.lload X355.here hx rfl (hb hby at_203) rfl k) ?_
                show G (T355.setTop (mkF m 205 #[.val (.int p1), .val (.int p2), .val (.int p3), .val (.int p4), .val (.int (2 : Int32)), .val (.int (Int32.ofNat n)), .val (.ref b229), .val (.ref b238), .val (.int (1 : Int32)), .val (.int (Int32.ofNat (n - 1))), .val (.int (0 : Int32)), .val (.long (0 : Int64)), .second, .unset, .unset] [(.long (0 : Int64)), (.ref b238)]))
                obtain ⟨cq360, kq360, qa360, qb360, qc360⟩ := isOf hZ e355 f347
                obtain ⟨_, _, ⟨T360, L360, k360, n360⟩, -, X360, ⟨Lc360, hQ360, l360, y360, z360⟩, st360⟩ := X355.virtualBack hx (y := (⟨"com/example/kerros/kerros/store/SortedChunks", "insert", "(J)J"⟩ : MethodName)) (z := (⟨"com/example/kerros/kerros/store/SortedChunks", "insert", "(J)J"⟩ : MethodName)) hown (mvT hZ (hw _ (List.mem_of_getElem? (i := 60) rfl))) (mvT hZ (hw _ (List.mem_of_getElem? (i := 61) rfl))) (notFace_of_selects (args := #[]) (mvT hZ (hw _ (List.mem_of_getElem? (i := 63) rfl)))) (mvT hZ (hw _ (List.mem_of_getElem? (i := 63) rfl))) (mvT hZ (hw _ (List.mem_of_getElem? (i := 62) rfl))) (by decide) (backOf (W := 0) (rm10w2 l Z a0 hw [] b238 0 ca241 ck241 wa241 kc241 kw241 (n - 1) cb241 T344.heap n0 Zs344 f348 f349 f350 f351 f352 c344_0 c344_1 c344_2 f353 ne_b238_ck241 ne_b238_wa241 c241_3 c241_4 c241_5 g_ck241 g_wa241 (by omega) (by omega) (by omega) (by omega)) hZ (hw _ (List.mem_of_getElem? (i := 64) rfl)) (hw _ (List.mem_of_getElem? (i := 6) rfl)) (by decide) (by decide)) qa360 qc360 (g := (mkF m 205 #[.val (.int p1), .val (.int p2), .val (.int p3), .val (.int p4), .val (.int (2 : Int32)), .val (.int (Int32.ofNat n)), .val (.ref b229), .val (.ref b238), .val (.int (1 : Int32)), .val (.int (Int32.ofNat (n - 1))), .val (.int (0 : Int32)), .val (.long (0 : Int64)), .second, .unset, .unset] [(.long (0 : Int64)), (.ref b238)])) rfl (by rw [hml]; rfl) (Steps.refl _) (argsL := [(.long (0 : Int64))]) (rest := []) (lenOf pd_0_2 rfl) rfl (by show 2 * 0 + _ ≤ _; exact Nat.le_of_eq rfl) (hb hby at_205) (fun _ _ => ⟨rfl, e355, (by decide : 5 + 1 ≤ _), (by decide : 24 + 12 ≤ _)⟩)
                dsimp only [Pt.U, Pt.locs, Pt.cells, Pt.slots] at X360 l360 y360 z360 st360 hQ360
                subst l360 y360 z360
                obtain ⟨wx360, kx360, dx360, rfl, N360q, Kc360, c360_0, c360_1, c360_2, c360_3, c360_4, c360_5, c360_6⟩ := hQ360
                have ne_b229_wx360 : b229 ≠ wx360 := c360_0.elim (fun q => by rw [q]; exact ne_b229_wa241) (fun q => Nat.ne_of_lt (Nat.lt_of_lt_of_le f345.lt q))
                have ne_b238_wx360 : b238 ≠ wx360 := c360_0.elim (fun q => by rw [q]; exact ne_b238_wa241) (fun q => Nat.ne_of_lt (Nat.lt_of_lt_of_le f347.lt q))
                have ne_ca241_wx360 : ca241 ≠ wx360 := c360_0.elim (fun q => by rw [q]; exact c241_4) (fun q => Nat.ne_of_lt (Nat.lt_of_lt_of_le f351.lt q))
                have ne_ck241_wx360 : ck241 ≠ wx360 := c360_0.elim (fun q => by rw [q]; exact c241_5) (fun q => Nat.ne_of_lt (Nat.lt_of_lt_of_le f352.lt q))
                have g_wx360 : n0 ≤ wx360 := c360_0.elim (fun q => by rw [q]; exact g_wa241) (fun q => Nat.le_trans Zs344 q)
                have f361 := f345.keep Kc360
                have f362 := f346.keep Kc360 (ninS ne_b229_ck241 (ninS ne_b229_wa241 nin0))
                have f363 := f347.keep Kc360
                have f364 := f348.keep Kc360 (ninS ne_b238_ck241 (ninS ne_b238_wa241 nin0))
                have f365 := f349.keep Kc360 (ninS ne_b238_ck241 (ninS ne_b238_wa241 nin0))
                have f366 := f350.keep Kc360 (ninS ne_b238_ck241 (ninS ne_b238_wa241 nin0))
                have f367 := f351.keep Kc360 (ninS c241_3 (ninS c241_4 nin0))
                have f368 := f352.keep Kc360
                have f369 := f353.keep Kc360
                have Zs360 : n0 ≤ T360.heap.size := Nat.le_trans Zs344 Kc360.1
                have N360 := Fr.app N355 N360q
                refine go (fun _ k => st360.trans k) ?_
                show G (T360.setTop (mkF m 208 #[.val (.int p1), .val (.int p2), .val (.int p3), .val (.int p4), .val (.int (2 : Int32)), .val (.int (Int32.ofNat n)), .val (.ref b229), .val (.ref b238), .val (.int (1 : Int32)), .val (.int (Int32.ofNat (n - 1))), .val (.int (0 : Int32)), .val (.long (0 : Int64)), .second, .unset, .unset] [(.long (Int64.ofNat 0))]))
                refine go (fun _ k => XS.lstore X360.here hx rfl (hb hby at_208) rfl (l' := #[.val (.int p1), .val (.int p2), .val (.int p3), .val (.int p4), .val (.int (2 : Int32)), .val (.int (Int32.ofNat n)), .val (.ref b229), .val (.ref b238), .val (.int (1 : Int32)), .val (.int (Int32.ofNat (n - 1))), .val (.int (0 : Int32)), .val (.long (0 : Int64)), .second, .val (.long (Int64.ofNat 0)), .second]) rfl k) ?_
                show G (T360.setTop (mkF m 210 #[.val (.int p1), .val (.int p2), .val (.int p3), .val (.int p4), .val (.int (2 : Int32)), .val (.int (Int32.ofNat n)), .val (.ref b229), .val (.ref b238), .val (.int (1 : Int32)), .val (.int (Int32.ofNat (n - 1))), .val (.int (0 : Int32)), .val (.long (0 : Int64)), .second, .val (.long (Int64.ofNat 0)), .second] []))
                refine go (fun _ k => XS.aload X360.here hx rfl (hb hby at_210) rfl rfl k) ?_
                show G (T360.setTop (mkF m 212 #[.val (.int p1), .val (.int p2), .val (.int p3), .val (.int p4), .val (.int (2 : Int32)), .val (.int (Int32.ofNat n)), .val (.ref b229), .val (.ref b238), .val (.int (1 : Int32)), .val (.int (Int32.ofNat (n - 1))), .val (.int (0 : Int32)), .val (.long (0 : Int64)), .second, .val (.long (Int64.ofNat 0)), .second] [(.ref b238)]))
                refine go (fun _ k => XS.lload X360.here hx rfl (hb hby at_212) rfl k) ?_
                show G (T360.setTop (mkF m 214 #[.val (.int p1), .val (.int p2), .val (.int p3), .val (.int p4), .val (.int (2 : Int32)), .val (.int (Int32.ofNat n)), .val (.ref b229), .val (.ref b238), .val (.int (1 : Int32)), .val (.int (Int32.ofNat (n - 1))), .val (.int (0 : Int32)), .val (.long (0 : Int64)), .second, .val (.long (Int64.ofNat 0)), .second] [(.long (Int64.ofNat 0)), (.ref b238)]))
                refine go (fun _ k => XS.iconst X360.here hx rfl (hb hby at_214) k) ?_
                show G (T360.setTop (mkF m 215 #[.val (.int p1), .val (.int p2), .val (.int p3), .val (.int p4), .val (.int (2 : Int32)), .val (.int (Int32.ofNat n)), .val (.ref b229), .val (.ref b238), .val (.int (1 : Int32)), .val (.int (Int32.ofNat (n - 1))), .val (.int (0 : Int32)), .val (.long (0 : Int64)), .second, .val (.long (Int64.ofNat 0)), .second] [(.int (0 : Int32)), (.long (Int64.ofNat 0)), (.ref b238)]))
                refine go (fun _ k => XS.iload X360.here hx rfl (hb hby at_215) rfl k) ?_
                show G (T360.setTop (mkF m 217 #[.val (.int p1), .val (.int p2), .val (.int p3), .val (.int p4), .val (.int (2 : Int32)), .val (.int (Int32.ofNat n)), .val (.ref b229), .val (.ref b238), .val (.int (1 : Int32)), .val (.int (Int32.ofNat (n - 1))), .val (.int (0 : Int32)), .val (.long (0 : Int64)), .second, .val (.long (Int64.ofNat 0)), .second] [(.int (0 : Int32)), (.int (0 : Int32)), (.long (Int64.ofNat 0)), (.ref b238)]))
                have hc370 : (0 : Int32) = (0 : Int32) := rfl
                refine go (fun _ k => XS.ifYes X360.here hx rfl (pc0 := 217) (pc' := 226) rfl (hb hby at_217) rfl ((if0 _ _).trans (teq hc370).1) (by decide) (by decide) k) ?_
                show G (T360.setTop (mkF m 226 #[.val (.int p1), .val (.int p2), .val (.int p3), .val (.int p4), .val (.int (2 : Int32)), .val (.int (Int32.ofNat n)), .val (.ref b229), .val (.ref b238), .val (.int (1 : Int32)), .val (.int (Int32.ofNat (n - 1))), .val (.int (0 : Int32)), .val (.long (0 : Int64)), .second, .val (.long (Int64.ofNat 0)), .second] [(.int (0 : Int32)), (.long (Int64.ofNat 0)), (.ref b238)]))
                refine go (X360.ldc2Long hx hown (mvT hZ (hw _ (List.mem_of_getElem? (i := 85) rfl))) (g := (mkF m 226 #[.val (.int p1), .val (.int p2), .val (.int p3), .val (.int p4), .val (.int (2 : Int32)), .val (.int (Int32.ofNat n)), .val (.ref b229), .val (.ref b238), .val (.int (1 : Int32)), .val (.int (Int32.ofNat (n - 1))), .val (.int (0 : Int32)), .val (.long (0 : Int64)), .second, .val (.long (Int64.ofNat 0)), .second] [(.int (0 : Int32)), (.long (Int64.ofNat 0)), (.ref b238)])) rfl (hb hby at_226)) ?_
                show G (T360.setTop (mkF m 229 #[.val (.int p1), .val (.int p2), .val (.int p3), .val (.int p4), .val (.int (2 : Int32)), .val (.int (Int32.ofNat n)), .val (.ref b229), .val (.ref b238), .val (.int (1 : Int32)), .val (.int (Int32.ofNat (n - 1))), .val (.int (0 : Int32)), .val (.long (0 : Int64)), .second, .val (.long (Int64.ofNat 0)), .second] [(.long (-1 : Int64)), (.int (0 : Int32)), (.long (Int64.ofNat 0)), (.ref b238)]))
                obtain ⟨cq371, kq371, qa371, qb371, qc371⟩ := isOf hZ rfl f363
                obtain ⟨_, _, ⟨T371, L371, k371, n371⟩, -, X371, ⟨Lc371, hQ371, l371, y371, z371⟩, st371⟩ := X360.virtualBack hx (y := (⟨"com/example/kerros/kerros/store/SortedChunks", "setWord", "(JIJ)V"⟩ : MethodName)) (z := (⟨"com/example/kerros/kerros/store/SortedChunks", "setWord", "(JIJ)V"⟩ : MethodName)) hown (mvT hZ (hw _ (List.mem_of_getElem? (i := 86) rfl))) (mvT hZ (hw _ (List.mem_of_getElem? (i := 87) rfl))) (notFace_of_selects (args := #[]) (mvT hZ (hw _ (List.mem_of_getElem? (i := 89) rfl)))) (mvT hZ (hw _ (List.mem_of_getElem? (i := 89) rfl))) (mvT hZ (hw _ (List.mem_of_getElem? (i := 88) rfl))) (by decide) (backOf (W := 0) (rm16w2 l Z a0 hw [] b238 (-1 : Int64) 0 ca241 ck241 wx360 kc241 kx360 ((n - 1) + 1) dx360 T360.heap n0 Zs360 f364 f365 f366 f367 f368 c360_1 c360_2 c360_3 c360_4 ne_b238_ck241 ne_b238_wx360 c241_3 ne_ca241_wx360 ne_ck241_wx360 g_ck241 g_wx360 (by omega) (by omega) (by omega)) hZ (hw _ (List.mem_of_getElem? (i := 90) rfl)) (hw _ (List.mem_of_getElem? (i := 6) rfl)) (by decide) (by decide)) qa371 qc371 (g := (mkF m 229 #[.val (.int p1), .val (.int p2), .val (.int p3), .val (.int p4), .val (.int (2 : Int32)), .val (.int (Int32.ofNat n)), .val (.ref b229), .val (.ref b238), .val (.int (1 : Int32)), .val (.int (Int32.ofNat (n - 1))), .val (.int (0 : Int32)), .val (.long (0 : Int64)), .second, .val (.long (Int64.ofNat 0)), .second] [(.long (-1 : Int64)), (.int (0 : Int32)), (.long (Int64.ofNat 0)), (.ref b238)])) rfl (by rw [hml]; rfl) (Steps.refl _) (argsL := [(.long (Int64.ofNat 0)), (.int (0 : Int32)), (.long (-1 : Int64))]) (rest := []) (lenOf pd_0_3 rfl) rfl (by show 2 * 0 + _ ≤ _; exact Nat.le_of_eq rfl) (hb hby at_229) (fun _ _ => ⟨rfl, rfl, (by decide : 6 + 0 ≤ _), (by decide : 36 + 0 ≤ _)⟩)
                dsimp only [Pt.U, Pt.locs, Pt.cells, Pt.slots] at X371 l371 y371 z371 st371 hQ371
                subst l371 y371 z371
                obtain ⟨rfl, N371q, Kc371, c371_0⟩ := hQ371
                have f372 := f361.keep Kc371
                have f373 := f362.keep Kc371 (ninS ne_b229_wx360 nin0)
                have f374 := f363.keep Kc371
                have f375 := f364.keep Kc371 (ninS ne_b238_wx360 nin0)
                have f376 := f365.keep Kc371 (ninS ne_b238_wx360 nin0)
                have f377 := f366.keep Kc371 (ninS ne_b238_wx360 nin0)
                have f378 := f367.keep Kc371 (ninS ne_ca241_wx360 nin0)
                have f379 := f368.keep Kc371
                have f380 := f369.keep Kc371
                have f381 := c360_1.keep Kc371 (ninS ne_ck241_wx360 nin0)
                have f382 := c360_2.keep Kc371 (ninS ne_ck241_wx360 nin0)
                have f383 := c360_4.keep Kc371
                have Zs371 : n0 ≤ T371.heap.size := Nat.le_trans Zs360 Kc371.1
                have N371 := Fr.app N360 N371q
                refine go (fun _ k => st371.trans k) ?_
                show G (T371.setTop (mkF m 232 #[.val (.int p1), .val (.int p2), .val (.int p3), .val (.int p4), .val (.int (2 : Int32)), .val (.int (Int32.ofNat n)), .val (.ref b229), .val (.ref b238), .val (.int (1 : Int32)), .val (.int (Int32.ofNat (n - 1))), .val (.int (0 : Int32)), .val (.long (0 : Int64)), .second, .val (.long (Int64.ofNat 0)), .second] []))
                refine go (fun _ k => XS.iinc X371.here hx rfl (hb hby at_232) rfl (l' := #[.val (.int p1), .val (.int p2), .val (.int p3), .val (.int p4), .val (.int (2 : Int32)), .val (.int (Int32.ofNat n)), .val (.ref b229), .val (.ref b238), .val (.int (1 : Int32)), .val (.int ((Int32.ofNat (n - 1)) + (1 : Int32))), .val (.int (0 : Int32)), .val (.long (0 : Int64)), .second, .val (.long (Int64.ofNat 0)), .second]) rfl k) ?_
                show G (T371.setTop (mkF m 235 #[.val (.int p1), .val (.int p2), .val (.int p3), .val (.int p4), .val (.int (2 : Int32)), .val (.int (Int32.ofNat n)), .val (.ref b229), .val (.ref b238), .val (.int (1 : Int32)), .val (.int ((Int32.ofNat (n - 1)) + (1 : Int32))), .val (.int (0 : Int32)), .val (.long (0 : Int64)), .second, .val (.long (Int64.ofNat 0)), .second] []))
                rw [show ((Int32.ofNat (n - 1)) + (1 : Int32)) = (Int32.ofNat ((n - 1) + 1)) from own_onadd (n - 1) 1]
                show G (T371.setTop (mkF m 235 #[.val (.int p1), .val (.int p2), .val (.int p3), .val (.int p4), .val (.int (2 : Int32)), .val (.int (Int32.ofNat n)), .val (.ref b229), .val (.ref b238), .val (.int (1 : Int32)), .val (.int (Int32.ofNat ((n - 1) + 1))), .val (.int (0 : Int32)), .val (.long (0 : Int64)), .second, .val (.long (Int64.ofNat 0)), .second] []))
                refine go (fun _ k => XS.iload X371.here hx rfl (hb hby at_235) rfl k) ?_
                show G (T371.setTop (mkF m 237 #[.val (.int p1), .val (.int p2), .val (.int p3), .val (.int p4), .val (.int (2 : Int32)), .val (.int (Int32.ofNat n)), .val (.ref b229), .val (.ref b238), .val (.int (1 : Int32)), .val (.int (Int32.ofNat ((n - 1) + 1))), .val (.int (0 : Int32)), .val (.long (0 : Int64)), .second, .val (.long (Int64.ofNat 0)), .second] [(.int (1 : Int32))]))
                have hc384 : ¬ ((1 : Int32) = (0 : Int32)) := (by decide)
                refine go (fun _ k => XS.ifNo X371.here hx rfl (hb hby at_237) rfl ((if0 _ _).trans (feq hc384).1) k) ?_
                show G (T371.setTop (mkF m 240 #[.val (.int p1), .val (.int p2), .val (.int p3), .val (.int p4), .val (.int (2 : Int32)), .val (.int (Int32.ofNat n)), .val (.ref b229), .val (.ref b238), .val (.int (1 : Int32)), .val (.int (Int32.ofNat ((n - 1) + 1))), .val (.int (0 : Int32)), .val (.long (0 : Int64)), .second, .val (.long (Int64.ofNat 0)), .second] []))
                refine go (fun _ k => XS.aload X371.here hx rfl (hb hby at_240) rfl rfl k) ?_
                show G (T371.setTop (mkF m 242 #[.val (.int p1), .val (.int p2), .val (.int p3), .val (.int p4), .val (.int (2 : Int32)), .val (.int (Int32.ofNat n)), .val (.ref b229), .val (.ref b238), .val (.int (1 : Int32)), .val (.int (Int32.ofNat ((n - 1) + 1))), .val (.int (0 : Int32)), .val (.long (0 : Int64)), .second, .val (.long (Int64.ofNat 0)), .second] [(.ref b238)]))
                obtain ⟨cq385, kq385, qa385, qb385, qc385⟩ := isOf hZ rfl f374
                obtain ⟨_, _, ⟨T385, L385, k385, n385⟩, -, X385, ⟨Lc385, hQ385, l385, y385, z385⟩, st385⟩ := X371.virtualBack hx (y := (⟨"com/example/kerros/kerros/store/SortedChunks", "isEmpty", "()Z"⟩ : MethodName)) (z := (⟨"com/example/kerros/kerros/store/SortedChunks", "isEmpty", "()Z"⟩ : MethodName)) hown (mvT hZ (hw _ (List.mem_of_getElem? (i := 54) rfl))) (mvT hZ (hw _ (List.mem_of_getElem? (i := 55) rfl))) (notFace_of_selects (args := #[]) (mvT hZ (hw _ (List.mem_of_getElem? (i := 57) rfl)))) (mvT hZ (hw _ (List.mem_of_getElem? (i := 57) rfl))) (mvT hZ (hw _ (List.mem_of_getElem? (i := 56) rfl))) (by decide) (backOf (W := 0) (rm9 l Z a0 hw [] b238 ca241 ck241 kc241 (Int32.ofNat ((n - 1) + 1)) T371.heap n0 Zs371 f377 f378 f382) hZ (hw _ (List.mem_of_getElem? (i := 58) rfl)) (hw _ (List.mem_of_getElem? (i := 6) rfl)) (by decide) (by decide)) qa385 qc385 (g := (mkF m 242 #[.val (.int p1), .val (.int p2), .val (.int p3), .val (.int p4), .val (.int (2 : Int32)), .val (.int (Int32.ofNat n)), .val (.ref b229), .val (.ref b238), .val (.int (1 : Int32)), .val (.int (Int32.ofNat ((n - 1) + 1))), .val (.int (0 : Int32)), .val (.long (0 : Int64)), .second, .val (.long (Int64.ofNat 0)), .second] [(.ref b238)])) rfl (by rw [hml]; rfl) (Steps.refl _) (argsL := []) (rest := []) (lenOf pd_0_1 rfl) rfl (by show 2 * 0 + _ ≤ _; exact Nat.le_of_eq rfl) (hb hby at_242) (fun _ _ => ⟨rfl, rfl, (by decide : 6 + 0 ≤ _), (by decide : 36 + 0 ≤ _)⟩)
                dsimp only [Pt.U, Pt.locs, Pt.cells, Pt.slots] at X385 l385 y385 z385 st385 hQ385
                subst l385 y385 z385
                obtain ⟨rfl, N385q, e385⟩ := hQ385
                have N385 := Fr.app N371 N385q
                refine go (fun _ k => st385.trans k) ?_
                show G (T385.setTop (mkF m 245 #[.val (.int p1), .val (.int p2), .val (.int p3), .val (.int p4), .val (.int (2 : Int32)), .val (.int (Int32.ofNat n)), .val (.ref b229), .val (.ref b238), .val (.int (1 : Int32)), .val (.int (Int32.ofNat ((n - 1) + 1))), .val (.int (0 : Int32)), .val (.long (0 : Int64)), .second, .val (.long (Int64.ofNat 0)), .second] [(.int (emp (Int32.ofNat ((n - 1) + 1))))]))
                have hc386 : (emp (Int32.ofNat ((n - 1) + 1))) = (0 : Int32) := by rw [emp, if_neg (own_onne _ (by omega) (by omega))]
                refine go (fun _ k => XS.ifNo X385.here hx rfl (hb hby at_245) rfl ((if0 _ _).trans (teq hc386).2) k) ?_
                show G (T385.setTop (mkF m 248 #[.val (.int p1), .val (.int p2), .val (.int p3), .val (.int p4), .val (.int (2 : Int32)), .val (.int (Int32.ofNat n)), .val (.ref b229), .val (.ref b238), .val (.int (1 : Int32)), .val (.int (Int32.ofNat ((n - 1) + 1))), .val (.int (0 : Int32)), .val (.long (0 : Int64)), .second, .val (.long (Int64.ofNat 0)), .second] []))
                refine go (fun _ k => XS.iconst X385.here hx rfl (hb hby at_248) k) ?_
                show G (T385.setTop (mkF m 249 #[.val (.int p1), .val (.int p2), .val (.int p3), .val (.int p4), .val (.int (2 : Int32)), .val (.int (Int32.ofNat n)), .val (.ref b229), .val (.ref b238), .val (.int (1 : Int32)), .val (.int (Int32.ofNat ((n - 1) + 1))), .val (.int (0 : Int32)), .val (.long (0 : Int64)), .second, .val (.long (Int64.ofNat 0)), .second] [(.int (1 : Int32))]))
                refine go (fun _ k => XS.goto X385.here hx rfl (pc0 := 249) (pc' := 253) rfl (hb hby at_249) (by decide) (by decide) k) ?_
                show G (T385.setTop (mkF m 253 #[.val (.int p1), .val (.int p2), .val (.int p3), .val (.int p4), .val (.int (2 : Int32)), .val (.int (Int32.ofNat n)), .val (.ref b229), .val (.ref b238), .val (.int (1 : Int32)), .val (.int (Int32.ofNat ((n - 1) + 1))), .val (.int (0 : Int32)), .val (.long (0 : Int64)), .second, .val (.long (Int64.ofNat 0)), .second] [(.int (1 : Int32))]))
                refine go (fun _ k => XS.istore X385.here hx rfl (hb hby at_253) rfl (l' := #[.val (.int p1), .val (.int p2), .val (.int p3), .val (.int p4), .val (.int (2 : Int32)), .val (.int (Int32.ofNat n)), .val (.ref b229), .val (.ref b238), .val (.int (1 : Int32)), .val (.int (Int32.ofNat ((n - 1) + 1))), .val (.int (0 : Int32)), .val (.long (0 : Int64)), .second, .val (.long (Int64.ofNat 0)), .second]) rfl k) ?_
                show G (T385.setTop (mkF m 255 #[.val (.int p1), .val (.int p2), .val (.int p3), .val (.int p4), .val (.int (2 : Int32)), .val (.int (Int32.ofNat n)), .val (.ref b229), .val (.ref b238), .val (.int (1 : Int32)), .val (.int (Int32.ofNat ((n - 1) + 1))), .val (.int (0 : Int32)), .val (.long (0 : Int64)), .second, .val (.long (Int64.ofNat 0)), .second] []))
                refine go (fun _ k => XS.iloadN X385.here hx rfl (hb hby at_255) rfl k) ?_
                show G (T385.setTop (mkF m 256 #[.val (.int p1), .val (.int p2), .val (.int p3), .val (.int p4), .val (.int (2 : Int32)), .val (.int (Int32.ofNat n)), .val (.ref b229), .val (.ref b238), .val (.int (1 : Int32)), .val (.int (Int32.ofNat ((n - 1) + 1))), .val (.int (0 : Int32)), .val (.long (0 : Int64)), .second, .val (.long (Int64.ofNat 0)), .second] [(.int p3)]))
                refine go (fun _ k => XS.bipush X385.here hx rfl (hb hby at_256) k) ?_
                show G (T385.setTop (mkF m 258 #[.val (.int p1), .val (.int p2), .val (.int p3), .val (.int p4), .val (.int (2 : Int32)), .val (.int (Int32.ofNat n)), .val (.ref b229), .val (.ref b238), .val (.int (1 : Int32)), .val (.int (Int32.ofNat ((n - 1) + 1))), .val (.int (0 : Int32)), .val (.long (0 : Int64)), .second, .val (.long (Int64.ofNat 0)), .second] [(.int (8 : Int32)), (.int p3)]))
                refine go (fun _ k => XS.iand X385.here hx rfl (hb hby at_258) rfl k) ?_
                show G (T385.setTop (mkF m 259 #[.val (.int p1), .val (.int p2), .val (.int p3), .val (.int p4), .val (.int (2 : Int32)), .val (.int (Int32.ofNat n)), .val (.ref b229), .val (.ref b238), .val (.int (1 : Int32)), .val (.int (Int32.ofNat ((n - 1) + 1))), .val (.int (0 : Int32)), .val (.long (0 : Int64)), .second, .val (.long (Int64.ofNat 0)), .second] [(.int (p3 &&& (8 : Int32)))]))
                by_cases hc259_387 : (p3 &&& (8 : Int32)) = (0 : Int32)
                · refine go (fun _ k => XS.ifYes X385.here hx rfl (pc0 := 259) (pc' := 302) rfl (hb hby at_259) rfl ((if0 _ _).trans (teq hc259_387).1) (by decide) (by decide) k) ?_
                  show G (T385.setTop (mkF m 302 #[.val (.int p1), .val (.int p2), .val (.int p3), .val (.int p4), .val (.int (2 : Int32)), .val (.int (Int32.ofNat n)), .val (.ref b229), .val (.ref b238), .val (.int (1 : Int32)), .val (.int (Int32.ofNat ((n - 1) + 1))), .val (.int (0 : Int32)), .val (.long (0 : Int64)), .second, .val (.long (Int64.ofNat 0)), .second] []))
                  refine go (fun _ k => XS.iload X385.here hx rfl (hb hby at_302) rfl k) ?_
                  show G (T385.setTop (mkF m 304 #[.val (.int p1), .val (.int p2), .val (.int p3), .val (.int p4), .val (.int (2 : Int32)), .val (.int (Int32.ofNat n)), .val (.ref b229), .val (.ref b238), .val (.int (1 : Int32)), .val (.int (Int32.ofNat ((n - 1) + 1))), .val (.int (0 : Int32)), .val (.long (0 : Int64)), .second, .val (.long (Int64.ofNat 0)), .second] [(.int (1 : Int32))]))
                  rw [hG]
                  refine own_fin X385 Bd.notSynchronized (v := some (.int (1 : Int32))) (fun h => by rw [Bd.returns] at h; cases h) (fun fs hr => retOut X385 hx Bd.returns rfl (by simp [FieldType.isReference, Value.isRef]) (hb hby at_304) hr) ?_ (by decide) (by decide)
                  show Q0 Z p1 p2 p3 p4 h0 n0 (some (.int (1 : Int32))) T385.heap _
                  rw [e385]
                  exact ⟨rfl, N385⟩
                · refine go (fun _ k => XS.ifNo X385.here hx rfl (hb hby at_259) rfl ((if0 _ _).trans (feq hc259_387).1) k) ?_
                  show G (T385.setTop (mkF m 262 #[.val (.int p1), .val (.int p2), .val (.int p3), .val (.int p4), .val (.int (2 : Int32)), .val (.int (Int32.ofNat n)), .val (.ref b229), .val (.ref b238), .val (.int (1 : Int32)), .val (.int (Int32.ofNat ((n - 1) + 1))), .val (.int (0 : Int32)), .val (.long (0 : Int64)), .second, .val (.long (Int64.ofNat 0)), .second] []))
                  refine go (fun _ k => XS.aload X385.here hx rfl (hb hby at_262) rfl rfl k) ?_
                  show G (T385.setTop (mkF m 264 #[.val (.int p1), .val (.int p2), .val (.int p3), .val (.int p4), .val (.int (2 : Int32)), .val (.int (Int32.ofNat n)), .val (.ref b229), .val (.ref b238), .val (.int (1 : Int32)), .val (.int (Int32.ofNat ((n - 1) + 1))), .val (.int (0 : Int32)), .val (.long (0 : Int64)), .second, .val (.long (Int64.ofNat 0)), .second] [(.ref b238)]))
                  refine go (fun _ k => XS.lload X385.here hx rfl (hb hby at_264) rfl k) ?_
                  show G (T385.setTop (mkF m 266 #[.val (.int p1), .val (.int p2), .val (.int p3), .val (.int p4), .val (.int (2 : Int32)), .val (.int (Int32.ofNat n)), .val (.ref b229), .val (.ref b238), .val (.int (1 : Int32)), .val (.int (Int32.ofNat ((n - 1) + 1))), .val (.int (0 : Int32)), .val (.long (0 : Int64)), .second, .val (.long (Int64.ofNat 0)), .second] [(.long (Int64.ofNat 0)), (.ref b238)]))
                  obtain ⟨cq388, kq388, qa388, qb388, qc388⟩ := isOf hZ e385 f374
                  obtain ⟨_, _, ⟨T388, L388, k388, n388⟩, -, X388, ⟨Lc388, hQ388, l388, y388, z388⟩, st388⟩ := X385.virtualBack hx (y := (⟨"com/example/kerros/kerros/store/SortedChunks", "remove", "(J)V"⟩ : MethodName)) (z := (⟨"com/example/kerros/kerros/store/SortedChunks", "remove", "(J)V"⟩ : MethodName)) hown (mvT hZ (hw _ (List.mem_of_getElem? (i := 101) rfl))) (mvT hZ (hw _ (List.mem_of_getElem? (i := 102) rfl))) (notFace_of_selects (args := #[]) (mvT hZ (hw _ (List.mem_of_getElem? (i := 104) rfl)))) (mvT hZ (hw _ (List.mem_of_getElem? (i := 104) rfl))) (mvT hZ (hw _ (List.mem_of_getElem? (i := 103) rfl))) (by decide) (backOf (W := 0) (rm17w2 l Z a0 hw [] b238 0 ca241 ck241 wx360 kc241 kx360 ((n - 1) + 1) dx360 T371.heap n0 Zs371 f375 f376 f377 f378 f379 f381 f382 c371_0 f383 ne_b238_ck241 ne_b238_wx360 c241_3 ne_ca241_wx360 ne_ck241_wx360 g_ck241 g_wx360 (by omega) (by omega) (by omega)) hZ (hw _ (List.mem_of_getElem? (i := 105) rfl)) (hw _ (List.mem_of_getElem? (i := 6) rfl)) (by decide) (by decide)) qa388 qc388 (g := (mkF m 266 #[.val (.int p1), .val (.int p2), .val (.int p3), .val (.int p4), .val (.int (2 : Int32)), .val (.int (Int32.ofNat n)), .val (.ref b229), .val (.ref b238), .val (.int (1 : Int32)), .val (.int (Int32.ofNat ((n - 1) + 1))), .val (.int (0 : Int32)), .val (.long (0 : Int64)), .second, .val (.long (Int64.ofNat 0)), .second] [(.long (Int64.ofNat 0)), (.ref b238)])) rfl (by rw [hml]; rfl) (Steps.refl _) (argsL := [(.long (Int64.ofNat 0))]) (rest := []) (lenOf pd_0_4 rfl) rfl (by show 2 * 0 + _ ≤ _; exact Nat.le_of_eq rfl) (hb hby at_266) (fun _ _ => ⟨rfl, e385, (by decide : 6 + 0 ≤ _), (by decide : 36 + 0 ≤ _)⟩)
                  dsimp only [Pt.U, Pt.locs, Pt.cells, Pt.slots] at X388 l388 y388 z388 st388 hQ388
                  subst l388 y388 z388
                  obtain ⟨rfl, N388q, Kc388, c388_0, c388_1, c388_2⟩ := hQ388
                  have f389 := f372.keep Kc388
                  have f390 := f373.keep Kc388 (ninS ne_b229_ck241 (ninS ne_b229_wx360 nin0))
                  have f391 := f374.keep Kc388
                  have f392 := f375.keep Kc388 (ninS ne_b238_ck241 (ninS ne_b238_wx360 nin0))
                  have f393 := f376.keep Kc388 (ninS ne_b238_ck241 (ninS ne_b238_wx360 nin0))
                  have f394 := f377.keep Kc388 (ninS ne_b238_ck241 (ninS ne_b238_wx360 nin0))
                  have f395 := f378.keep Kc388 (ninS c241_3 (ninS ne_ca241_wx360 nin0))
                  have f396 := f379.keep Kc388
                  have f397 := f380.keep Kc388
                  have f398 := f383.keep Kc388
                  have Zs388 : n0 ≤ T388.heap.size := Nat.le_trans Zs371 Kc388.1
                  have N388 := Fr.app N385 N388q
                  refine go (fun _ k => st388.trans k) ?_
                  show G (T388.setTop (mkF m 269 #[.val (.int p1), .val (.int p2), .val (.int p3), .val (.int p4), .val (.int (2 : Int32)), .val (.int (Int32.ofNat n)), .val (.ref b229), .val (.ref b238), .val (.int (1 : Int32)), .val (.int (Int32.ofNat ((n - 1) + 1))), .val (.int (0 : Int32)), .val (.long (0 : Int64)), .second, .val (.long (Int64.ofNat 0)), .second] []))
                  refine go (fun _ k => XS.iinc X388.here hx rfl (hb hby at_269) rfl (l' := #[.val (.int p1), .val (.int p2), .val (.int p3), .val (.int p4), .val (.int (2 : Int32)), .val (.int (Int32.ofNat n)), .val (.ref b229), .val (.ref b238), .val (.int (1 : Int32)), .val (.int ((Int32.ofNat ((n - 1) + 1)) + (-1 : Int32))), .val (.int (0 : Int32)), .val (.long (0 : Int64)), .second, .val (.long (Int64.ofNat 0)), .second]) rfl k) ?_
                  show G (T388.setTop (mkF m 272 #[.val (.int p1), .val (.int p2), .val (.int p3), .val (.int p4), .val (.int (2 : Int32)), .val (.int (Int32.ofNat n)), .val (.ref b229), .val (.ref b238), .val (.int (1 : Int32)), .val (.int ((Int32.ofNat ((n - 1) + 1)) + (-1 : Int32))), .val (.int (0 : Int32)), .val (.long (0 : Int64)), .second, .val (.long (Int64.ofNat 0)), .second] []))
                  rw [show ((Int32.ofNat ((n - 1) + 1)) + (-1 : Int32)) = (Int32.ofNat (((n - 1) + 1) - 1)) from own_ondec ((n - 1) + 1) (by omega)]
                  show G (T388.setTop (mkF m 272 #[.val (.int p1), .val (.int p2), .val (.int p3), .val (.int p4), .val (.int (2 : Int32)), .val (.int (Int32.ofNat n)), .val (.ref b229), .val (.ref b238), .val (.int (1 : Int32)), .val (.int (Int32.ofNat (((n - 1) + 1) - 1))), .val (.int (0 : Int32)), .val (.long (0 : Int64)), .second, .val (.long (Int64.ofNat 0)), .second] []))
                  refine go (fun _ k => XS.iload X388.here hx rfl (hb hby at_272) rfl k) ?_
                  show G (T388.setTop (mkF m 274 #[.val (.int p1), .val (.int p2), .val (.int p3), .val (.int p4), .val (.int (2 : Int32)), .val (.int (Int32.ofNat n)), .val (.ref b229), .val (.ref b238), .val (.int (1 : Int32)), .val (.int (Int32.ofNat (((n - 1) + 1) - 1))), .val (.int (0 : Int32)), .val (.long (0 : Int64)), .second, .val (.long (Int64.ofNat 0)), .second] [(.int (1 : Int32))]))
                  have hc399 : ¬ ((1 : Int32) = (0 : Int32)) := (by decide)
                  refine go (fun _ k => XS.ifNo X388.here hx rfl (hb hby at_274) rfl ((if0 _ _).trans (feq hc399).1) k) ?_
                  show G (T388.setTop (mkF m 277 #[.val (.int p1), .val (.int p2), .val (.int p3), .val (.int p4), .val (.int (2 : Int32)), .val (.int (Int32.ofNat n)), .val (.ref b229), .val (.ref b238), .val (.int (1 : Int32)), .val (.int (Int32.ofNat (((n - 1) + 1) - 1))), .val (.int (0 : Int32)), .val (.long (0 : Int64)), .second, .val (.long (Int64.ofNat 0)), .second] []))
                  refine go (fun _ k => XS.aload X388.here hx rfl (hb hby at_277) rfl rfl k) ?_
                  show G (T388.setTop (mkF m 279 #[.val (.int p1), .val (.int p2), .val (.int p3), .val (.int p4), .val (.int (2 : Int32)), .val (.int (Int32.ofNat n)), .val (.ref b229), .val (.ref b238), .val (.int (1 : Int32)), .val (.int (Int32.ofNat (((n - 1) + 1) - 1))), .val (.int (0 : Int32)), .val (.long (0 : Int64)), .second, .val (.long (Int64.ofNat 0)), .second] [(.ref b238)]))
                  obtain ⟨cq400, kq400, qa400, qb400, qc400⟩ := isOf hZ rfl f391
                  obtain ⟨_, _, ⟨T400, L400, k400, n400⟩, -, X400, ⟨Lc400, hQ400, l400, y400, z400⟩, st400⟩ := X388.virtualBack hx (y := (⟨"com/example/kerros/kerros/store/SortedChunks", "isEmpty", "()Z"⟩ : MethodName)) (z := (⟨"com/example/kerros/kerros/store/SortedChunks", "isEmpty", "()Z"⟩ : MethodName)) hown (mvT hZ (hw _ (List.mem_of_getElem? (i := 54) rfl))) (mvT hZ (hw _ (List.mem_of_getElem? (i := 55) rfl))) (notFace_of_selects (args := #[]) (mvT hZ (hw _ (List.mem_of_getElem? (i := 57) rfl)))) (mvT hZ (hw _ (List.mem_of_getElem? (i := 57) rfl))) (mvT hZ (hw _ (List.mem_of_getElem? (i := 56) rfl))) (by decide) (backOf (W := 0) (rm9 l Z a0 hw [] b238 ca241 ck241 kc241 (Int32.ofNat (((n - 1) + 1) - 1)) T388.heap n0 Zs388 f394 f395 c388_1) hZ (hw _ (List.mem_of_getElem? (i := 58) rfl)) (hw _ (List.mem_of_getElem? (i := 6) rfl)) (by decide) (by decide)) qa400 qc400 (g := (mkF m 279 #[.val (.int p1), .val (.int p2), .val (.int p3), .val (.int p4), .val (.int (2 : Int32)), .val (.int (Int32.ofNat n)), .val (.ref b229), .val (.ref b238), .val (.int (1 : Int32)), .val (.int (Int32.ofNat (((n - 1) + 1) - 1))), .val (.int (0 : Int32)), .val (.long (0 : Int64)), .second, .val (.long (Int64.ofNat 0)), .second] [(.ref b238)])) rfl (by rw [hml]; rfl) (Steps.refl _) (argsL := []) (rest := []) (lenOf pd_0_1 rfl) rfl (by show 2 * 0 + _ ≤ _; exact Nat.le_of_eq rfl) (hb hby at_279) (fun _ _ => ⟨rfl, rfl, (by decide : 6 + 0 ≤ _), (by decide : 36 + 0 ≤ _)⟩)
                  dsimp only [Pt.U, Pt.locs, Pt.cells, Pt.slots] at X400 l400 y400 z400 st400 hQ400
                  subst l400 y400 z400
                  obtain ⟨rfl, N400q, e400⟩ := hQ400
                  have N400 := Fr.app N388 N400q
                  refine go (fun _ k => st400.trans k) ?_
                  show G (T400.setTop (mkF m 282 #[.val (.int p1), .val (.int p2), .val (.int p3), .val (.int p4), .val (.int (2 : Int32)), .val (.int (Int32.ofNat n)), .val (.ref b229), .val (.ref b238), .val (.int (1 : Int32)), .val (.int (Int32.ofNat (((n - 1) + 1) - 1))), .val (.int (0 : Int32)), .val (.long (0 : Int64)), .second, .val (.long (Int64.ofNat 0)), .second] [(.int (emp (Int32.ofNat (((n - 1) + 1) - 1))))]))
                  have J300_401 : G (T400.setTop (mkF m 300 #[.val (.int p1), .val (.int p2), .val (.int p3), .val (.int p4), .val (.int (2 : Int32)), .val (.int (Int32.ofNat n)), .val (.ref b229), .val (.ref b238), .val (.int (1 : Int32)), .val (.int (Int32.ofNat (((n - 1) + 1) - 1))), .val (.int (0 : Int32)), .val (.long (0 : Int64)), .second, .val (.long (Int64.ofNat 0)), .second] [(.int (1 : Int32))])) := by
                    refine go (fun _ k => XS.istore X400.here hx rfl (hb hby at_300) rfl (l' := #[.val (.int p1), .val (.int p2), .val (.int p3), .val (.int p4), .val (.int (2 : Int32)), .val (.int (Int32.ofNat n)), .val (.ref b229), .val (.ref b238), .val (.int (1 : Int32)), .val (.int (Int32.ofNat (((n - 1) + 1) - 1))), .val (.int (0 : Int32)), .val (.long (0 : Int64)), .second, .val (.long (Int64.ofNat 0)), .second]) rfl k) ?_
                    show G (T400.setTop (mkF m 302 #[.val (.int p1), .val (.int p2), .val (.int p3), .val (.int p4), .val (.int (2 : Int32)), .val (.int (Int32.ofNat n)), .val (.ref b229), .val (.ref b238), .val (.int (1 : Int32)), .val (.int (Int32.ofNat (((n - 1) + 1) - 1))), .val (.int (0 : Int32)), .val (.long (0 : Int64)), .second, .val (.long (Int64.ofNat 0)), .second] []))
                    refine go (fun _ k => XS.iload X400.here hx rfl (hb hby at_302) rfl k) ?_
                    show G (T400.setTop (mkF m 304 #[.val (.int p1), .val (.int p2), .val (.int p3), .val (.int p4), .val (.int (2 : Int32)), .val (.int (Int32.ofNat n)), .val (.ref b229), .val (.ref b238), .val (.int (1 : Int32)), .val (.int (Int32.ofNat (((n - 1) + 1) - 1))), .val (.int (0 : Int32)), .val (.long (0 : Int64)), .second, .val (.long (Int64.ofNat 0)), .second] [(.int (1 : Int32))]))
                    rw [hG]
                    refine own_fin X400 Bd.notSynchronized (v := some (.int (1 : Int32))) (fun h => by rw [Bd.returns] at h; cases h) (fun fs hr => retOut X400 hx Bd.returns rfl (by simp [FieldType.isReference, Value.isRef]) (hb hby at_304) hr) ?_ (by decide) (by decide)
                    show Q0 Z p1 p2 p3 p4 h0 n0 (some (.int (1 : Int32))) T400.heap _
                    rw [e400]
                    exact ⟨rfl, N400⟩
                  show G (T400.setTop (mkF m 282 #[.val (.int p1), .val (.int p2), .val (.int p3), .val (.int p4), .val (.int (2 : Int32)), .val (.int (Int32.ofNat n)), .val (.ref b229), .val (.ref b238), .val (.int (1 : Int32)), .val (.int (Int32.ofNat (((n - 1) + 1) - 1))), .val (.int (0 : Int32)), .val (.long (0 : Int64)), .second, .val (.long (Int64.ofNat 0)), .second] [(.int (emp (Int32.ofNat (((n - 1) + 1) - 1))))]))
                  refine go (fun _ k => XS.iload X400.here hx rfl (hb hby at_282) rfl k) ?_
                  show G (T400.setTop (mkF m 284 #[.val (.int p1), .val (.int p2), .val (.int p3), .val (.int p4), .val (.int (2 : Int32)), .val (.int (Int32.ofNat n)), .val (.ref b229), .val (.ref b238), .val (.int (1 : Int32)), .val (.int (Int32.ofNat (((n - 1) + 1) - 1))), .val (.int (0 : Int32)), .val (.long (0 : Int64)), .second, .val (.long (Int64.ofNat 0)), .second] [(.int (Int32.ofNat (((n - 1) + 1) - 1))), (.int (emp (Int32.ofNat (((n - 1) + 1) - 1))))]))
                  by_cases hc284_402 : (Int32.ofNat (((n - 1) + 1) - 1)) = (0 : Int32)
                  · refine go (fun _ k => XS.ifNo X400.here hx rfl (hb hby at_284) rfl ((if0 _ _).trans (teq hc284_402).2) k) ?_
                    show G (T400.setTop (mkF m 287 #[.val (.int p1), .val (.int p2), .val (.int p3), .val (.int p4), .val (.int (2 : Int32)), .val (.int (Int32.ofNat n)), .val (.ref b229), .val (.ref b238), .val (.int (1 : Int32)), .val (.int (Int32.ofNat (((n - 1) + 1) - 1))), .val (.int (0 : Int32)), .val (.long (0 : Int64)), .second, .val (.long (Int64.ofNat 0)), .second] [(.int (emp (Int32.ofNat (((n - 1) + 1) - 1))))]))
                    refine go (fun _ k => XS.iconst X400.here hx rfl (hb hby at_287) k) ?_
                    show G (T400.setTop (mkF m 288 #[.val (.int p1), .val (.int p2), .val (.int p3), .val (.int p4), .val (.int (2 : Int32)), .val (.int (Int32.ofNat n)), .val (.ref b229), .val (.ref b238), .val (.int (1 : Int32)), .val (.int (Int32.ofNat (((n - 1) + 1) - 1))), .val (.int (0 : Int32)), .val (.long (0 : Int64)), .second, .val (.long (Int64.ofNat 0)), .second] [(.int (1 : Int32)), (.int (emp (Int32.ofNat (((n - 1) + 1) - 1))))]))
                    refine go (fun _ k => XS.goto X400.here hx rfl (pc0 := 288) (pc' := 292) rfl (hb hby at_288) (by decide) (by decide) k) ?_
                    show G (T400.setTop (mkF m 292 #[.val (.int p1), .val (.int p2), .val (.int p3), .val (.int p4), .val (.int (2 : Int32)), .val (.int (Int32.ofNat n)), .val (.ref b229), .val (.ref b238), .val (.int (1 : Int32)), .val (.int (Int32.ofNat (((n - 1) + 1) - 1))), .val (.int (0 : Int32)), .val (.long (0 : Int64)), .second, .val (.long (Int64.ofNat 0)), .second] [(.int (1 : Int32)), (.int (emp (Int32.ofNat (((n - 1) + 1) - 1))))]))
                    have hc403 : (emp (Int32.ofNat (((n - 1) + 1) - 1))) = (1 : Int32) := by rw [emp, if_pos hc284_402]
                    refine go (fun _ k => XS.icmpNo X400.here hx rfl (hb hby at_292) rfl (teq hc403).2 k) ?_
                    show G (T400.setTop (mkF m 295 #[.val (.int p1), .val (.int p2), .val (.int p3), .val (.int p4), .val (.int (2 : Int32)), .val (.int (Int32.ofNat n)), .val (.ref b229), .val (.ref b238), .val (.int (1 : Int32)), .val (.int (Int32.ofNat (((n - 1) + 1) - 1))), .val (.int (0 : Int32)), .val (.long (0 : Int64)), .second, .val (.long (Int64.ofNat 0)), .second] []))
                    refine go (fun _ k => XS.iconst X400.here hx rfl (hb hby at_295) k) ?_
                    show G (T400.setTop (mkF m 296 #[.val (.int p1), .val (.int p2), .val (.int p3), .val (.int p4), .val (.int (2 : Int32)), .val (.int (Int32.ofNat n)), .val (.ref b229), .val (.ref b238), .val (.int (1 : Int32)), .val (.int (Int32.ofNat (((n - 1) + 1) - 1))), .val (.int (0 : Int32)), .val (.long (0 : Int64)), .second, .val (.long (Int64.ofNat 0)), .second] [(.int (1 : Int32))]))
                    refine go (fun _ k => XS.goto X400.here hx rfl (pc0 := 296) (pc' := 300) rfl (hb hby at_296) (by decide) (by decide) k) ?_
                    show G (T400.setTop (mkF m 300 #[.val (.int p1), .val (.int p2), .val (.int p3), .val (.int p4), .val (.int (2 : Int32)), .val (.int (Int32.ofNat n)), .val (.ref b229), .val (.ref b238), .val (.int (1 : Int32)), .val (.int (Int32.ofNat (((n - 1) + 1) - 1))), .val (.int (0 : Int32)), .val (.long (0 : Int64)), .second, .val (.long (Int64.ofNat 0)), .second] [(.int (1 : Int32))]))
                    exact J300_401
                  · refine go (fun _ k => XS.ifYes X400.here hx rfl (pc0 := 284) (pc' := 291) rfl (hb hby at_284) rfl ((if0 _ _).trans (feq hc284_402).2) (by decide) (by decide) k) ?_
                    show G (T400.setTop (mkF m 291 #[.val (.int p1), .val (.int p2), .val (.int p3), .val (.int p4), .val (.int (2 : Int32)), .val (.int (Int32.ofNat n)), .val (.ref b229), .val (.ref b238), .val (.int (1 : Int32)), .val (.int (Int32.ofNat (((n - 1) + 1) - 1))), .val (.int (0 : Int32)), .val (.long (0 : Int64)), .second, .val (.long (Int64.ofNat 0)), .second] [(.int (emp (Int32.ofNat (((n - 1) + 1) - 1))))]))
                    refine go (fun _ k => XS.iconst X400.here hx rfl (hb hby at_291) k) ?_
                    show G (T400.setTop (mkF m 292 #[.val (.int p1), .val (.int p2), .val (.int p3), .val (.int p4), .val (.int (2 : Int32)), .val (.int (Int32.ofNat n)), .val (.ref b229), .val (.ref b238), .val (.int (1 : Int32)), .val (.int (Int32.ofNat (((n - 1) + 1) - 1))), .val (.int (0 : Int32)), .val (.long (0 : Int64)), .second, .val (.long (Int64.ofNat 0)), .second] [(.int (0 : Int32)), (.int (emp (Int32.ofNat (((n - 1) + 1) - 1))))]))
                    have hc404 : (emp (Int32.ofNat (((n - 1) + 1) - 1))) = (0 : Int32) := by rw [emp, if_neg hc284_402]
                    refine go (fun _ k => XS.icmpNo X400.here hx rfl (hb hby at_292) rfl (teq hc404).2 k) ?_
                    show G (T400.setTop (mkF m 295 #[.val (.int p1), .val (.int p2), .val (.int p3), .val (.int p4), .val (.int (2 : Int32)), .val (.int (Int32.ofNat n)), .val (.ref b229), .val (.ref b238), .val (.int (1 : Int32)), .val (.int (Int32.ofNat (((n - 1) + 1) - 1))), .val (.int (0 : Int32)), .val (.long (0 : Int64)), .second, .val (.long (Int64.ofNat 0)), .second] []))
                    refine go (fun _ k => XS.iconst X400.here hx rfl (hb hby at_295) k) ?_
                    show G (T400.setTop (mkF m 296 #[.val (.int p1), .val (.int p2), .val (.int p3), .val (.int p4), .val (.int (2 : Int32)), .val (.int (Int32.ofNat n)), .val (.ref b229), .val (.ref b238), .val (.int (1 : Int32)), .val (.int (Int32.ofNat (((n - 1) + 1) - 1))), .val (.int (0 : Int32)), .val (.long (0 : Int64)), .second, .val (.long (Int64.ofNat 0)), .second] [(.int (1 : Int32))]))
                    refine go (fun _ k => XS.goto X400.here hx rfl (pc0 := 296) (pc' := 300) rfl (hb hby at_296) (by decide) (by decide) k) ?_
                    show G (T400.setTop (mkF m 300 #[.val (.int p1), .val (.int p2), .val (.int p3), .val (.int p4), .val (.int (2 : Int32)), .val (.int (Int32.ofNat n)), .val (.ref b229), .val (.ref b238), .val (.int (1 : Int32)), .val (.int (Int32.ofNat (((n - 1) + 1) - 1))), .val (.int (0 : Int32)), .val (.long (0 : Int64)), .second, .val (.long (Int64.ofNat 0)), .second] [(.int (1 : Int32))]))
                    exact J300_401
              · refine go (fun _ k => XS.ifNo X355.here hx rfl (hb hby at_177) rfl ((if0 _ _).trans (feq hc177_358).1) k) ?_
                show G (T355.setTop (mkF m 180 #[.val (.int p1), .val (.int p2), .val (.int p3), .val (.int p4), .val (.int (2 : Int32)), .val (.int (Int32.ofNat n)), .val (.ref b229), .val (.ref b238), .val (.int (1 : Int32)), .val (.int (Int32.ofNat (n - 1))), .val (.int (Int32.ofNat i)), .unset, .unset, .unset, .unset] []))
                refine go (fun _ k => XS.iconst X355.here hx rfl (hb hby at_180) k) ?_
                show G (T355.setTop (mkF m 181 #[.val (.int p1), .val (.int p2), .val (.int p3), .val (.int p4), .val (.int (2 : Int32)), .val (.int (Int32.ofNat n)), .val (.ref b229), .val (.ref b238), .val (.int (1 : Int32)), .val (.int (Int32.ofNat (n - 1))), .val (.int (Int32.ofNat i)), .unset, .unset, .unset, .unset] [(.int (1 : Int32))]))
                refine go (fun _ k => XS.goto X355.here hx rfl (pc0 := 181) (pc' := 185) rfl (hb hby at_181) (by decide) (by decide) k) ?_
                show G (T355.setTop (mkF m 185 #[.val (.int p1), .val (.int p2), .val (.int p3), .val (.int p4), .val (.int (2 : Int32)), .val (.int (Int32.ofNat n)), .val (.ref b229), .val (.ref b238), .val (.int (1 : Int32)), .val (.int (Int32.ofNat (n - 1))), .val (.int (Int32.ofNat i)), .unset, .unset, .unset, .unset] [(.int (1 : Int32))]))
                refine go (fun _ k => XS.istore X355.here hx rfl (hb hby at_185) rfl (l' := #[.val (.int p1), .val (.int p2), .val (.int p3), .val (.int p4), .val (.int (2 : Int32)), .val (.int (Int32.ofNat n)), .val (.ref b229), .val (.ref b238), .val (.int (1 : Int32)), .val (.int (Int32.ofNat (n - 1))), .val (.int (1 : Int32)), .unset, .unset, .unset, .unset]) rfl k) ?_
                show G (T355.setTop (mkF m 187 #[.val (.int p1), .val (.int p2), .val (.int p3), .val (.int p4), .val (.int (2 : Int32)), .val (.int (Int32.ofNat n)), .val (.ref b229), .val (.ref b238), .val (.int (1 : Int32)), .val (.int (Int32.ofNat (n - 1))), .val (.int (1 : Int32)), .unset, .unset, .unset, .unset] []))
                refine go (fun _ k => XS.iload X355.here hx rfl (hb hby at_187) rfl k) ?_
                show G (T355.setTop (mkF m 189 #[.val (.int p1), .val (.int p2), .val (.int p3), .val (.int p4), .val (.int (2 : Int32)), .val (.int (Int32.ofNat n)), .val (.ref b229), .val (.ref b238), .val (.int (1 : Int32)), .val (.int (Int32.ofNat (n - 1))), .val (.int (1 : Int32)), .unset, .unset, .unset, .unset] [(.int (1 : Int32))]))
                have hc405 : ¬ ((1 : Int32) = (0 : Int32)) := (by decide)
                refine go (fun _ k => XS.ifNo X355.here hx rfl (hb hby at_189) rfl ((if0 _ _).trans (feq hc405).1) k) ?_
                show G (T355.setTop (mkF m 192 #[.val (.int p1), .val (.int p2), .val (.int p3), .val (.int p4), .val (.int (2 : Int32)), .val (.int (Int32.ofNat n)), .val (.ref b229), .val (.ref b238), .val (.int (1 : Int32)), .val (.int (Int32.ofNat (n - 1))), .val (.int (1 : Int32)), .unset, .unset, .unset, .unset] []))
                refine go (fun _ k => XS.iload X355.here hx rfl (hb hby at_192) rfl k) ?_
                show G (T355.setTop (mkF m 194 #[.val (.int p1), .val (.int p2), .val (.int p3), .val (.int p4), .val (.int (2 : Int32)), .val (.int (Int32.ofNat n)), .val (.ref b229), .val (.ref b238), .val (.int (1 : Int32)), .val (.int (Int32.ofNat (n - 1))), .val (.int (1 : Int32)), .unset, .unset, .unset, .unset] [(.int (Int32.ofNat (n - 1)))]))
                refine go (fun _ k => XS.i2l X355.here hx rfl (hb hby at_194) rfl k) ?_
                show G (T355.setTop (mkF m 195 #[.val (.int p1), .val (.int p2), .val (.int p3), .val (.int p4), .val (.int (2 : Int32)), .val (.int (Int32.ofNat n)), .val (.ref b229), .val (.ref b238), .val (.int (1 : Int32)), .val (.int (Int32.ofNat (n - 1))), .val (.int (1 : Int32)), .unset, .unset, .unset, .unset] [(.long ((Int32.ofNat (n - 1)).toInt64))]))
                rw [show ((Int32.ofNat (n - 1)).toInt64) = (Int64.ofNat (n - 1)) from own_i2l (n - 1) (by omega)]
                show G (T355.setTop (mkF m 195 #[.val (.int p1), .val (.int p2), .val (.int p3), .val (.int p4), .val (.int (2 : Int32)), .val (.int (Int32.ofNat n)), .val (.ref b229), .val (.ref b238), .val (.int (1 : Int32)), .val (.int (Int32.ofNat (n - 1))), .val (.int (1 : Int32)), .unset, .unset, .unset, .unset] [(.long (Int64.ofNat (n - 1)))]))
                refine go (fun _ k => XS.goto X355.here hx rfl (pc0 := 195) (pc' := 199) rfl (hb hby at_195) (by decide) (by decide) k) ?_
                show G (T355.setTop (mkF m 199 #[.val (.int p1), .val (.int p2), .val (.int p3), .val (.int p4), .val (.int (2 : Int32)), .val (.int (Int32.ofNat n)), .val (.ref b229), .val (.ref b238), .val (.int (1 : Int32)), .val (.int (Int32.ofNat (n - 1))), .val (.int (1 : Int32)), .unset, .unset, .unset, .unset] [(.long (Int64.ofNat (n - 1)))]))
                refine go (fun _ k => XS.lstore X355.here hx rfl (hb hby at_199) rfl (l' := #[.val (.int p1), .val (.int p2), .val (.int p3), .val (.int p4), .val (.int (2 : Int32)), .val (.int (Int32.ofNat n)), .val (.ref b229), .val (.ref b238), .val (.int (1 : Int32)), .val (.int (Int32.ofNat (n - 1))), .val (.int (1 : Int32)), .val (.long (Int64.ofNat (n - 1))), .second, .unset, .unset]) rfl k) ?_
                show G (T355.setTop (mkF m 201 #[.val (.int p1), .val (.int p2), .val (.int p3), .val (.int p4), .val (.int (2 : Int32)), .val (.int (Int32.ofNat n)), .val (.ref b229), .val (.ref b238), .val (.int (1 : Int32)), .val (.int (Int32.ofNat (n - 1))), .val (.int (1 : Int32)), .val (.long (Int64.ofNat (n - 1))), .second, .unset, .unset] []))
                refine go (fun _ k => XS.aload X355.here hx rfl (hb hby at_201) rfl rfl k) ?_
                show G (T355.setTop (mkF m 203 #[.val (.int p1), .val (.int p2), .val (.int p3), .val (.int p4), .val (.int (2 : Int32)), .val (.int (Int32.ofNat n)), .val (.ref b229), .val (.ref b238), .val (.int (1 : Int32)), .val (.int (Int32.ofNat (n - 1))), .val (.int (1 : Int32)), .val (.long (Int64.ofNat (n - 1))), .second, .unset, .unset] [(.ref b238)]))
                refine go (fun _ k => XS.lload X355.here hx rfl (hb hby at_203) rfl k) ?_
                show G (T355.setTop (mkF m 205 #[.val (.int p1), .val (.int p2), .val (.int p3), .val (.int p4), .val (.int (2 : Int32)), .val (.int (Int32.ofNat n)), .val (.ref b229), .val (.ref b238), .val (.int (1 : Int32)), .val (.int (Int32.ofNat (n - 1))), .val (.int (1 : Int32)), .val (.long (Int64.ofNat (n - 1))), .second, .unset, .unset] [(.long (Int64.ofNat (n - 1))), (.ref b238)]))
                obtain ⟨cq406, kq406, qa406, qb406, qc406⟩ := isOf hZ e355 f347
                obtain ⟨_, _, ⟨T406, L406, k406, n406⟩, -, X406, ⟨Lc406, hQ406, l406, y406, z406⟩, st406⟩ := X355.virtualBack hx (y := (⟨"com/example/kerros/kerros/store/SortedChunks", "insert", "(J)J"⟩ : MethodName)) (z := (⟨"com/example/kerros/kerros/store/SortedChunks", "insert", "(J)J"⟩ : MethodName)) hown (mvT hZ (hw _ (List.mem_of_getElem? (i := 60) rfl))) (mvT hZ (hw _ (List.mem_of_getElem? (i := 61) rfl))) (notFace_of_selects (args := #[]) (mvT hZ (hw _ (List.mem_of_getElem? (i := 63) rfl)))) (mvT hZ (hw _ (List.mem_of_getElem? (i := 63) rfl))) (mvT hZ (hw _ (List.mem_of_getElem? (i := 62) rfl))) (by decide) (backOf (W := 0) (rm10w2 l Z a0 hw [] b238 (n - 1) ca241 ck241 wa241 kc241 kw241 (n - 1) cb241 T344.heap n0 Zs344 f348 f349 f350 f351 f352 c344_0 c344_1 c344_2 f353 ne_b238_ck241 ne_b238_wa241 c241_3 c241_4 c241_5 g_ck241 g_wa241 (by omega) (by omega) (by omega) (by omega)) hZ (hw _ (List.mem_of_getElem? (i := 64) rfl)) (hw _ (List.mem_of_getElem? (i := 6) rfl)) (by decide) (by decide)) qa406 qc406 (g := (mkF m 205 #[.val (.int p1), .val (.int p2), .val (.int p3), .val (.int p4), .val (.int (2 : Int32)), .val (.int (Int32.ofNat n)), .val (.ref b229), .val (.ref b238), .val (.int (1 : Int32)), .val (.int (Int32.ofNat (n - 1))), .val (.int (1 : Int32)), .val (.long (Int64.ofNat (n - 1))), .second, .unset, .unset] [(.long (Int64.ofNat (n - 1))), (.ref b238)])) rfl (by rw [hml]; rfl) (Steps.refl _) (argsL := [(.long (Int64.ofNat (n - 1)))]) (rest := []) (lenOf pd_0_2 rfl) rfl (by show 2 * 0 + _ ≤ _; exact Nat.le_of_eq rfl) (hb hby at_205) (fun _ _ => ⟨rfl, e355, (by decide : 5 + 1 ≤ _), (by decide : 24 + 12 ≤ _)⟩)
                dsimp only [Pt.U, Pt.locs, Pt.cells, Pt.slots] at X406 l406 y406 z406 st406 hQ406
                subst l406 y406 z406
                obtain ⟨wx406, kx406, dx406, rfl, N406q, Kc406, c406_0, c406_1, c406_2, c406_3, c406_4, c406_5, c406_6⟩ := hQ406
                have ne_b229_wx406 : b229 ≠ wx406 := c406_0.elim (fun q => by rw [q]; exact ne_b229_wa241) (fun q => Nat.ne_of_lt (Nat.lt_of_lt_of_le f345.lt q))
                have ne_b238_wx406 : b238 ≠ wx406 := c406_0.elim (fun q => by rw [q]; exact ne_b238_wa241) (fun q => Nat.ne_of_lt (Nat.lt_of_lt_of_le f347.lt q))
                have ne_ca241_wx406 : ca241 ≠ wx406 := c406_0.elim (fun q => by rw [q]; exact c241_4) (fun q => Nat.ne_of_lt (Nat.lt_of_lt_of_le f351.lt q))
                have ne_ck241_wx406 : ck241 ≠ wx406 := c406_0.elim (fun q => by rw [q]; exact c241_5) (fun q => Nat.ne_of_lt (Nat.lt_of_lt_of_le f352.lt q))
                have g_wx406 : n0 ≤ wx406 := c406_0.elim (fun q => by rw [q]; exact g_wa241) (fun q => Nat.le_trans Zs344 q)
                have f407 := f345.keep Kc406
                have f408 := f346.keep Kc406 (ninS ne_b229_ck241 (ninS ne_b229_wa241 nin0))
                have f409 := f347.keep Kc406
                have f410 := f348.keep Kc406 (ninS ne_b238_ck241 (ninS ne_b238_wa241 nin0))
                have f411 := f349.keep Kc406 (ninS ne_b238_ck241 (ninS ne_b238_wa241 nin0))
                have f412 := f350.keep Kc406 (ninS ne_b238_ck241 (ninS ne_b238_wa241 nin0))
                have f413 := f351.keep Kc406 (ninS c241_3 (ninS c241_4 nin0))
                have f414 := f352.keep Kc406
                have f415 := f353.keep Kc406
                have Zs406 : n0 ≤ T406.heap.size := Nat.le_trans Zs344 Kc406.1
                have N406 := Fr.app N355 N406q
                refine go (fun _ k => st406.trans k) ?_
                show G (T406.setTop (mkF m 208 #[.val (.int p1), .val (.int p2), .val (.int p3), .val (.int p4), .val (.int (2 : Int32)), .val (.int (Int32.ofNat n)), .val (.ref b229), .val (.ref b238), .val (.int (1 : Int32)), .val (.int (Int32.ofNat (n - 1))), .val (.int (1 : Int32)), .val (.long (Int64.ofNat (n - 1))), .second, .unset, .unset] [(.long (Int64.ofNat (n - 1)))]))
                refine go (fun _ k => XS.lstore X406.here hx rfl (hb hby at_208) rfl (l' := #[.val (.int p1), .val (.int p2), .val (.int p3), .val (.int p4), .val (.int (2 : Int32)), .val (.int (Int32.ofNat n)), .val (.ref b229), .val (.ref b238), .val (.int (1 : Int32)), .val (.int (Int32.ofNat (n - 1))), .val (.int (1 : Int32)), .val (.long (Int64.ofNat (n - 1))), .second, .val (.long (Int64.ofNat (n - 1))), .second]) rfl k) ?_
                show G (T406.setTop (mkF m 210 #[.val (.int p1), .val (.int p2), .val (.int p3), .val (.int p4), .val (.int (2 : Int32)), .val (.int (Int32.ofNat n)), .val (.ref b229), .val (.ref b238), .val (.int (1 : Int32)), .val (.int (Int32.ofNat (n - 1))), .val (.int (1 : Int32)), .val (.long (Int64.ofNat (n - 1))), .second, .val (.long (Int64.ofNat (n - 1))), .second] []))
                refine go (fun _ k => XS.aload X406.here hx rfl (hb hby at_210) rfl rfl k) ?_
                show G (T406.setTop (mkF m 212 #[.val (.int p1), .val (.int p2), .val (.int p3), .val (.int p4), .val (.int (2 : Int32)), .val (.int (Int32.ofNat n)), .val (.ref b229), .val (.ref b238), .val (.int (1 : Int32)), .val (.int (Int32.ofNat (n - 1))), .val (.int (1 : Int32)), .val (.long (Int64.ofNat (n - 1))), .second, .val (.long (Int64.ofNat (n - 1))), .second] [(.ref b238)]))
                refine go (fun _ k => XS.lload X406.here hx rfl (hb hby at_212) rfl k) ?_
                show G (T406.setTop (mkF m 214 #[.val (.int p1), .val (.int p2), .val (.int p3), .val (.int p4), .val (.int (2 : Int32)), .val (.int (Int32.ofNat n)), .val (.ref b229), .val (.ref b238), .val (.int (1 : Int32)), .val (.int (Int32.ofNat (n - 1))), .val (.int (1 : Int32)), .val (.long (Int64.ofNat (n - 1))), .second, .val (.long (Int64.ofNat (n - 1))), .second] [(.long (Int64.ofNat (n - 1))), (.ref b238)]))
                refine go (fun _ k => XS.iconst X406.here hx rfl (hb hby at_214) k) ?_
                show G (T406.setTop (mkF m 215 #[.val (.int p1), .val (.int p2), .val (.int p3), .val (.int p4), .val (.int (2 : Int32)), .val (.int (Int32.ofNat n)), .val (.ref b229), .val (.ref b238), .val (.int (1 : Int32)), .val (.int (Int32.ofNat (n - 1))), .val (.int (1 : Int32)), .val (.long (Int64.ofNat (n - 1))), .second, .val (.long (Int64.ofNat (n - 1))), .second] [(.int (0 : Int32)), (.long (Int64.ofNat (n - 1))), (.ref b238)]))
                refine go (fun _ k => XS.iload X406.here hx rfl (hb hby at_215) rfl k) ?_
                show G (T406.setTop (mkF m 217 #[.val (.int p1), .val (.int p2), .val (.int p3), .val (.int p4), .val (.int (2 : Int32)), .val (.int (Int32.ofNat n)), .val (.ref b229), .val (.ref b238), .val (.int (1 : Int32)), .val (.int (Int32.ofNat (n - 1))), .val (.int (1 : Int32)), .val (.long (Int64.ofNat (n - 1))), .second, .val (.long (Int64.ofNat (n - 1))), .second] [(.int (1 : Int32)), (.int (0 : Int32)), (.long (Int64.ofNat (n - 1))), (.ref b238)]))
                have hc416 : ¬ ((1 : Int32) = (0 : Int32)) := (by decide)
                refine go (fun _ k => XS.ifNo X406.here hx rfl (hb hby at_217) rfl ((if0 _ _).trans (feq hc416).1) k) ?_
                show G (T406.setTop (mkF m 220 #[.val (.int p1), .val (.int p2), .val (.int p3), .val (.int p4), .val (.int (2 : Int32)), .val (.int (Int32.ofNat n)), .val (.ref b229), .val (.ref b238), .val (.int (1 : Int32)), .val (.int (Int32.ofNat (n - 1))), .val (.int (1 : Int32)), .val (.long (Int64.ofNat (n - 1))), .second, .val (.long (Int64.ofNat (n - 1))), .second] [(.int (0 : Int32)), (.long (Int64.ofNat (n - 1))), (.ref b238)]))
                refine go (X406.ldc2Long hx hown (mvT hZ (hw _ (List.mem_of_getElem? (i := 110) rfl))) (g := (mkF m 220 #[.val (.int p1), .val (.int p2), .val (.int p3), .val (.int p4), .val (.int (2 : Int32)), .val (.int (Int32.ofNat n)), .val (.ref b229), .val (.ref b238), .val (.int (1 : Int32)), .val (.int (Int32.ofNat (n - 1))), .val (.int (1 : Int32)), .val (.long (Int64.ofNat (n - 1))), .second, .val (.long (Int64.ofNat (n - 1))), .second] [(.int (0 : Int32)), (.long (Int64.ofNat (n - 1))), (.ref b238)])) rfl (hb hby at_220)) ?_
                show G (T406.setTop (mkF m 223 #[.val (.int p1), .val (.int p2), .val (.int p3), .val (.int p4), .val (.int (2 : Int32)), .val (.int (Int32.ofNat n)), .val (.ref b229), .val (.ref b238), .val (.int (1 : Int32)), .val (.int (Int32.ofNat (n - 1))), .val (.int (1 : Int32)), .val (.long (Int64.ofNat (n - 1))), .second, .val (.long (Int64.ofNat (n - 1))), .second] [(.long (100 : Int64)), (.int (0 : Int32)), (.long (Int64.ofNat (n - 1))), (.ref b238)]))
                refine go (fun _ k => XS.goto X406.here hx rfl (pc0 := 223) (pc' := 229) rfl (hb hby at_223) (by decide) (by decide) k) ?_
                show G (T406.setTop (mkF m 229 #[.val (.int p1), .val (.int p2), .val (.int p3), .val (.int p4), .val (.int (2 : Int32)), .val (.int (Int32.ofNat n)), .val (.ref b229), .val (.ref b238), .val (.int (1 : Int32)), .val (.int (Int32.ofNat (n - 1))), .val (.int (1 : Int32)), .val (.long (Int64.ofNat (n - 1))), .second, .val (.long (Int64.ofNat (n - 1))), .second] [(.long (100 : Int64)), (.int (0 : Int32)), (.long (Int64.ofNat (n - 1))), (.ref b238)]))
                obtain ⟨cq417, kq417, qa417, qb417, qc417⟩ := isOf hZ rfl f409
                obtain ⟨_, _, ⟨T417, L417, k417, n417⟩, -, X417, ⟨Lc417, hQ417, l417, y417, z417⟩, st417⟩ := X406.virtualBack hx (y := (⟨"com/example/kerros/kerros/store/SortedChunks", "setWord", "(JIJ)V"⟩ : MethodName)) (z := (⟨"com/example/kerros/kerros/store/SortedChunks", "setWord", "(JIJ)V"⟩ : MethodName)) hown (mvT hZ (hw _ (List.mem_of_getElem? (i := 86) rfl))) (mvT hZ (hw _ (List.mem_of_getElem? (i := 87) rfl))) (notFace_of_selects (args := #[]) (mvT hZ (hw _ (List.mem_of_getElem? (i := 89) rfl)))) (mvT hZ (hw _ (List.mem_of_getElem? (i := 89) rfl))) (mvT hZ (hw _ (List.mem_of_getElem? (i := 88) rfl))) (by decide) (backOf (W := 0) (rm16w2 l Z a0 hw [] b238 (100 : Int64) (n - 1) ca241 ck241 wx406 kc241 kx406 ((n - 1) + 1) dx406 T406.heap n0 Zs406 f410 f411 f412 f413 f414 c406_1 c406_2 c406_3 c406_4 ne_b238_ck241 ne_b238_wx406 c241_3 ne_ca241_wx406 ne_ck241_wx406 g_ck241 g_wx406 (by omega) (by omega) (by omega)) hZ (hw _ (List.mem_of_getElem? (i := 90) rfl)) (hw _ (List.mem_of_getElem? (i := 6) rfl)) (by decide) (by decide)) qa417 qc417 (g := (mkF m 229 #[.val (.int p1), .val (.int p2), .val (.int p3), .val (.int p4), .val (.int (2 : Int32)), .val (.int (Int32.ofNat n)), .val (.ref b229), .val (.ref b238), .val (.int (1 : Int32)), .val (.int (Int32.ofNat (n - 1))), .val (.int (1 : Int32)), .val (.long (Int64.ofNat (n - 1))), .second, .val (.long (Int64.ofNat (n - 1))), .second] [(.long (100 : Int64)), (.int (0 : Int32)), (.long (Int64.ofNat (n - 1))), (.ref b238)])) rfl (by rw [hml]; rfl) (Steps.refl _) (argsL := [(.long (Int64.ofNat (n - 1))), (.int (0 : Int32)), (.long (100 : Int64))]) (rest := []) (lenOf pd_0_3 rfl) rfl (by show 2 * 0 + _ ≤ _; exact Nat.le_of_eq rfl) (hb hby at_229) (fun _ _ => ⟨rfl, rfl, (by decide : 6 + 0 ≤ _), (by decide : 36 + 0 ≤ _)⟩)
                dsimp only [Pt.U, Pt.locs, Pt.cells, Pt.slots] at X417 l417 y417 z417 st417 hQ417
                subst l417 y417 z417
                obtain ⟨rfl, N417q, Kc417, c417_0⟩ := hQ417
                have f418 := f407.keep Kc417
                have f419 := f408.keep Kc417 (ninS ne_b229_wx406 nin0)
                have f420 := f409.keep Kc417
                have f421 := f410.keep Kc417 (ninS ne_b238_wx406 nin0)
                have f422 := f411.keep Kc417 (ninS ne_b238_wx406 nin0)
                have f423 := f412.keep Kc417 (ninS ne_b238_wx406 nin0)
                have f424 := f413.keep Kc417 (ninS ne_ca241_wx406 nin0)
                have f425 := f414.keep Kc417
                have f426 := f415.keep Kc417
                have f427 := c406_1.keep Kc417 (ninS ne_ck241_wx406 nin0)
                have f428 := c406_2.keep Kc417 (ninS ne_ck241_wx406 nin0)
                have f429 := c406_4.keep Kc417
                have Zs417 : n0 ≤ T417.heap.size := Nat.le_trans Zs406 Kc417.1
                have N417 := Fr.app N406 N417q
                refine go (fun _ k => st417.trans k) ?_
                show G (T417.setTop (mkF m 232 #[.val (.int p1), .val (.int p2), .val (.int p3), .val (.int p4), .val (.int (2 : Int32)), .val (.int (Int32.ofNat n)), .val (.ref b229), .val (.ref b238), .val (.int (1 : Int32)), .val (.int (Int32.ofNat (n - 1))), .val (.int (1 : Int32)), .val (.long (Int64.ofNat (n - 1))), .second, .val (.long (Int64.ofNat (n - 1))), .second] []))
                refine go (fun _ k => XS.iinc X417.here hx rfl (hb hby at_232) rfl (l' := #[.val (.int p1), .val (.int p2), .val (.int p3), .val (.int p4), .val (.int (2 : Int32)), .val (.int (Int32.ofNat n)), .val (.ref b229), .val (.ref b238), .val (.int (1 : Int32)), .val (.int ((Int32.ofNat (n - 1)) + (1 : Int32))), .val (.int (1 : Int32)), .val (.long (Int64.ofNat (n - 1))), .second, .val (.long (Int64.ofNat (n - 1))), .second]) rfl k) ?_
                show G (T417.setTop (mkF m 235 #[.val (.int p1), .val (.int p2), .val (.int p3), .val (.int p4), .val (.int (2 : Int32)), .val (.int (Int32.ofNat n)), .val (.ref b229), .val (.ref b238), .val (.int (1 : Int32)), .val (.int ((Int32.ofNat (n - 1)) + (1 : Int32))), .val (.int (1 : Int32)), .val (.long (Int64.ofNat (n - 1))), .second, .val (.long (Int64.ofNat (n - 1))), .second] []))
                rw [show ((Int32.ofNat (n - 1)) + (1 : Int32)) = (Int32.ofNat ((n - 1) + 1)) from own_onadd (n - 1) 1]
                show G (T417.setTop (mkF m 235 #[.val (.int p1), .val (.int p2), .val (.int p3), .val (.int p4), .val (.int (2 : Int32)), .val (.int (Int32.ofNat n)), .val (.ref b229), .val (.ref b238), .val (.int (1 : Int32)), .val (.int (Int32.ofNat ((n - 1) + 1))), .val (.int (1 : Int32)), .val (.long (Int64.ofNat (n - 1))), .second, .val (.long (Int64.ofNat (n - 1))), .second] []))
                refine go (fun _ k => XS.iload X417.here hx rfl (hb hby at_235) rfl k) ?_
                show G (T417.setTop (mkF m 237 #[.val (.int p1), .val (.int p2), .val (.int p3), .val (.int p4), .val (.int (2 : Int32)), .val (.int (Int32.ofNat n)), .val (.ref b229), .val (.ref b238), .val (.int (1 : Int32)), .val (.int (Int32.ofNat ((n - 1) + 1))), .val (.int (1 : Int32)), .val (.long (Int64.ofNat (n - 1))), .second, .val (.long (Int64.ofNat (n - 1))), .second] [(.int (1 : Int32))]))
                have hc430 : ¬ ((1 : Int32) = (0 : Int32)) := (by decide)
                refine go (fun _ k => XS.ifNo X417.here hx rfl (hb hby at_237) rfl ((if0 _ _).trans (feq hc430).1) k) ?_
                show G (T417.setTop (mkF m 240 #[.val (.int p1), .val (.int p2), .val (.int p3), .val (.int p4), .val (.int (2 : Int32)), .val (.int (Int32.ofNat n)), .val (.ref b229), .val (.ref b238), .val (.int (1 : Int32)), .val (.int (Int32.ofNat ((n - 1) + 1))), .val (.int (1 : Int32)), .val (.long (Int64.ofNat (n - 1))), .second, .val (.long (Int64.ofNat (n - 1))), .second] []))
                refine go (fun _ k => XS.aload X417.here hx rfl (hb hby at_240) rfl rfl k) ?_
                show G (T417.setTop (mkF m 242 #[.val (.int p1), .val (.int p2), .val (.int p3), .val (.int p4), .val (.int (2 : Int32)), .val (.int (Int32.ofNat n)), .val (.ref b229), .val (.ref b238), .val (.int (1 : Int32)), .val (.int (Int32.ofNat ((n - 1) + 1))), .val (.int (1 : Int32)), .val (.long (Int64.ofNat (n - 1))), .second, .val (.long (Int64.ofNat (n - 1))), .second] [(.ref b238)]))
                obtain ⟨cq431, kq431, qa431, qb431, qc431⟩ := isOf hZ rfl f420
                obtain ⟨_, _, ⟨T431, L431, k431, n431⟩, -, X431, ⟨Lc431, hQ431, l431, y431, z431⟩, st431⟩ := X417.virtualBack hx (y := (⟨"com/example/kerros/kerros/store/SortedChunks", "isEmpty", "()Z"⟩ : MethodName)) (z := (⟨"com/example/kerros/kerros/store/SortedChunks", "isEmpty", "()Z"⟩ : MethodName)) hown (mvT hZ (hw _ (List.mem_of_getElem? (i := 54) rfl))) (mvT hZ (hw _ (List.mem_of_getElem? (i := 55) rfl))) (notFace_of_selects (args := #[]) (mvT hZ (hw _ (List.mem_of_getElem? (i := 57) rfl)))) (mvT hZ (hw _ (List.mem_of_getElem? (i := 57) rfl))) (mvT hZ (hw _ (List.mem_of_getElem? (i := 56) rfl))) (by decide) (backOf (W := 0) (rm9 l Z a0 hw [] b238 ca241 ck241 kc241 (Int32.ofNat ((n - 1) + 1)) T417.heap n0 Zs417 f423 f424 f428) hZ (hw _ (List.mem_of_getElem? (i := 58) rfl)) (hw _ (List.mem_of_getElem? (i := 6) rfl)) (by decide) (by decide)) qa431 qc431 (g := (mkF m 242 #[.val (.int p1), .val (.int p2), .val (.int p3), .val (.int p4), .val (.int (2 : Int32)), .val (.int (Int32.ofNat n)), .val (.ref b229), .val (.ref b238), .val (.int (1 : Int32)), .val (.int (Int32.ofNat ((n - 1) + 1))), .val (.int (1 : Int32)), .val (.long (Int64.ofNat (n - 1))), .second, .val (.long (Int64.ofNat (n - 1))), .second] [(.ref b238)])) rfl (by rw [hml]; rfl) (Steps.refl _) (argsL := []) (rest := []) (lenOf pd_0_1 rfl) rfl (by show 2 * 0 + _ ≤ _; exact Nat.le_of_eq rfl) (hb hby at_242) (fun _ _ => ⟨rfl, rfl, (by decide : 6 + 0 ≤ _), (by decide : 36 + 0 ≤ _)⟩)
                dsimp only [Pt.U, Pt.locs, Pt.cells, Pt.slots] at X431 l431 y431 z431 st431 hQ431
                subst l431 y431 z431
                obtain ⟨rfl, N431q, e431⟩ := hQ431
                have N431 := Fr.app N417 N431q
                refine go (fun _ k => st431.trans k) ?_
                show G (T431.setTop (mkF m 245 #[.val (.int p1), .val (.int p2), .val (.int p3), .val (.int p4), .val (.int (2 : Int32)), .val (.int (Int32.ofNat n)), .val (.ref b229), .val (.ref b238), .val (.int (1 : Int32)), .val (.int (Int32.ofNat ((n - 1) + 1))), .val (.int (1 : Int32)), .val (.long (Int64.ofNat (n - 1))), .second, .val (.long (Int64.ofNat (n - 1))), .second] [(.int (emp (Int32.ofNat ((n - 1) + 1))))]))
                have hc432 : (emp (Int32.ofNat ((n - 1) + 1))) = (0 : Int32) := by rw [emp, if_neg (own_onne _ (by omega) (by omega))]
                refine go (fun _ k => XS.ifNo X431.here hx rfl (hb hby at_245) rfl ((if0 _ _).trans (teq hc432).2) k) ?_
                show G (T431.setTop (mkF m 248 #[.val (.int p1), .val (.int p2), .val (.int p3), .val (.int p4), .val (.int (2 : Int32)), .val (.int (Int32.ofNat n)), .val (.ref b229), .val (.ref b238), .val (.int (1 : Int32)), .val (.int (Int32.ofNat ((n - 1) + 1))), .val (.int (1 : Int32)), .val (.long (Int64.ofNat (n - 1))), .second, .val (.long (Int64.ofNat (n - 1))), .second] []))
                refine go (fun _ k => XS.iconst X431.here hx rfl (hb hby at_248) k) ?_
                show G (T431.setTop (mkF m 249 #[.val (.int p1), .val (.int p2), .val (.int p3), .val (.int p4), .val (.int (2 : Int32)), .val (.int (Int32.ofNat n)), .val (.ref b229), .val (.ref b238), .val (.int (1 : Int32)), .val (.int (Int32.ofNat ((n - 1) + 1))), .val (.int (1 : Int32)), .val (.long (Int64.ofNat (n - 1))), .second, .val (.long (Int64.ofNat (n - 1))), .second] [(.int (1 : Int32))]))
                refine go (fun _ k => XS.goto X431.here hx rfl (pc0 := 249) (pc' := 253) rfl (hb hby at_249) (by decide) (by decide) k) ?_
                show G (T431.setTop (mkF m 253 #[.val (.int p1), .val (.int p2), .val (.int p3), .val (.int p4), .val (.int (2 : Int32)), .val (.int (Int32.ofNat n)), .val (.ref b229), .val (.ref b238), .val (.int (1 : Int32)), .val (.int (Int32.ofNat ((n - 1) + 1))), .val (.int (1 : Int32)), .val (.long (Int64.ofNat (n - 1))), .second, .val (.long (Int64.ofNat (n - 1))), .second] [(.int (1 : Int32))]))
                refine go (fun _ k => XS.istore X431.here hx rfl (hb hby at_253) rfl (l' := #[.val (.int p1), .val (.int p2), .val (.int p3), .val (.int p4), .val (.int (2 : Int32)), .val (.int (Int32.ofNat n)), .val (.ref b229), .val (.ref b238), .val (.int (1 : Int32)), .val (.int (Int32.ofNat ((n - 1) + 1))), .val (.int (1 : Int32)), .val (.long (Int64.ofNat (n - 1))), .second, .val (.long (Int64.ofNat (n - 1))), .second]) rfl k) ?_
                show G (T431.setTop (mkF m 255 #[.val (.int p1), .val (.int p2), .val (.int p3), .val (.int p4), .val (.int (2 : Int32)), .val (.int (Int32.ofNat n)), .val (.ref b229), .val (.ref b238), .val (.int (1 : Int32)), .val (.int (Int32.ofNat ((n - 1) + 1))), .val (.int (1 : Int32)), .val (.long (Int64.ofNat (n - 1))), .second, .val (.long (Int64.ofNat (n - 1))), .second] []))
                refine go (fun _ k => XS.iloadN X431.here hx rfl (hb hby at_255) rfl k) ?_
                show G (T431.setTop (mkF m 256 #[.val (.int p1), .val (.int p2), .val (.int p3), .val (.int p4), .val (.int (2 : Int32)), .val (.int (Int32.ofNat n)), .val (.ref b229), .val (.ref b238), .val (.int (1 : Int32)), .val (.int (Int32.ofNat ((n - 1) + 1))), .val (.int (1 : Int32)), .val (.long (Int64.ofNat (n - 1))), .second, .val (.long (Int64.ofNat (n - 1))), .second] [(.int p3)]))
                refine go (fun _ k => XS.bipush X431.here hx rfl (hb hby at_256) k) ?_
                show G (T431.setTop (mkF m 258 #[.val (.int p1), .val (.int p2), .val (.int p3), .val (.int p4), .val (.int (2 : Int32)), .val (.int (Int32.ofNat n)), .val (.ref b229), .val (.ref b238), .val (.int (1 : Int32)), .val (.int (Int32.ofNat ((n - 1) + 1))), .val (.int (1 : Int32)), .val (.long (Int64.ofNat (n - 1))), .second, .val (.long (Int64.ofNat (n - 1))), .second] [(.int (8 : Int32)), (.int p3)]))
                refine go (fun _ k => XS.iand X431.here hx rfl (hb hby at_258) rfl k) ?_
                show G (T431.setTop (mkF m 259 #[.val (.int p1), .val (.int p2), .val (.int p3), .val (.int p4), .val (.int (2 : Int32)), .val (.int (Int32.ofNat n)), .val (.ref b229), .val (.ref b238), .val (.int (1 : Int32)), .val (.int (Int32.ofNat ((n - 1) + 1))), .val (.int (1 : Int32)), .val (.long (Int64.ofNat (n - 1))), .second, .val (.long (Int64.ofNat (n - 1))), .second] [(.int (p3 &&& (8 : Int32)))]))
                by_cases hc259_433 : (p3 &&& (8 : Int32)) = (0 : Int32)
                · refine go (fun _ k => XS.ifYes X431.here hx rfl (pc0 := 259) (pc' := 302) rfl (hb hby at_259) rfl ((if0 _ _).trans (teq hc259_433).1) (by decide) (by decide) k) ?_
                  show G (T431.setTop (mkF m 302 #[.val (.int p1), .val (.int p2), .val (.int p3), .val (.int p4), .val (.int (2 : Int32)), .val (.int (Int32.ofNat n)), .val (.ref b229), .val (.ref b238), .val (.int (1 : Int32)), .val (.int (Int32.ofNat ((n - 1) + 1))), .val (.int (1 : Int32)), .val (.long (Int64.ofNat (n - 1))), .second, .val (.long (Int64.ofNat (n - 1))), .second] []))
                  refine go (fun _ k => XS.iload X431.here hx rfl (hb hby at_302) rfl k) ?_
                  show G (T431.setTop (mkF m 304 #[.val (.int p1), .val (.int p2), .val (.int p3), .val (.int p4), .val (.int (2 : Int32)), .val (.int (Int32.ofNat n)), .val (.ref b229), .val (.ref b238), .val (.int (1 : Int32)), .val (.int (Int32.ofNat ((n - 1) + 1))), .val (.int (1 : Int32)), .val (.long (Int64.ofNat (n - 1))), .second, .val (.long (Int64.ofNat (n - 1))), .second] [(.int (1 : Int32))]))
                  rw [hG]
                  refine own_fin X431 Bd.notSynchronized (v := some (.int (1 : Int32))) (fun h => by rw [Bd.returns] at h; cases h) (fun fs hr => retOut X431 hx Bd.returns rfl (by simp [FieldType.isReference, Value.isRef]) (hb hby at_304) hr) ?_ (by decide) (by decide)
                  show Q0 Z p1 p2 p3 p4 h0 n0 (some (.int (1 : Int32))) T431.heap _
                  rw [e431]
                  exact ⟨rfl, N431⟩
                · refine go (fun _ k => XS.ifNo X431.here hx rfl (hb hby at_259) rfl ((if0 _ _).trans (feq hc259_433).1) k) ?_
                  show G (T431.setTop (mkF m 262 #[.val (.int p1), .val (.int p2), .val (.int p3), .val (.int p4), .val (.int (2 : Int32)), .val (.int (Int32.ofNat n)), .val (.ref b229), .val (.ref b238), .val (.int (1 : Int32)), .val (.int (Int32.ofNat ((n - 1) + 1))), .val (.int (1 : Int32)), .val (.long (Int64.ofNat (n - 1))), .second, .val (.long (Int64.ofNat (n - 1))), .second] []))
                  refine go (fun _ k => XS.aload X431.here hx rfl (hb hby at_262) rfl rfl k) ?_
                  show G (T431.setTop (mkF m 264 #[.val (.int p1), .val (.int p2), .val (.int p3), .val (.int p4), .val (.int (2 : Int32)), .val (.int (Int32.ofNat n)), .val (.ref b229), .val (.ref b238), .val (.int (1 : Int32)), .val (.int (Int32.ofNat ((n - 1) + 1))), .val (.int (1 : Int32)), .val (.long (Int64.ofNat (n - 1))), .second, .val (.long (Int64.ofNat (n - 1))), .second] [(.ref b238)]))
                  refine go (fun _ k => XS.lload X431.here hx rfl (hb hby at_264) rfl k) ?_
                  show G (T431.setTop (mkF m 266 #[.val (.int p1), .val (.int p2), .val (.int p3), .val (.int p4), .val (.int (2 : Int32)), .val (.int (Int32.ofNat n)), .val (.ref b229), .val (.ref b238), .val (.int (1 : Int32)), .val (.int (Int32.ofNat ((n - 1) + 1))), .val (.int (1 : Int32)), .val (.long (Int64.ofNat (n - 1))), .second, .val (.long (Int64.ofNat (n - 1))), .second] [(.long (Int64.ofNat (n - 1))), (.ref b238)]))
                  obtain ⟨cq434, kq434, qa434, qb434, qc434⟩ := isOf hZ e431 f420
                  obtain ⟨_, _, ⟨T434, L434, k434, n434⟩, -, X434, ⟨Lc434, hQ434, l434, y434, z434⟩, st434⟩ := X431.virtualBack hx (y := (⟨"com/example/kerros/kerros/store/SortedChunks", "remove", "(J)V"⟩ : MethodName)) (z := (⟨"com/example/kerros/kerros/store/SortedChunks", "remove", "(J)V"⟩ : MethodName)) hown (mvT hZ (hw _ (List.mem_of_getElem? (i := 101) rfl))) (mvT hZ (hw _ (List.mem_of_getElem? (i := 102) rfl))) (notFace_of_selects (args := #[]) (mvT hZ (hw _ (List.mem_of_getElem? (i := 104) rfl)))) (mvT hZ (hw _ (List.mem_of_getElem? (i := 104) rfl))) (mvT hZ (hw _ (List.mem_of_getElem? (i := 103) rfl))) (by decide) (backOf (W := 0) (rm17w2 l Z a0 hw [] b238 (n - 1) ca241 ck241 wx406 kc241 kx406 ((n - 1) + 1) dx406 T417.heap n0 Zs417 f421 f422 f423 f424 f425 f427 f428 c417_0 f429 ne_b238_ck241 ne_b238_wx406 c241_3 ne_ca241_wx406 ne_ck241_wx406 g_ck241 g_wx406 (by omega) (by omega) (by omega)) hZ (hw _ (List.mem_of_getElem? (i := 105) rfl)) (hw _ (List.mem_of_getElem? (i := 6) rfl)) (by decide) (by decide)) qa434 qc434 (g := (mkF m 266 #[.val (.int p1), .val (.int p2), .val (.int p3), .val (.int p4), .val (.int (2 : Int32)), .val (.int (Int32.ofNat n)), .val (.ref b229), .val (.ref b238), .val (.int (1 : Int32)), .val (.int (Int32.ofNat ((n - 1) + 1))), .val (.int (1 : Int32)), .val (.long (Int64.ofNat (n - 1))), .second, .val (.long (Int64.ofNat (n - 1))), .second] [(.long (Int64.ofNat (n - 1))), (.ref b238)])) rfl (by rw [hml]; rfl) (Steps.refl _) (argsL := [(.long (Int64.ofNat (n - 1)))]) (rest := []) (lenOf pd_0_4 rfl) rfl (by show 2 * 0 + _ ≤ _; exact Nat.le_of_eq rfl) (hb hby at_266) (fun _ _ => ⟨rfl, e431, (by decide : 6 + 0 ≤ _), (by decide : 36 + 0 ≤ _)⟩)
                  dsimp only [Pt.U, Pt.locs, Pt.cells, Pt.slots] at X434 l434 y434 z434 st434 hQ434
                  subst l434 y434 z434
                  obtain ⟨rfl, N434q, Kc434, c434_0, c434_1, c434_2⟩ := hQ434
                  have f435 := f418.keep Kc434
                  have f436 := f419.keep Kc434 (ninS ne_b229_ck241 (ninS ne_b229_wx406 nin0))
                  have f437 := f420.keep Kc434
                  have f438 := f421.keep Kc434 (ninS ne_b238_ck241 (ninS ne_b238_wx406 nin0))
                  have f439 := f422.keep Kc434 (ninS ne_b238_ck241 (ninS ne_b238_wx406 nin0))
                  have f440 := f423.keep Kc434 (ninS ne_b238_ck241 (ninS ne_b238_wx406 nin0))
                  have f441 := f424.keep Kc434 (ninS c241_3 (ninS ne_ca241_wx406 nin0))
                  have f442 := f425.keep Kc434
                  have f443 := f426.keep Kc434
                  have f444 := f429.keep Kc434
                  have Zs434 : n0 ≤ T434.heap.size := Nat.le_trans Zs417 Kc434.1
                  have N434 := Fr.app N431 N434q
                  refine go (fun _ k => st434.trans k) ?_
                  show G (T434.setTop (mkF m 269 #[.val (.int p1), .val (.int p2), .val (.int p3), .val (.int p4), .val (.int (2 : Int32)), .val (.int (Int32.ofNat n)), .val (.ref b229), .val (.ref b238), .val (.int (1 : Int32)), .val (.int (Int32.ofNat ((n - 1) + 1))), .val (.int (1 : Int32)), .val (.long (Int64.ofNat (n - 1))), .second, .val (.long (Int64.ofNat (n - 1))), .second] []))
                  refine go (fun _ k => XS.iinc X434.here hx rfl (hb hby at_269) rfl (l' := #[.val (.int p1), .val (.int p2), .val (.int p3), .val (.int p4), .val (.int (2 : Int32)), .val (.int (Int32.ofNat n)), .val (.ref b229), .val (.ref b238), .val (.int (1 : Int32)), .val (.int ((Int32.ofNat ((n - 1) + 1)) + (-1 : Int32))), .val (.int (1 : Int32)), .val (.long (Int64.ofNat (n - 1))), .second, .val (.long (Int64.ofNat (n - 1))), .second]) rfl k) ?_
                  show G (T434.setTop (mkF m 272 #[.val (.int p1), .val (.int p2), .val (.int p3), .val (.int p4), .val (.int (2 : Int32)), .val (.int (Int32.ofNat n)), .val (.ref b229), .val (.ref b238), .val (.int (1 : Int32)), .val (.int ((Int32.ofNat ((n - 1) + 1)) + (-1 : Int32))), .val (.int (1 : Int32)), .val (.long (Int64.ofNat (n - 1))), .second, .val (.long (Int64.ofNat (n - 1))), .second] []))
                  rw [show ((Int32.ofNat ((n - 1) + 1)) + (-1 : Int32)) = (Int32.ofNat (((n - 1) + 1) - 1)) from own_ondec ((n - 1) + 1) (by omega)]
                  show G (T434.setTop (mkF m 272 #[.val (.int p1), .val (.int p2), .val (.int p3), .val (.int p4), .val (.int (2 : Int32)), .val (.int (Int32.ofNat n)), .val (.ref b229), .val (.ref b238), .val (.int (1 : Int32)), .val (.int (Int32.ofNat (((n - 1) + 1) - 1))), .val (.int (1 : Int32)), .val (.long (Int64.ofNat (n - 1))), .second, .val (.long (Int64.ofNat (n - 1))), .second] []))
                  refine go (fun _ k => XS.iload X434.here hx rfl (hb hby at_272) rfl k) ?_
                  show G (T434.setTop (mkF m 274 #[.val (.int p1), .val (.int p2), .val (.int p3), .val (.int p4), .val (.int (2 : Int32)), .val (.int (Int32.ofNat n)), .val (.ref b229), .val (.ref b238), .val (.int (1 : Int32)), .val (.int (Int32.ofNat (((n - 1) + 1) - 1))), .val (.int (1 : Int32)), .val (.long (Int64.ofNat (n - 1))), .second, .val (.long (Int64.ofNat (n - 1))), .second] [(.int (1 : Int32))]))
                  have hc445 : ¬ ((1 : Int32) = (0 : Int32)) := (by decide)
                  refine go (fun _ k => XS.ifNo X434.here hx rfl (hb hby at_274) rfl ((if0 _ _).trans (feq hc445).1) k) ?_
                  show G (T434.setTop (mkF m 277 #[.val (.int p1), .val (.int p2), .val (.int p3), .val (.int p4), .val (.int (2 : Int32)), .val (.int (Int32.ofNat n)), .val (.ref b229), .val (.ref b238), .val (.int (1 : Int32)), .val (.int (Int32.ofNat (((n - 1) + 1) - 1))), .val (.int (1 : Int32)), .val (.long (Int64.ofNat (n - 1))), .second, .val (.long (Int64.ofNat (n - 1))), .second] []))
                  refine go (fun _ k => XS.aload X434.here hx rfl (hb hby at_277) rfl rfl k) ?_
                  show G (T434.setTop (mkF m 279 #[.val (.int p1), .val (.int p2), .val (.int p3), .val (.int p4), .val (.int (2 : Int32)), .val (.int (Int32.ofNat n)), .val (.ref b229), .val (.ref b238), .val (.int (1 : Int32)), .val (.int (Int32.ofNat (((n - 1) + 1) - 1))), .val (.int (1 : Int32)), .val (.long (Int64.ofNat (n - 1))), .second, .val (.long (Int64.ofNat (n - 1))), .second] [(.ref b238)]))
                  obtain ⟨cq446, kq446, qa446, qb446, qc446⟩ := isOf hZ rfl f437
                  obtain ⟨_, _, ⟨T446, L446, k446, n446⟩, -, X446, ⟨Lc446, hQ446, l446, y446, z446⟩, st446⟩ := X434.virtualBack hx (y := (⟨"com/example/kerros/kerros/store/SortedChunks", "isEmpty", "()Z"⟩ : MethodName)) (z := (⟨"com/example/kerros/kerros/store/SortedChunks", "isEmpty", "()Z"⟩ : MethodName)) hown (mvT hZ (hw _ (List.mem_of_getElem? (i := 54) rfl))) (mvT hZ (hw _ (List.mem_of_getElem? (i := 55) rfl))) (notFace_of_selects (args := #[]) (mvT hZ (hw _ (List.mem_of_getElem? (i := 57) rfl)))) (mvT hZ (hw _ (List.mem_of_getElem? (i := 57) rfl))) (mvT hZ (hw _ (List.mem_of_getElem? (i := 56) rfl))) (by decide) (backOf (W := 0) (rm9 l Z a0 hw [] b238 ca241 ck241 kc241 (Int32.ofNat (((n - 1) + 1) - 1)) T434.heap n0 Zs434 f440 f441 c434_1) hZ (hw _ (List.mem_of_getElem? (i := 58) rfl)) (hw _ (List.mem_of_getElem? (i := 6) rfl)) (by decide) (by decide)) qa446 qc446 (g := (mkF m 279 #[.val (.int p1), .val (.int p2), .val (.int p3), .val (.int p4), .val (.int (2 : Int32)), .val (.int (Int32.ofNat n)), .val (.ref b229), .val (.ref b238), .val (.int (1 : Int32)), .val (.int (Int32.ofNat (((n - 1) + 1) - 1))), .val (.int (1 : Int32)), .val (.long (Int64.ofNat (n - 1))), .second, .val (.long (Int64.ofNat (n - 1))), .second] [(.ref b238)])) rfl (by rw [hml]; rfl) (Steps.refl _) (argsL := []) (rest := []) (lenOf pd_0_1 rfl) rfl (by show 2 * 0 + _ ≤ _; exact Nat.le_of_eq rfl) (hb hby at_279) (fun _ _ => ⟨rfl, rfl, (by decide : 6 + 0 ≤ _), (by decide : 36 + 0 ≤ _)⟩)
                  dsimp only [Pt.U, Pt.locs, Pt.cells, Pt.slots] at X446 l446 y446 z446 st446 hQ446
                  subst l446 y446 z446
                  obtain ⟨rfl, N446q, e446⟩ := hQ446
                  have N446 := Fr.app N434 N446q
                  refine go (fun _ k => st446.trans k) ?_
                  show G (T446.setTop (mkF m 282 #[.val (.int p1), .val (.int p2), .val (.int p3), .val (.int p4), .val (.int (2 : Int32)), .val (.int (Int32.ofNat n)), .val (.ref b229), .val (.ref b238), .val (.int (1 : Int32)), .val (.int (Int32.ofNat (((n - 1) + 1) - 1))), .val (.int (1 : Int32)), .val (.long (Int64.ofNat (n - 1))), .second, .val (.long (Int64.ofNat (n - 1))), .second] [(.int (emp (Int32.ofNat (((n - 1) + 1) - 1))))]))
                  have J300_447 : G (T446.setTop (mkF m 300 #[.val (.int p1), .val (.int p2), .val (.int p3), .val (.int p4), .val (.int (2 : Int32)), .val (.int (Int32.ofNat n)), .val (.ref b229), .val (.ref b238), .val (.int (1 : Int32)), .val (.int (Int32.ofNat (((n - 1) + 1) - 1))), .val (.int (1 : Int32)), .val (.long (Int64.ofNat (n - 1))), .second, .val (.long (Int64.ofNat (n - 1))), .second] [(.int (1 : Int32))])) := by
                    refine go (fun _ k => XS.istore X446.here hx rfl (hb hby at_300) rfl (l' := #[.val (.int p1), .val (.int p2), .val (.int p3), .val (.int p4), .val (.int (2 : Int32)), .val (.int (Int32.ofNat n)), .val (.ref b229), .val (.ref b238), .val (.int (1 : Int32)), .val (.int (Int32.ofNat (((n - 1) + 1) - 1))), .val (.int (1 : Int32)), .val (.long (Int64.ofNat (n - 1))), .second, .val (.long (Int64.ofNat (n - 1))), .second]) rfl k) ?_
                    show G (T446.setTop (mkF m 302 #[.val (.int p1), .val (.int p2), .val (.int p3), .val (.int p4), .val (.int (2 : Int32)), .val (.int (Int32.ofNat n)), .val (.ref b229), .val (.ref b238), .val (.int (1 : Int32)), .val (.int (Int32.ofNat (((n - 1) + 1) - 1))), .val (.int (1 : Int32)), .val (.long (Int64.ofNat (n - 1))), .second, .val (.long (Int64.ofNat (n - 1))), .second] []))
                    refine go (fun _ k => XS.iload X446.here hx rfl (hb hby at_302) rfl k) ?_
                    show G (T446.setTop (mkF m 304 #[.val (.int p1), .val (.int p2), .val (.int p3), .val (.int p4), .val (.int (2 : Int32)), .val (.int (Int32.ofNat n)), .val (.ref b229), .val (.ref b238), .val (.int (1 : Int32)), .val (.int (Int32.ofNat (((n - 1) + 1) - 1))), .val (.int (1 : Int32)), .val (.long (Int64.ofNat (n - 1))), .second, .val (.long (Int64.ofNat (n - 1))), .second] [(.int (1 : Int32))]))
                    rw [hG]
                    refine own_fin X446 Bd.notSynchronized (v := some (.int (1 : Int32))) (fun h => by rw [Bd.returns] at h; cases h) (fun fs hr => retOut X446 hx Bd.returns rfl (by simp [FieldType.isReference, Value.isRef]) (hb hby at_304) hr) ?_ (by decide) (by decide)
                    show Q0 Z p1 p2 p3 p4 h0 n0 (some (.int (1 : Int32))) T446.heap _
                    rw [e446]
                    exact ⟨rfl, N446⟩
                  show G (T446.setTop (mkF m 282 #[.val (.int p1), .val (.int p2), .val (.int p3), .val (.int p4), .val (.int (2 : Int32)), .val (.int (Int32.ofNat n)), .val (.ref b229), .val (.ref b238), .val (.int (1 : Int32)), .val (.int (Int32.ofNat (((n - 1) + 1) - 1))), .val (.int (1 : Int32)), .val (.long (Int64.ofNat (n - 1))), .second, .val (.long (Int64.ofNat (n - 1))), .second] [(.int (emp (Int32.ofNat (((n - 1) + 1) - 1))))]))
                  refine go (fun _ k => XS.iload X446.here hx rfl (hb hby at_282) rfl k) ?_
                  show G (T446.setTop (mkF m 284 #[.val (.int p1), .val (.int p2), .val (.int p3), .val (.int p4), .val (.int (2 : Int32)), .val (.int (Int32.ofNat n)), .val (.ref b229), .val (.ref b238), .val (.int (1 : Int32)), .val (.int (Int32.ofNat (((n - 1) + 1) - 1))), .val (.int (1 : Int32)), .val (.long (Int64.ofNat (n - 1))), .second, .val (.long (Int64.ofNat (n - 1))), .second] [(.int (Int32.ofNat (((n - 1) + 1) - 1))), (.int (emp (Int32.ofNat (((n - 1) + 1) - 1))))]))
                  by_cases hc284_448 : (Int32.ofNat (((n - 1) + 1) - 1)) = (0 : Int32)
                  · refine go (fun _ k => XS.ifNo X446.here hx rfl (hb hby at_284) rfl ((if0 _ _).trans (teq hc284_448).2) k) ?_
                    show G (T446.setTop (mkF m 287 #[.val (.int p1), .val (.int p2), .val (.int p3), .val (.int p4), .val (.int (2 : Int32)), .val (.int (Int32.ofNat n)), .val (.ref b229), .val (.ref b238), .val (.int (1 : Int32)), .val (.int (Int32.ofNat (((n - 1) + 1) - 1))), .val (.int (1 : Int32)), .val (.long (Int64.ofNat (n - 1))), .second, .val (.long (Int64.ofNat (n - 1))), .second] [(.int (emp (Int32.ofNat (((n - 1) + 1) - 1))))]))
                    refine go (fun _ k => XS.iconst X446.here hx rfl (hb hby at_287) k) ?_
                    show G (T446.setTop (mkF m 288 #[.val (.int p1), .val (.int p2), .val (.int p3), .val (.int p4), .val (.int (2 : Int32)), .val (.int (Int32.ofNat n)), .val (.ref b229), .val (.ref b238), .val (.int (1 : Int32)), .val (.int (Int32.ofNat (((n - 1) + 1) - 1))), .val (.int (1 : Int32)), .val (.long (Int64.ofNat (n - 1))), .second, .val (.long (Int64.ofNat (n - 1))), .second] [(.int (1 : Int32)), (.int (emp (Int32.ofNat (((n - 1) + 1) - 1))))]))
                    refine go (fun _ k => XS.goto X446.here hx rfl (pc0 := 288) (pc' := 292) rfl (hb hby at_288) (by decide) (by decide) k) ?_
                    show G (T446.setTop (mkF m 292 #[.val (.int p1), .val (.int p2), .val (.int p3), .val (.int p4), .val (.int (2 : Int32)), .val (.int (Int32.ofNat n)), .val (.ref b229), .val (.ref b238), .val (.int (1 : Int32)), .val (.int (Int32.ofNat (((n - 1) + 1) - 1))), .val (.int (1 : Int32)), .val (.long (Int64.ofNat (n - 1))), .second, .val (.long (Int64.ofNat (n - 1))), .second] [(.int (1 : Int32)), (.int (emp (Int32.ofNat (((n - 1) + 1) - 1))))]))
                    have hc449 : (emp (Int32.ofNat (((n - 1) + 1) - 1))) = (1 : Int32) := by rw [emp, if_pos hc284_448]
                    refine go (fun _ k => XS.icmpNo X446.here hx rfl (hb hby at_292) rfl (teq hc449).2 k) ?_
                    show G (T446.setTop (mkF m 295 #[.val (.int p1), .val (.int p2), .val (.int p3), .val (.int p4), .val (.int (2 : Int32)), .val (.int (Int32.ofNat n)), .val (.ref b229), .val (.ref b238), .val (.int (1 : Int32)), .val (.int (Int32.ofNat (((n - 1) + 1) - 1))), .val (.int (1 : Int32)), .val (.long (Int64.ofNat (n - 1))), .second, .val (.long (Int64.ofNat (n - 1))), .second] []))
                    refine go (fun _ k => XS.iconst X446.here hx rfl (hb hby at_295) k) ?_
                    show G (T446.setTop (mkF m 296 #[.val (.int p1), .val (.int p2), .val (.int p3), .val (.int p4), .val (.int (2 : Int32)), .val (.int (Int32.ofNat n)), .val (.ref b229), .val (.ref b238), .val (.int (1 : Int32)), .val (.int (Int32.ofNat (((n - 1) + 1) - 1))), .val (.int (1 : Int32)), .val (.long (Int64.ofNat (n - 1))), .second, .val (.long (Int64.ofNat (n - 1))), .second] [(.int (1 : Int32))]))
                    refine go (fun _ k => XS.goto X446.here hx rfl (pc0 := 296) (pc' := 300) rfl (hb hby at_296) (by decide) (by decide) k) ?_
                    show G (T446.setTop (mkF m 300 #[.val (.int p1), .val (.int p2), .val (.int p3), .val (.int p4), .val (.int (2 : Int32)), .val (.int (Int32.ofNat n)), .val (.ref b229), .val (.ref b238), .val (.int (1 : Int32)), .val (.int (Int32.ofNat (((n - 1) + 1) - 1))), .val (.int (1 : Int32)), .val (.long (Int64.ofNat (n - 1))), .second, .val (.long (Int64.ofNat (n - 1))), .second] [(.int (1 : Int32))]))
                    exact J300_447
                  · refine go (fun _ k => XS.ifYes X446.here hx rfl (pc0 := 284) (pc' := 291) rfl (hb hby at_284) rfl ((if0 _ _).trans (feq hc284_448).2) (by decide) (by decide) k) ?_
                    show G (T446.setTop (mkF m 291 #[.val (.int p1), .val (.int p2), .val (.int p3), .val (.int p4), .val (.int (2 : Int32)), .val (.int (Int32.ofNat n)), .val (.ref b229), .val (.ref b238), .val (.int (1 : Int32)), .val (.int (Int32.ofNat (((n - 1) + 1) - 1))), .val (.int (1 : Int32)), .val (.long (Int64.ofNat (n - 1))), .second, .val (.long (Int64.ofNat (n - 1))), .second] [(.int (emp (Int32.ofNat (((n - 1) + 1) - 1))))]))
                    refine go (fun _ k => XS.iconst X446.here hx rfl (hb hby at_291) k) ?_
                    show G (T446.setTop (mkF m 292 #[.val (.int p1), .val (.int p2), .val (.int p3), .val (.int p4), .val (.int (2 : Int32)), .val (.int (Int32.ofNat n)), .val (.ref b229), .val (.ref b238), .val (.int (1 : Int32)), .val (.int (Int32.ofNat (((n - 1) + 1) - 1))), .val (.int (1 : Int32)), .val (.long (Int64.ofNat (n - 1))), .second, .val (.long (Int64.ofNat (n - 1))), .second] [(.int (0 : Int32)), (.int (emp (Int32.ofNat (((n - 1) + 1) - 1))))]))
                    have hc450 : (emp (Int32.ofNat (((n - 1) + 1) - 1))) = (0 : Int32) := by rw [emp, if_neg hc284_448]
                    refine go (fun _ k => XS.icmpNo X446.here hx rfl (hb hby at_292) rfl (teq hc450).2 k) ?_
                    show G (T446.setTop (mkF m 295 #[.val (.int p1), .val (.int p2), .val (.int p3), .val (.int p4), .val (.int (2 : Int32)), .val (.int (Int32.ofNat n)), .val (.ref b229), .val (.ref b238), .val (.int (1 : Int32)), .val (.int (Int32.ofNat (((n - 1) + 1) - 1))), .val (.int (1 : Int32)), .val (.long (Int64.ofNat (n - 1))), .second, .val (.long (Int64.ofNat (n - 1))), .second] []))
                    refine go (fun _ k => XS.iconst X446.here hx rfl (hb hby at_295) k) ?_
                    show G (T446.setTop (mkF m 296 #[.val (.int p1), .val (.int p2), .val (.int p3), .val (.int p4), .val (.int (2 : Int32)), .val (.int (Int32.ofNat n)), .val (.ref b229), .val (.ref b238), .val (.int (1 : Int32)), .val (.int (Int32.ofNat (((n - 1) + 1) - 1))), .val (.int (1 : Int32)), .val (.long (Int64.ofNat (n - 1))), .second, .val (.long (Int64.ofNat (n - 1))), .second] [(.int (1 : Int32))]))
                    refine go (fun _ k => XS.goto X446.here hx rfl (pc0 := 296) (pc' := 300) rfl (hb hby at_296) (by decide) (by decide) k) ?_
                    show G (T446.setTop (mkF m 300 #[.val (.int p1), .val (.int p2), .val (.int p3), .val (.int p4), .val (.int (2 : Int32)), .val (.int (Int32.ofNat n)), .val (.ref b229), .val (.ref b238), .val (.int (1 : Int32)), .val (.int (Int32.ofNat (((n - 1) + 1) - 1))), .val (.int (1 : Int32)), .val (.long (Int64.ofNat (n - 1))), .second, .val (.long (Int64.ofNat (n - 1))), .second] [(.int (1 : Int32))]))
                    exact J300_447
          show G (T355.setTop (mkF m 148 #[.val (.int p1), .val (.int p2), .val (.int p3), .val (.int p4), .val (.int (2 : Int32)), .val (.int (Int32.ofNat n)), .val (.ref b229), .val (.ref b238), .val (.int (1 : Int32)), .val (.int (Int32.ofNat (n - 1))), .val (.int (Int32.ofNat i)), .unset, .unset, .unset, .unset] [(.int (emp (Int32.ofNat (n - 1))))]))
          refine go (fun _ k => XS.iload X355.here hx rfl (hb hby at_148) rfl k) ?_
          show G (T355.setTop (mkF m 150 #[.val (.int p1), .val (.int p2), .val (.int p3), .val (.int p4), .val (.int (2 : Int32)), .val (.int (Int32.ofNat n)), .val (.ref b229), .val (.ref b238), .val (.int (1 : Int32)), .val (.int (Int32.ofNat (n - 1))), .val (.int (Int32.ofNat i)), .unset, .unset, .unset, .unset] [(.int (Int32.ofNat (n - 1))), (.int (emp (Int32.ofNat (n - 1))))]))
          by_cases hc150_451 : (Int32.ofNat (n - 1)) = (0 : Int32)
          · refine go (fun _ k => XS.ifNo X355.here hx rfl (hb hby at_150) rfl ((if0 _ _).trans (teq hc150_451).2) k) ?_
            show G (T355.setTop (mkF m 153 #[.val (.int p1), .val (.int p2), .val (.int p3), .val (.int p4), .val (.int (2 : Int32)), .val (.int (Int32.ofNat n)), .val (.ref b229), .val (.ref b238), .val (.int (1 : Int32)), .val (.int (Int32.ofNat (n - 1))), .val (.int (Int32.ofNat i)), .unset, .unset, .unset, .unset] [(.int (emp (Int32.ofNat (n - 1))))]))
            refine go (fun _ k => XS.iconst X355.here hx rfl (hb hby at_153) k) ?_
            show G (T355.setTop (mkF m 154 #[.val (.int p1), .val (.int p2), .val (.int p3), .val (.int p4), .val (.int (2 : Int32)), .val (.int (Int32.ofNat n)), .val (.ref b229), .val (.ref b238), .val (.int (1 : Int32)), .val (.int (Int32.ofNat (n - 1))), .val (.int (Int32.ofNat i)), .unset, .unset, .unset, .unset] [(.int (1 : Int32)), (.int (emp (Int32.ofNat (n - 1))))]))
            refine go (fun _ k => XS.goto X355.here hx rfl (pc0 := 154) (pc' := 158) rfl (hb hby at_154) (by decide) (by decide) k) ?_
            show G (T355.setTop (mkF m 158 #[.val (.int p1), .val (.int p2), .val (.int p3), .val (.int p4), .val (.int (2 : Int32)), .val (.int (Int32.ofNat n)), .val (.ref b229), .val (.ref b238), .val (.int (1 : Int32)), .val (.int (Int32.ofNat (n - 1))), .val (.int (Int32.ofNat i)), .unset, .unset, .unset, .unset] [(.int (1 : Int32)), (.int (emp (Int32.ofNat (n - 1))))]))
            have hc452 : (emp (Int32.ofNat (n - 1))) = (1 : Int32) := by rw [emp, if_pos hc150_451]
            refine go (fun _ k => XS.icmpNo X355.here hx rfl (hb hby at_158) rfl (teq hc452).2 k) ?_
            show G (T355.setTop (mkF m 161 #[.val (.int p1), .val (.int p2), .val (.int p3), .val (.int p4), .val (.int (2 : Int32)), .val (.int (Int32.ofNat n)), .val (.ref b229), .val (.ref b238), .val (.int (1 : Int32)), .val (.int (Int32.ofNat (n - 1))), .val (.int (Int32.ofNat i)), .unset, .unset, .unset, .unset] []))
            refine go (fun _ k => XS.iconst X355.here hx rfl (hb hby at_161) k) ?_
            show G (T355.setTop (mkF m 162 #[.val (.int p1), .val (.int p2), .val (.int p3), .val (.int p4), .val (.int (2 : Int32)), .val (.int (Int32.ofNat n)), .val (.ref b229), .val (.ref b238), .val (.int (1 : Int32)), .val (.int (Int32.ofNat (n - 1))), .val (.int (Int32.ofNat i)), .unset, .unset, .unset, .unset] [(.int (1 : Int32))]))
            refine go (fun _ k => XS.goto X355.here hx rfl (pc0 := 162) (pc' := 166) rfl (hb hby at_162) (by decide) (by decide) k) ?_
            show G (T355.setTop (mkF m 166 #[.val (.int p1), .val (.int p2), .val (.int p3), .val (.int p4), .val (.int (2 : Int32)), .val (.int (Int32.ofNat n)), .val (.ref b229), .val (.ref b238), .val (.int (1 : Int32)), .val (.int (Int32.ofNat (n - 1))), .val (.int (Int32.ofNat i)), .unset, .unset, .unset, .unset] [(.int (1 : Int32))]))
            exact J166_356
          · refine go (fun _ k => XS.ifYes X355.here hx rfl (pc0 := 150) (pc' := 157) rfl (hb hby at_150) rfl ((if0 _ _).trans (feq hc150_451).2) (by decide) (by decide) k) ?_
            show G (T355.setTop (mkF m 157 #[.val (.int p1), .val (.int p2), .val (.int p3), .val (.int p4), .val (.int (2 : Int32)), .val (.int (Int32.ofNat n)), .val (.ref b229), .val (.ref b238), .val (.int (1 : Int32)), .val (.int (Int32.ofNat (n - 1))), .val (.int (Int32.ofNat i)), .unset, .unset, .unset, .unset] [(.int (emp (Int32.ofNat (n - 1))))]))
            refine go (fun _ k => XS.iconst X355.here hx rfl (hb hby at_157) k) ?_
            show G (T355.setTop (mkF m 158 #[.val (.int p1), .val (.int p2), .val (.int p3), .val (.int p4), .val (.int (2 : Int32)), .val (.int (Int32.ofNat n)), .val (.ref b229), .val (.ref b238), .val (.int (1 : Int32)), .val (.int (Int32.ofNat (n - 1))), .val (.int (Int32.ofNat i)), .unset, .unset, .unset, .unset] [(.int (0 : Int32)), (.int (emp (Int32.ofNat (n - 1))))]))
            have hc453 : (emp (Int32.ofNat (n - 1))) = (0 : Int32) := by rw [emp, if_neg hc150_451]
            refine go (fun _ k => XS.icmpNo X355.here hx rfl (hb hby at_158) rfl (teq hc453).2 k) ?_
            show G (T355.setTop (mkF m 161 #[.val (.int p1), .val (.int p2), .val (.int p3), .val (.int p4), .val (.int (2 : Int32)), .val (.int (Int32.ofNat n)), .val (.ref b229), .val (.ref b238), .val (.int (1 : Int32)), .val (.int (Int32.ofNat (n - 1))), .val (.int (Int32.ofNat i)), .unset, .unset, .unset, .unset] []))
            refine go (fun _ k => XS.iconst X355.here hx rfl (hb hby at_161) k) ?_
            show G (T355.setTop (mkF m 162 #[.val (.int p1), .val (.int p2), .val (.int p3), .val (.int p4), .val (.int (2 : Int32)), .val (.int (Int32.ofNat n)), .val (.ref b229), .val (.ref b238), .val (.int (1 : Int32)), .val (.int (Int32.ofNat (n - 1))), .val (.int (Int32.ofNat i)), .unset, .unset, .unset, .unset] [(.int (1 : Int32))]))
            refine go (fun _ k => XS.goto X355.here hx rfl (pc0 := 162) (pc' := 166) rfl (hb hby at_162) (by decide) (by decide) k) ?_
            show G (T355.setTop (mkF m 166 #[.val (.int p1), .val (.int p2), .val (.int p3), .val (.int p4), .val (.int (2 : Int32)), .val (.int (Int32.ofNat n)), .val (.ref b229), .val (.ref b238), .val (.int (1 : Int32)), .val (.int (Int32.ofNat (n - 1))), .val (.int (Int32.ofNat i)), .unset, .unset, .unset, .unset] [(.int (1 : Int32))]))
            exact J166_356
        · refine go (fun _ k => XS.ifYes X245.here hx rfl (pc0 := 115) (pc' := 168) rfl (hb hby at_115) rfl ((if0 _ _).trans (flt hc115_343).2.2.2) (by decide) (by decide) k) ?_
          show G (T245.setTop (mkF m 168 #[.val (.int p1), .val (.int p2), .val (.int p3), .val (.int p4), .val (.int (2 : Int32)), .val (.int (Int32.ofNat n)), .val (.ref b229), .val (.ref b238), .val (.int (1 : Int32)), .val (.int (Int32.ofNat n)), .unset, .unset, .unset, .unset, .unset] []))
          exact J168_247
    show G (T245.setTop (mkF m 83 #[.val (.int p1), .val (.int p2), .val (.int p3), .val (.int p4), .val (.int (2 : Int32)), .val (.int (Int32.ofNat n)), .val (.ref b229), .val (.ref b238), .unset, .unset, .unset, .unset, .unset, .unset, .unset] [(.int (emp (Int32.ofNat n)))]))
    refine go (fun _ k => XS.iload X245.here hx rfl (hb hby at_83) rfl k) ?_
    show G (T245.setTop (mkF m 85 #[.val (.int p1), .val (.int p2), .val (.int p3), .val (.int p4), .val (.int (2 : Int32)), .val (.int (Int32.ofNat n)), .val (.ref b229), .val (.ref b238), .unset, .unset, .unset, .unset, .unset, .unset, .unset] [(.int (Int32.ofNat n)), (.int (emp (Int32.ofNat n)))]))
    by_cases hc85_454 : (Int32.ofNat n) = (0 : Int32)
    · refine go (fun _ k => XS.ifNo X245.here hx rfl (hb hby at_85) rfl ((if0 _ _).trans (teq hc85_454).2) k) ?_
      show G (T245.setTop (mkF m 88 #[.val (.int p1), .val (.int p2), .val (.int p3), .val (.int p4), .val (.int (2 : Int32)), .val (.int (Int32.ofNat n)), .val (.ref b229), .val (.ref b238), .unset, .unset, .unset, .unset, .unset, .unset, .unset] [(.int (emp (Int32.ofNat n)))]))
      refine go (fun _ k => XS.iconst X245.here hx rfl (hb hby at_88) k) ?_
      show G (T245.setTop (mkF m 89 #[.val (.int p1), .val (.int p2), .val (.int p3), .val (.int p4), .val (.int (2 : Int32)), .val (.int (Int32.ofNat n)), .val (.ref b229), .val (.ref b238), .unset, .unset, .unset, .unset, .unset, .unset, .unset] [(.int (1 : Int32)), (.int (emp (Int32.ofNat n)))]))
      refine go (fun _ k => XS.goto X245.here hx rfl (pc0 := 89) (pc' := 93) rfl (hb hby at_89) (by decide) (by decide) k) ?_
      show G (T245.setTop (mkF m 93 #[.val (.int p1), .val (.int p2), .val (.int p3), .val (.int p4), .val (.int (2 : Int32)), .val (.int (Int32.ofNat n)), .val (.ref b229), .val (.ref b238), .unset, .unset, .unset, .unset, .unset, .unset, .unset] [(.int (1 : Int32)), (.int (emp (Int32.ofNat n)))]))
      have hc455 : (emp (Int32.ofNat n)) = (1 : Int32) := by rw [emp, if_pos hc85_454]
      refine go (fun _ k => XS.icmpNo X245.here hx rfl (hb hby at_93) rfl (teq hc455).2 k) ?_
      show G (T245.setTop (mkF m 96 #[.val (.int p1), .val (.int p2), .val (.int p3), .val (.int p4), .val (.int (2 : Int32)), .val (.int (Int32.ofNat n)), .val (.ref b229), .val (.ref b238), .unset, .unset, .unset, .unset, .unset, .unset, .unset] []))
      refine go (fun _ k => XS.iconst X245.here hx rfl (hb hby at_96) k) ?_
      show G (T245.setTop (mkF m 97 #[.val (.int p1), .val (.int p2), .val (.int p3), .val (.int p4), .val (.int (2 : Int32)), .val (.int (Int32.ofNat n)), .val (.ref b229), .val (.ref b238), .unset, .unset, .unset, .unset, .unset, .unset, .unset] [(.int (1 : Int32))]))
      refine go (fun _ k => XS.goto X245.here hx rfl (pc0 := 97) (pc' := 101) rfl (hb hby at_97) (by decide) (by decide) k) ?_
      show G (T245.setTop (mkF m 101 #[.val (.int p1), .val (.int p2), .val (.int p3), .val (.int p4), .val (.int (2 : Int32)), .val (.int (Int32.ofNat n)), .val (.ref b229), .val (.ref b238), .unset, .unset, .unset, .unset, .unset, .unset, .unset] [(.int (1 : Int32))]))
      exact J101_246
    · refine go (fun _ k => XS.ifYes X245.here hx rfl (pc0 := 85) (pc' := 92) rfl (hb hby at_85) rfl ((if0 _ _).trans (feq hc85_454).2) (by decide) (by decide) k) ?_
      show G (T245.setTop (mkF m 92 #[.val (.int p1), .val (.int p2), .val (.int p3), .val (.int p4), .val (.int (2 : Int32)), .val (.int (Int32.ofNat n)), .val (.ref b229), .val (.ref b238), .unset, .unset, .unset, .unset, .unset, .unset, .unset] [(.int (emp (Int32.ofNat n)))]))
      refine go (fun _ k => XS.iconst X245.here hx rfl (hb hby at_92) k) ?_
      show G (T245.setTop (mkF m 93 #[.val (.int p1), .val (.int p2), .val (.int p3), .val (.int p4), .val (.int (2 : Int32)), .val (.int (Int32.ofNat n)), .val (.ref b229), .val (.ref b238), .unset, .unset, .unset, .unset, .unset, .unset, .unset] [(.int (0 : Int32)), (.int (emp (Int32.ofNat n)))]))
      have hc456 : (emp (Int32.ofNat n)) = (0 : Int32) := by rw [emp, if_neg hc85_454]
      refine go (fun _ k => XS.icmpNo X245.here hx rfl (hb hby at_93) rfl (teq hc456).2 k) ?_
      show G (T245.setTop (mkF m 96 #[.val (.int p1), .val (.int p2), .val (.int p3), .val (.int p4), .val (.int (2 : Int32)), .val (.int (Int32.ofNat n)), .val (.ref b229), .val (.ref b238), .unset, .unset, .unset, .unset, .unset, .unset, .unset] []))
      refine go (fun _ k => XS.iconst X245.here hx rfl (hb hby at_96) k) ?_
      show G (T245.setTop (mkF m 97 #[.val (.int p1), .val (.int p2), .val (.int p3), .val (.int p4), .val (.int (2 : Int32)), .val (.int (Int32.ofNat n)), .val (.ref b229), .val (.ref b238), .unset, .unset, .unset, .unset, .unset, .unset, .unset] [(.int (1 : Int32))]))
      refine go (fun _ k => XS.goto X245.here hx rfl (pc0 := 97) (pc' := 101) rfl (hb hby at_97) (by decide) (by decide) k) ?_
      show G (T245.setTop (mkF m 101 #[.val (.int p1), .val (.int p2), .val (.int p3), .val (.int p4), .val (.int (2 : Int32)), .val (.int (Int32.ofNat n)), .val (.ref b229), .val (.ref b238), .unset, .unset, .unset, .unset, .unset, .unset, .unset] [(.int (1 : Int32))]))
      exact J101_246

set_option maxRecDepth 65536 in
set_option maxHeartbeats 40000000 in
theorem comes_1 {Post : Tables → Env → Array Value → State → Outcome → State → Prop} (hpost : ∀ tb e args s v u, (limb_1_1.after args s (.returned v) u = true ∧ limb_1_2.after args s (.returned v) u = true ∧ True) → FrameEnd s (.returned v) u (Jvm.fieldLocs frame_1_writes args s ++ Jvm.arrayLocs frame_1_arrays args s ++ Jvm.staticLocs frame_1_statics s) 24 128 → Post tb e args s (.returned v) u) :
    ArmFor flags0 classFile x code maxLocals ret World_1 tables_1 room_1 Calls_1 rest_1 Pre_1 Post := by
  intro l hfl _ _ p e ha hc hk s m args below hf hA hF happ hP
  obtain ⟨hcalls, hrest, hpre⟩ := hP
  obtain ⟨-, -, -, hnamed, -, -, -, hat⟩ := (Spec.applies_iff hf).mp happ
  obtain ⟨hg, hn⟩ := and_e (Cond.before_iff.mp (show (Jvm.Cond.and given_1 narrow_1).before args s = true from hpre))
  obtain ⟨g2, g3⟩ := and_e hg
  obtain ⟨g4, g5⟩ := and_e g3
  obtain ⟨g6, g7⟩ := and_e g5
  obtain ⟨g8, g9⟩ := and_e g7
  obtain ⟨w0, w1, w2, w3, rfl⟩ : ∃ w0 w1 w2 w3 : Value, args = #[w0, w1, w2, w3] := by
    have hs : args.size = 4 := by simpa [Cond.value, given_1] using g2
    obtain ⟨L⟩ := args
    match L, hs with
    | [w0, w1, w2, w3], _ => exact ⟨w0, w1, w2, w3, rfl⟩
  have hw := fun d (hd : d ∈ tables_1) => atoms_spec (ws := Jvm.Cond.code x code maxLocals ret :: tables_1) hat d (List.mem_cons_of_mem _ hd)
  have hfit : Fit s := fun {y c} hc i hi => by
    obtain ⟨ha, rfl⟩ := Array.getElem?_eq_some_iff.mp hc
    have q := List.all_eq_true.mp ((Array.all_eq_true_iff_forall_mem.mp hF) _ (Array.getElem_mem ha)) i (List.mem_range.mpr hi)
    simpa [Array.getElem?_eq_getElem hi] using q
  obtain ⟨i0, ei0⟩ := is_v g4
  obtain rfl : w0 = (.int i0) := Option.some.inj ei0
  obtain ⟨i1, ei1⟩ := is_v g6
  obtain rfl : w1 = (.int i1) := Option.some.inj ei1
  obtain ⟨i2, ei2⟩ := is_v g8
  obtain rfl : w2 = (.int i2) := Option.some.inj ei2
  obtain ⟨i3, ei3⟩ := is_v g9
  obtain rfl : w3 = (.int i3) := Option.some.inj ei3
  obtain ⟨n, o, h1, h2, h3, _, L, rfl, ⟨rfl, N⟩, hq⟩ := rm0 l s _ hw tables_1 i0 i1 i2 i3 s.heap s.heap.size (Nat.le_refl _)  p e ha hc hk s m _ below hf ((Spec.applies_iff_loose hf).mp happ).1 ⟨rfl, State.Warmed39.refl s, rfl⟩ trivial
  refine ⟨n, _, h1, h2, h3, hpost _ _ _ _ _ _ ⟨Cond.after_iff.mpr rfl, Cond.after_iff.mpr (eq_i res_at (Term.int_eval (1)) rfl), trivial⟩ ⟨hq.1, hq.2.1, (hq.2.2.sift fun y hy => Or.inr (N y hy)).mono (by decide) (by decide)⟩⟩
theorem main_1_1 : Claimed_1_1 := comes_1 fun _ _ _ _ _ _ h hF => ⟨h.1, hF⟩
theorem main_1_2 : Claimed_1_2 := comes_1 fun _ _ _ _ _ _ h hF => ⟨h.2.1, hF⟩
end Jvm.Pilot.@@N@@
namespace Jvm.Pilot.@@N@@
open Jvm Jvm.ClassFile Sem Op Lib Jvm.Free Jvm.Stand Jvm.Pilot.@@N@@.Jvm.D
/-! MADE BY PROGRAM (witnessworld.py) out of the Statement's table words and the real class files: 16 classes; the members and pool entries that the words name. The judged class is class 1, her method 1. -/
namespace start1
open Jvm.ClassFile
def u (s : String) : CpInfo := .utf8 (stringToUtf16 s)
/-- a pool by its gaps: so many unusable entries, then the entry; so many at the end -/
def gap : Nat → List CpInfo → List CpInfo
  | 0, r => r
  | n + 1, r => .unusable :: gap n r
def poolList (es : List (Nat × CpInfo)) (last : Nat) : List CpInfo := es.foldr (fun e r => gap e.1 (e.2 :: r)) (gap last [])
def pool (es : List (Nat × CpInfo)) (last : Nat) : Array CpInfo := ⟨poolList es last⟩
def fileOf (pool : Array CpInfo) (this : Nat) (attrs : Array Attribute := #[]) (ms : Array MethodInfo := #[]) (fl : Nat := 33) (sup : Nat := 0) (ifs : Array Nat := #[]) (fds : Array FieldInfo := #[]) : ClassFile where
  minorVersion := 0
  majorVersion := 65
  constantPool := pool
  accessFlags := fl
  thisClass := this
  superClass := sup
  interfaces := ifs
  fields := fds
  methods := ms
  attributes := attrs
def plain (name : String) (sup : Option ClassId) : Class where
  name := name
  kind := .ordinary
  loader := none
  accessFlags := 33
  super := sup
  interfaces := #[]
  cf := none
  fields := #[]
  methods := #[]
  instanceTypes := #[]
  staticTypes := #[]
  resolved := #[]
  callSites := []
  init := .initialized
  statics := none
  mirror := none

def pool0 : Array CpInfo := pool [(5, u "<init>"), (0, u "()V"), (1, .class_ 10), (1, u "java/lang/Object"), (85, u "clone"), (0, u "()Ljava/lang/Object;")] 26

def k0c0 : Code := { maxStack := 0, maxLocals := 1, code := object_method_1_code, exceptionTable := #[], attributes := #[] }
def k0m0 : Method := { name := "<init>", desc := "()V", sig := { parameters := [], returnType := none }, accessFlags := 1, code := some k0c0 }
def k0m1 : Method := { name := "clone", desc := "()Ljava/lang/Object;", sig := { parameters := [], returnType := some (.object "java/lang/Object") }, accessFlags := 260, code := none }
/-- java/lang/Object -/
def k0 : Class := { plain "java/lang/Object" none with
  accessFlags := 33
  interfaces := #[]
  cf := some (fileOf pool0 8 #[] #[{ accessFlags := 1, nameIndex := 5, descriptorIndex := 6, attributes := #[] }, { accessFlags := 260, nameIndex := 96, descriptorIndex := 97, attributes := #[] }] 33 0 #[] #[])
  fields := #[]
  methods := #[k0m0, k0m1]
  instanceTypes := #[]
  staticTypes := #[]
  resolved := Array.replicate 124 none
  statics := none }

def pool1 : Array CpInfo := pool [(2, .class_ 4), (1, u "java/lang/Object"), (0, u "<init>"), (0, u "()V"), (0, .integer 2147483647), (0, .long 10), (1, .long 20), (1, .class_ 13), (0, u "com/example/kerros/kerros/store/SortedChunks"), (0, .methodref 12 15), (0, .nameAndType 5 16), (0, u "(I[JI)V"), (0, .methodref 12 18), (0, .nameAndType 19 20), (0, u "isEmpty"), (0, u "()Z"), (0, .methodref 12 22), (0, .nameAndType 23 24), (0, u "remove"), (0, u "(J)V"), (0, .methodref 12 26), (0, .nameAndType 27 28), (0, u "insert"), (0, u "(J)J"), (0, .long 100), (1, .long 18446744073709551615), (1, .methodref 12 34), (0, .nameAndType 35 36), (0, u "setWord"), (0, u "(JIJ)V"), (0, .class_ 38), (0, u "com/example/kerros/kerros/store/SortedChunksIsEmptyPinLaw"), (2, u "law"), (0, u "(IIII)Z")] 5

def k1m0 : Method := { name := "<init>", desc := "()V", sig := { parameters := [], returnType := none }, accessFlags := 1, code := none }
def k1c1 : Code := { maxStack := 6, maxLocals := 15, code := code, exceptionTable := #[], attributes := #[] }
def k1m1 : Method := { name := "law", desc := "(IIII)Z", sig := { parameters := [.int, .int, .int, .int], returnType := some .boolean }, accessFlags := 9, code := some k1c1 }
/-- com/example/kerros/kerros/store/SortedChunksIsEmptyPinLaw -/
def k1 : Class := { plain "com/example/kerros/kerros/store/SortedChunksIsEmptyPinLaw" (some 0) with
  accessFlags := 49
  interfaces := #[]
  cf := some (fileOf pool1 37 #[] #[{ accessFlags := 1, nameIndex := 5, descriptorIndex := 6, attributes := #[] }, { accessFlags := 9, nameIndex := 41, descriptorIndex := 42, attributes := #[] }] 49 2 #[] #[])
  fields := #[]
  methods := #[k1m0, k1m1]
  instanceTypes := #[]
  staticTypes := #[]
  resolved := Array.replicate 48 none
  statics := none }

def pool2 : Array CpInfo := pool [(2, .class_ 4), (1, u "com/example/kerros/kerros/store/SortedChunks"), (0, u "<init>"), (0, u "(I[JI)V"), (0, .methodref 8 9), (0, .class_ 10), (0, .nameAndType 5 11), (0, u "java/lang/Object"), (0, u "()V"), (0, .fieldref 2 13), (0, .nameAndType 14 15), (0, u "width"), (0, u "I"), (0, .methodref 17 18), (0, .class_ 19), (0, .nameAndType 20 21), (0, u "java/lang/Math"), (0, u "max"), (0, u "(II)I"), (0, .fieldref 2 23), (0, .nameAndType 24 15), (0, u "used"), (0, .class_ 26), (0, u "com/example/kerros/kerros/store/SortedChunks$Chunk"), (0, .fieldref 2 28), (0, .nameAndType 29 30), (0, u "chunks"), (0, u "[Lcom/example/kerros/kerros/store/SortedChunks$Chunk;"), (0, .methodref 17 32), (0, .nameAndType 33 21), (0, u "min"), (0, .methodref 35 36), (0, .class_ 37), (0, .nameAndType 38 39), (0, u "java/util/Arrays"), (0, u "copyOfRange"), (0, u "([JII)[J"), (0, .methodref 25 41), (0, .nameAndType 5 42), (0, u "([JI)V"), (0, .fieldref 25 44), (0, .nameAndType 45 46), (0, u "words"), (0, u "[J"), (1, .class_ 50), (1, u "com/example/kerros/kerros/store/SortedChunks$Probe"), (6, .methodref 2 58), (0, .nameAndType 59 60), (0, u "chunkOf"), (0, u "(J)I"), (0, .fieldref 25 62), (0, .nameAndType 63 15), (0, u "size"), (8, .methodref 2 73), (0, .nameAndType 74 60), (0, u "indexOf"), (0, .methodref 25 76), (0, .nameAndType 77 78), (0, u "insert"), (0, u "(II)V"), (11, .methodref 25 91), (0, .nameAndType 92 78), (0, u "remove"), (24, .long 4294967295), (1, u "CHUNK"), (2, u "FIRST_CAPACITY"), (1, u "INDEX_BITS"), (0, u "J"), (6, u "(J)J"), (4, u "setWord"), (0, u "(JIJ)V"), (0, u "(J)V"), (0, u "isEmpty"), (0, u "()Z")] 6

def k2c0 : Code := { maxStack := 8, maxLocals := 8, code := prog_86_method_2_code, exceptionTable := #[], attributes := #[] }
def k2m0 : Method := { name := "<init>", desc := "(I[JI)V", sig := { parameters := [.int, (.array .long), .int], returnType := none }, accessFlags := 0, code := some k2c0 }
def k2c1 : Code := { maxStack := 4, maxLocals := 6, code := prog_86_method_9_code, exceptionTable := #[], attributes := #[] }
def k2m1 : Method := { name := "setWord", desc := "(JIJ)V", sig := { parameters := [.long, .int, .long], returnType := none }, accessFlags := 0, code := some k2c1 }
def k2c2 : Code := { maxStack := 3, maxLocals := 9, code := prog_86_method_10_code, exceptionTable := #[], attributes := #[] }
def k2m2 : Method := { name := "insert", desc := "(J)J", sig := { parameters := [.long], returnType := some .long }, accessFlags := 0, code := some k2c2 }
def k2c3 : Code := { maxStack := 3, maxLocals := 4, code := prog_86_method_11_code, exceptionTable := #[], attributes := #[] }
def k2m3 : Method := { name := "remove", desc := "(J)V", sig := { parameters := [.long], returnType := none }, accessFlags := 0, code := some k2c3 }
def k2c4 : Code := { maxStack := 2, maxLocals := 1, code := prog_86_method_12_code, exceptionTable := #[], attributes := #[] }
def k2m4 : Method := { name := "isEmpty", desc := "()Z", sig := { parameters := [], returnType := some .boolean }, accessFlags := 0, code := some k2c4 }
def k2c5 : Code := { maxStack := 3, maxLocals := 2, code := prog_86_method_17_code, exceptionTable := #[], attributes := #[] }
def k2m5 : Method := { name := "chunkOf", desc := "(J)I", sig := { parameters := [.long], returnType := some .int }, accessFlags := 10, code := some k2c5 }
def k2c6 : Code := { maxStack := 4, maxLocals := 2, code := prog_86_method_18_code, exceptionTable := #[], attributes := #[] }
def k2m6 : Method := { name := "indexOf", desc := "(J)I", sig := { parameters := [.long], returnType := some .int }, accessFlags := 10, code := some k2c6 }
/-- com/example/kerros/kerros/store/SortedChunks -/
def k2 : Class := { plain "com/example/kerros/kerros/store/SortedChunks" (some 0) with
  accessFlags := 48
  interfaces := #[]
  cf := some (fileOf pool2 2 #[.nestMembers #[25, 48]] #[{ accessFlags := 0, nameIndex := 5, descriptorIndex := 6, attributes := #[] }, { accessFlags := 0, nameIndex := 137, descriptorIndex := 138, attributes := #[] }, { accessFlags := 0, nameIndex := 77, descriptorIndex := 132, attributes := #[] }, { accessFlags := 0, nameIndex := 92, descriptorIndex := 139, attributes := #[] }, { accessFlags := 0, nameIndex := 140, descriptorIndex := 141, attributes := #[] }, { accessFlags := 10, nameIndex := 59, descriptorIndex := 60, attributes := #[] }, { accessFlags := 10, nameIndex := 74, descriptorIndex := 60, attributes := #[] }] 48 8 #[] #[{ accessFlags := 24, nameIndex := 119, descriptorIndex := 15, attributes := #[] }, { accessFlags := 26, nameIndex := 122, descriptorIndex := 15, attributes := #[] }, { accessFlags := 26, nameIndex := 124, descriptorIndex := 125, attributes := #[] }, { accessFlags := 18, nameIndex := 14, descriptorIndex := 15, attributes := #[] }, { accessFlags := 2, nameIndex := 29, descriptorIndex := 30, attributes := #[] }, { accessFlags := 2, nameIndex := 24, descriptorIndex := 15, attributes := #[] }])
  fields := #[{ name := "CHUNK", type := .int, accessFlags := 24, slot := 0, constantValue := 0 }, { name := "FIRST_CAPACITY", type := .int, accessFlags := 26, slot := 1, constantValue := 0 }, { name := "INDEX_BITS", type := .long, accessFlags := 26, slot := 2, constantValue := 0 }, { name := "width", type := .int, accessFlags := 18, slot := 0, constantValue := 0 }, { name := "chunks", type := (.array (.object "com/example/kerros/kerros/store/SortedChunks$Chunk")), accessFlags := 2, slot := 1, constantValue := 0 }, { name := "used", type := .int, accessFlags := 2, slot := 2, constantValue := 0 }]
  methods := #[k2m0, k2m1, k2m2, k2m3, k2m4, k2m5, k2m6]
  instanceTypes := #[.int, (.array (.object "com/example/kerros/kerros/store/SortedChunks$Chunk")), .int]
  staticTypes := #[.int, .int, .long]
  resolved := ((((((Array.replicate 148 none).setIfInBounds 25 (some (.cls 4))).setIfInBounds 40 (some (.method ⟨4, 0⟩))).setIfInBounds 43 (some (.field 4 0))).setIfInBounds 61 (some (.field 4 1))).setIfInBounds 75 (some (.method ⟨4, 1⟩))).setIfInBounds 90 (some (.method ⟨4, 2⟩))
  statics := none }

def pool3 : Array CpInfo := pool [(1, .class_ 2), (0, u "java/lang/Math"), (1, .class_ 6), (1, u "java/lang/Object"), (0, u "<init>"), (0, u "()V"), (89, .class_ 100), (1, u "java/lang/Math$RandomNumberGeneratorHolder"), (71, u "negativeZeroFloatBits"), (0, u "J"), (2, u "negativeZeroDoubleBits"), (21, u "max"), (2, u "min"), (43, u "$assertionsDisabled"), (0, u "Z"), (88, u "(II)I"), (2, u "twoToTheDoubleScaleDown"), (0, u "D"), (4, u "twoToTheDoubleScaleUp"), (9, u "E"), (3, u "PI"), (2, u "TAU"), (2, u "DEGREES_TO_RADIANS"), (0, u "RADIANS_TO_DEGREES")] 94

def k3m0 : Method := { name := "<init>", desc := "()V", sig := { parameters := [], returnType := none }, accessFlags := 2, code := none }
def k3c1 : Code := { maxStack := 2, maxLocals := 2, code := jdk_29_method_65_code, exceptionTable := #[], attributes := #[] }
def k3m1 : Method := { name := "max", desc := "(II)I", sig := { parameters := [.int, .int], returnType := some .int }, accessFlags := 9, code := some k3c1 }
def k3c2 : Code := { maxStack := 2, maxLocals := 2, code := jdk_29_method_69_code, exceptionTable := #[], attributes := #[] }
def k3m2 : Method := { name := "min", desc := "(II)I", sig := { parameters := [.int, .int], returnType := some .int }, accessFlags := 9, code := some k3c2 }
/-- java/lang/Math -/
def k3 : Class := { plain "java/lang/Math" (some 0) with
  accessFlags := 49
  interfaces := #[]
  cf := some (fileOf pool3 1 #[.nestMembers #[98]] #[{ accessFlags := 2, nameIndex := 7, descriptorIndex := 8, attributes := #[] }, { accessFlags := 9, nameIndex := 198, descriptorIndex := 335, attributes := #[] }, { accessFlags := 9, nameIndex := 201, descriptorIndex := 335, attributes := #[] }] 49 4 #[] #[{ accessFlags := 25, nameIndex := 354, descriptorIndex := 339, attributes := #[] }, { accessFlags := 25, nameIndex := 358, descriptorIndex := 339, attributes := #[] }, { accessFlags := 25, nameIndex := 361, descriptorIndex := 339, attributes := #[] }, { accessFlags := 26, nameIndex := 364, descriptorIndex := 339, attributes := #[] }, { accessFlags := 26, nameIndex := 365, descriptorIndex := 339, attributes := #[] }, { accessFlags := 26, nameIndex := 172, descriptorIndex := 173, attributes := #[] }, { accessFlags := 26, nameIndex := 176, descriptorIndex := 173, attributes := #[] }, { accessFlags := 8, nameIndex := 344, descriptorIndex := 339, attributes := #[] }, { accessFlags := 8, nameIndex := 338, descriptorIndex := 339, attributes := #[] }, { accessFlags := 4120, nameIndex := 245, descriptorIndex := 246, attributes := #[] }])
  fields := #[{ name := "E", type := .double, accessFlags := 25, slot := 0, constantValue := 0 }, { name := "PI", type := .double, accessFlags := 25, slot := 1, constantValue := 0 }, { name := "TAU", type := .double, accessFlags := 25, slot := 2, constantValue := 0 }, { name := "DEGREES_TO_RADIANS", type := .double, accessFlags := 26, slot := 3, constantValue := 0 }, { name := "RADIANS_TO_DEGREES", type := .double, accessFlags := 26, slot := 4, constantValue := 0 }, { name := "negativeZeroFloatBits", type := .long, accessFlags := 26, slot := 5, constantValue := 0 }, { name := "negativeZeroDoubleBits", type := .long, accessFlags := 26, slot := 6, constantValue := 0 }, { name := "twoToTheDoubleScaleUp", type := .double, accessFlags := 8, slot := 7, constantValue := 0 }, { name := "twoToTheDoubleScaleDown", type := .double, accessFlags := 8, slot := 8, constantValue := 0 }, { name := "$assertionsDisabled", type := .boolean, accessFlags := 4120, slot := 9, constantValue := 0 }]
  methods := #[k3m0, k3m1, k3m2]
  instanceTypes := #[]
  staticTypes := #[.double, .double, .double, .double, .double, .long, .long, .double, .double, .boolean]
  resolved := Array.replicate 460 none
  statics := none }

def pool4 : Array CpInfo := pool [(1, .class_ 2), (0, u "com/example/kerros/kerros/store/SortedChunks"), (0, .methodref 4 5), (0, .class_ 6), (0, .nameAndType 7 8), (0, u "java/lang/Object"), (0, u "<init>"), (0, u "()V"), (0, .fieldref 10 11), (0, .class_ 12), (0, .nameAndType 13 14), (0, u "com/example/kerros/kerros/store/SortedChunks$Chunk"), (0, u "words"), (0, u "[J"), (0, .fieldref 10 16), (0, .nameAndType 17 18), (0, u "size"), (0, u "I"), (2, u "([JI)V"), (0, .methodref 10 23), (0, .nameAndType 24 25), (0, u "grown"), (0, u "(I)I"), (0, .methodref 27 28), (0, .class_ 29), (0, .nameAndType 30 31), (0, u "java/util/Arrays"), (0, u "copyOf"), (0, u "([JI)[J"), (0, .methodref 33 34), (0, .class_ 35), (0, .nameAndType 36 37), (0, u "java/lang/System"), (0, u "arraycopy"), (0, u "(Ljava/lang/Object;ILjava/lang/Object;II)V"), (4, .methodref 43 44), (0, .class_ 45), (0, .nameAndType 46 47), (0, u "java/lang/Math"), (0, u "max"), (0, u "(II)I"), (0, .methodref 43 49), (0, .nameAndType 50 47), (0, u "min"), (4, u "insert"), (0, u "(II)V"), (1, u "remove")] 8

def k4c0 : Code := { maxStack := 2, maxLocals := 3, code := prog_87_method_1_code, exceptionTable := #[], attributes := #[] }
def k4m0 : Method := { name := "<init>", desc := "([JI)V", sig := { parameters := [(.array .long), .int], returnType := none }, accessFlags := 2, code := some k4c0 }
def k4c1 : Code := { maxStack := 6, maxLocals := 3, code := prog_87_method_3_code, exceptionTable := #[], attributes := #[] }
def k4m1 : Method := { name := "insert", desc := "(II)V", sig := { parameters := [.int, .int], returnType := none }, accessFlags := 2, code := some k4c1 }
def k4c2 : Code := { maxStack := 6, maxLocals := 3, code := prog_87_method_4_code, exceptionTable := #[], attributes := #[] }
def k4m2 : Method := { name := "remove", desc := "(II)V", sig := { parameters := [.int, .int], returnType := none }, accessFlags := 2, code := some k4c2 }
def k4c3 : Code := { maxStack := 5, maxLocals := 1, code := prog_87_method_7_code, exceptionTable := #[], attributes := #[] }
def k4m3 : Method := { name := "grown", desc := "(I)I", sig := { parameters := [.int], returnType := some .int }, accessFlags := 10, code := some k4c3 }
/-- com/example/kerros/kerros/store/SortedChunks$Chunk -/
def k4 : Class := { plain "com/example/kerros/kerros/store/SortedChunks$Chunk" (some 0) with
  accessFlags := 48
  interfaces := #[]
  cf := some (fileOf pool4 10 #[.nestHost 1] #[{ accessFlags := 2, nameIndex := 7, descriptorIndex := 21, attributes := #[] }, { accessFlags := 2, nameIndex := 55, descriptorIndex := 56, attributes := #[] }, { accessFlags := 2, nameIndex := 58, descriptorIndex := 56, attributes := #[] }, { accessFlags := 10, nameIndex := 24, descriptorIndex := 25, attributes := #[] }] 48 4 #[] #[{ accessFlags := 2, nameIndex := 13, descriptorIndex := 14, attributes := #[] }, { accessFlags := 2, nameIndex := 17, descriptorIndex := 18, attributes := #[] }])
  fields := #[{ name := "words", type := (.array .long), accessFlags := 2, slot := 0, constantValue := 0 }, { name := "size", type := .int, accessFlags := 2, slot := 1, constantValue := 0 }]
  methods := #[k4m0, k4m1, k4m2, k4m3]
  instanceTypes := #[(.array .long), .int]
  staticTypes := #[]
  resolved := Array.replicate 67 none
  statics := none }

def pool5 : Array CpInfo := pool [(2, .class_ 4), (1, u "java/lang/Object"), (0, u "<init>"), (0, u "()V"), (7, .class_ 16), (1, u "java/util/Arrays"), (57, .class_ 76), (1, u "java/util/Arrays$NaturalOrder"), (32, u "()Ljava/lang/Object;"), (3, .class_ 115), (1, u "java/util/Arrays$LegacyMergeSort"), (1, u "Z"), (10, .nameAndType 129 109), (0, u "clone"), (9, u "copyOfRange"), (10, .methodref 151 152), (0, .class_ 153), (0, .nameAndType 154 155), (0, u "java/lang/System"), (0, u "arraycopy"), (0, u "(Ljava/lang/Object;ILjava/lang/Object;II)V"), (146, u "copyOf"), (1, .methodref 305 306), (0, .class_ 307), (0, .nameAndType 308 309), (0, u "java/lang/Math"), (0, u "min"), (0, u "(II)I"), (9, .methodref 320 128), (0, .class_ 321), (0, u "[J"), (21, .methodref 14 344), (0, .nameAndType 345 346), (0, u "checkLength"), (0, u "(II)V"), (8, .methodref 14 356), (0, .nameAndType 357 358), (0, u "copyOfRangeLong"), (0, u "([JII)[J"), (16, .class_ 376), (0, u "java/util/Arrays$ArrayList"), (68, u "$assertionsDisabled"), (269, u "MIN_ARRAY_SORT_GRAN"), (0, u "I"), (2, u "INSERTIONSORT_THRESHOLD"), (152, u "([JI)[J"), (102, .class_ 976), (0, u "java/util/Arrays$ArrayItr")] 52

def k5m0 : Method := { name := "<init>", desc := "()V", sig := { parameters := [], returnType := none }, accessFlags := 2, code := none }
def k5c1 : Code := { maxStack := 6, maxLocals := 3, code := jdk_65_method_124_code, exceptionTable := #[], attributes := #[] }
def k5m1 : Method := { name := "copyOf", desc := "([JI)[J", sig := { parameters := [(.array .long), .int], returnType := some (.array .long) }, accessFlags := 9, code := some k5c1 }
def k5c2 : Code := { maxStack := 4, maxLocals := 2, code := jdk_65_method_131_code, exceptionTable := #[], attributes := #[] }
def k5m2 : Method := { name := "checkLength", desc := "(II)V", sig := { parameters := [.int, .int], returnType := none }, accessFlags := 10, code := some k5c2 }
def k5c3 : Code := { maxStack := 3, maxLocals := 3, code := jdk_65_method_138_code, exceptionTable := #[], attributes := #[] }
def k5m3 : Method := { name := "copyOfRange", desc := "([JII)[J", sig := { parameters := [(.array .long), .int, .int], returnType := some (.array .long) }, accessFlags := 9, code := some k5c3 }
def k5c4 : Code := { maxStack := 6, maxLocals := 5, code := jdk_65_method_139_code, exceptionTable := #[], attributes := #[] }
def k5m4 : Method := { name := "copyOfRangeLong", desc := "([JII)[J", sig := { parameters := [(.array .long), .int, .int], returnType := some (.array .long) }, accessFlags := 10, code := some k5c4 }
/-- java/util/Arrays -/
def k5 : Class := { plain "java/util/Arrays" (some 0) with
  accessFlags := 49
  interfaces := #[]
  cf := some (fileOf pool5 14 #[.nestMembers #[975, 375, 113, 74]] #[{ accessFlags := 2, nameIndex := 5, descriptorIndex := 6, attributes := #[] }, { accessFlags := 9, nameIndex := 302, descriptorIndex := 872, attributes := #[] }, { accessFlags := 10, nameIndex := 345, descriptorIndex := 346, attributes := #[] }, { accessFlags := 9, nameIndex := 139, descriptorIndex := 358, attributes := #[] }, { accessFlags := 10, nameIndex := 357, descriptorIndex := 358, attributes := #[] }] 49 2 #[] #[{ accessFlags := 26, nameIndex := 715, descriptorIndex := 716, attributes := #[] }, { accessFlags := 26, nameIndex := 719, descriptorIndex := 716, attributes := #[] }, { accessFlags := 4120, nameIndex := 445, descriptorIndex := 117, attributes := #[] }])
  fields := #[{ name := "MIN_ARRAY_SORT_GRAN", type := .int, accessFlags := 26, slot := 0, constantValue := 0 }, { name := "INSERTIONSORT_THRESHOLD", type := .int, accessFlags := 26, slot := 1, constantValue := 0 }, { name := "$assertionsDisabled", type := .boolean, accessFlags := 4120, slot := 2, constantValue := 0 }]
  methods := #[k5m0, k5m1, k5m2, k5m3, k5m4]
  instanceTypes := #[]
  staticTypes := #[.int, .int, .boolean]
  resolved := Array.replicate 1029 none
  statics := none }

def pool6 : Array CpInfo := pool [(2, .class_ 4), (1, u "java/lang/Object"), (0, u "<init>"), (0, u "()V"), (1, .class_ 10), (1, u "java/lang/System"), (0, u "allowSecurityManager"), (0, u "I"), (16, u "cons"), (0, u "Ljava/io/Console;"), (77, .class_ 110), (1, u "java/lang/System$CallersHolder"), (43, u "initialErrStream"), (0, u "Ljava/io/PrintStream;"), (19, u "security"), (0, u "Ljava/lang/SecurityManager;"), (31, .class_ 209), (0, u "java/lang/System$1"), (7, u "props"), (0, u "Ljava/util/Properties;"), (2, u "lineSeparator"), (0, u "Ljava/lang/String;"), (96, .class_ 321), (1, u "java/lang/System$LoggerFinder"), (5, .class_ 328), (0, u "java/lang/System$Logger"), (67, u "err"), (2, u "out"), (91, u "notSupportedJnuEncoding"), (15, u "in"), (17, u "initialIn"), (0, u "Ljava/io/InputStream;"), (35, u "bootLayer"), (0, u "Ljava/lang/ModuleLayer;"), (99, .class_ 664), (0, u "java/lang/System$2"), (9, u "NEVER"), (2, u "MAYBE"), (49, u "arraycopy"), (0, u "(Ljava/lang/Object;ILjava/lang/Object;II)V"), (72, .class_ 802), (0, u "java/lang/System$Logger$Level")] 31

def k6m0 : Method := { name := "<init>", desc := "()V", sig := { parameters := [], returnType := none }, accessFlags := 2, code := none }
def k6m1 : Method := { name := "arraycopy", desc := "(Ljava/lang/Object;ILjava/lang/Object;II)V", sig := { parameters := [(.object "java/lang/Object"), .int, (.object "java/lang/Object"), .int, .int], returnType := none }, accessFlags := 265, code := none }
/-- java/lang/System -/
def k6 : Class := { plain "java/lang/System" (some 0) with
  accessFlags := 49
  interfaces := #[]
  cf := some (fileOf pool6 8 #[.nestMembers #[319, 327, 801, 108, 663, 208]] #[{ accessFlags := 2, nameIndex := 5, descriptorIndex := 6, attributes := #[] }, { accessFlags := 265, nameIndex := 727, descriptorIndex := 728, attributes := #[] }] 49 2 #[] #[{ accessFlags := 25, nameIndex := 507, descriptorIndex := 526, attributes := #[] }, { accessFlags := 25, nameIndex := 399, descriptorIndex := 155, attributes := #[] }, { accessFlags := 25, nameIndex := 396, descriptorIndex := 155, attributes := #[] }, { accessFlags := 10, nameIndex := 525, descriptorIndex := 526, attributes := #[] }, { accessFlags := 26, nameIndex := 674, descriptorIndex := 12, attributes := #[] }, { accessFlags := 26, nameIndex := 677, descriptorIndex := 12, attributes := #[] }, { accessFlags := 10, nameIndex := 11, descriptorIndex := 12, attributes := #[] }, { accessFlags := 74, nameIndex := 175, descriptorIndex := 176, attributes := #[] }, { accessFlags := 10, nameIndex := 491, descriptorIndex := 222, attributes := #[] }, { accessFlags := 74, nameIndex := 29, descriptorIndex := 30, attributes := #[] }, { accessFlags := 74, nameIndex := 154, descriptorIndex := 155, attributes := #[] }, { accessFlags := 10, nameIndex := 217, descriptorIndex := 218, attributes := #[] }, { accessFlags := 10, nameIndex := 221, descriptorIndex := 222, attributes := #[] }, { accessFlags := 8, nameIndex := 562, descriptorIndex := 563, attributes := #[] }])
  fields := #[{ name := "in", type := (.object "java/io/InputStream"), accessFlags := 25, slot := 0, constantValue := 0 }, { name := "out", type := (.object "java/io/PrintStream"), accessFlags := 25, slot := 1, constantValue := 0 }, { name := "err", type := (.object "java/io/PrintStream"), accessFlags := 25, slot := 2, constantValue := 0 }, { name := "initialIn", type := (.object "java/io/InputStream"), accessFlags := 10, slot := 3, constantValue := 0 }, { name := "NEVER", type := .int, accessFlags := 26, slot := 4, constantValue := 0 }, { name := "MAYBE", type := .int, accessFlags := 26, slot := 5, constantValue := 0 }, { name := "allowSecurityManager", type := .int, accessFlags := 10, slot := 6, constantValue := 0 }, { name := "security", type := (.object "java/lang/SecurityManager"), accessFlags := 74, slot := 7, constantValue := 0 }, { name := "notSupportedJnuEncoding", type := (.object "java/lang/String"), accessFlags := 10, slot := 8, constantValue := 0 }, { name := "cons", type := (.object "java/io/Console"), accessFlags := 74, slot := 9, constantValue := 0 }, { name := "initialErrStream", type := (.object "java/io/PrintStream"), accessFlags := 74, slot := 10, constantValue := 0 }, { name := "props", type := (.object "java/util/Properties"), accessFlags := 10, slot := 11, constantValue := 0 }, { name := "lineSeparator", type := (.object "java/lang/String"), accessFlags := 10, slot := 12, constantValue := 0 }, { name := "bootLayer", type := (.object "java/lang/ModuleLayer"), accessFlags := 8, slot := 13, constantValue := 0 }]
  methods := #[k6m0, k6m1]
  instanceTypes := #[]
  staticTypes := #[(.object "java/io/InputStream"), (.object "java/io/PrintStream"), (.object "java/io/PrintStream"), (.object "java/io/InputStream"), .int, .int, .int, (.object "java/lang/SecurityManager"), (.object "java/lang/String"), (.object "java/io/Console"), (.object "java/io/PrintStream"), (.object "java/util/Properties"), (.object "java/lang/String"), (.object "java/lang/ModuleLayer")]
  resolved := Array.replicate 834 none
  statics := none }

def pool7 : Array CpInfo := pool [(1, .class_ 2), (0, u "java/lang/Cloneable"), (0, .class_ 4), (0, u "java/lang/Object")] 2

/-- java/lang/Cloneable -/
def k7 : Class := { plain "java/lang/Cloneable" (some 0) with
  accessFlags := 1537
  interfaces := #[]
  cf := some (fileOf pool7 1 #[] #[] 1537 3 #[] #[])
  fields := #[]
  methods := #[]
  instanceTypes := #[]
  staticTypes := #[]
  resolved := Array.replicate 7 none
  statics := none }

def pool8 : Array CpInfo := pool [(1, u "java/io/Serializable"), (0, .class_ 1), (0, u "java/lang/Object"), (0, .class_ 3)] 3

/-- java/io/Serializable -/
def k8 : Class := { plain "java/io/Serializable" (some 0) with
  accessFlags := 1537
  interfaces := #[]
  cf := some (fileOf pool8 2 #[] #[] 1537 4 #[] #[])
  fields := #[]
  methods := #[]
  instanceTypes := #[]
  staticTypes := #[]
  resolved := Array.replicate 8 none
  statics := none }

/-- the primitive byte -/
def k9 : Class := { plain "byte" none with kind := .primitive 'B', accessFlags := 0x411 }
/-- [B -/
def k10 : Class := { plain "[B" (some 0) with kind := .array 9 .byte, interfaces := #[7, 8], accessFlags := 1041 }

/-- the primitive int -/
def k11 : Class := { plain "int" none with kind := .primitive 'I', accessFlags := 0x411 }
/-- [I -/
def k12 : Class := { plain "[I" (some 0) with kind := .array 11 .int, interfaces := #[7, 8], accessFlags := 1041 }

/-- the primitive long -/
def k13 : Class := { plain "long" none with kind := .primitive 'J', accessFlags := 0x411 }
/-- [J -/
def k14 : Class := { plain "[J" (some 0) with kind := .array 13 .long, interfaces := #[7, 8], accessFlags := 1041 }

/-- [Lcom/example/kerros/kerros/store/SortedChunks$Chunk; -/
def k15 : Class := { plain "[Lcom/example/kerros/kerros/store/SortedChunks$Chunk;" (some 0) with kind := .array 4 (.object "com/example/kerros/kerros/store/SortedChunks$Chunk"), interfaces := #[7, 8], accessFlags := 1041 }

def heap : Heap := #[]
def classes : Array Class := #[k0, k1, k2, k3, k4, k5, k6, k7, k8, k9, k10, k11, k12, k13, k14, k15]
def interned : List (Array UInt16 × Addr) := []
def slotsUsed : Nat := 0
def theMethod : MethodId := ⟨1, 1⟩
def args0 : Array Value := #[.int 5, .int 3, .int 15, .int 6]
def aboutOver (below : List Frame) : State where
  vm := { classes := classes, interned := interned.toArray }
  heap := heap
  slotsUsed := slotsUsed
  threads := #[{ frames := .invoking theMethod args0 :: below }]
def below0 : List Frame := [.native { method := ⟨0, 0⟩, args := #[] }]
def about1 : State := aboutOver below0
def p0 : Program := .bare "" "" ""
def e0 : Env := launch0.env 0 0 0
theorem w_frames : about1.frames = Frame.invoking theMethod args0 :: below0 := rfl
set_option maxRecDepth 65536 in
theorem w_args : argsFit about1.vm theMethod args0 = true := by decide +kernel
set_option maxRecDepth 65536 in
theorem w_heap : heapFits about1 = true := by decide +kernel
set_option maxRecDepth 65536 in
theorem w_runnable : about1.curStatus? = some .runnable := by decide +kernel
set_option maxRecDepth 65536 in
theorem w_alone : about1.alone = true := by decide +kernel
set_option maxRecDepth 65536 in
theorem w_named : about1.methodNamed? x = some theMethod := by decide +kernel
set_option maxRecDepth 65536 in
theorem w_hears : about1.hears theMethod below0 = true := by decide +kernel
set_option maxRecDepth 65536 in
theorem w_ripe : about1.ripe theMethod args0 below0 = true := by decide +kernel
theorem w_running : about1.status = .running := rfl
set_option maxRecDepth 65536 in
theorem w_room : about1.hasRoom e0.platform room_1 = true :=
  launch0.hasRoom_least _ room_1 (by decide +kernel) (by decide +kernel) (by decide +kernel) (by decide +kernel) (by decide +kernel) (by decide +kernel)
theorem allAtoms_all (ts : List Jvm.Cond) (a : Array Jvm.Value) (st : Jvm.State) : (allAtoms ts).before a st = ts.all (fun c => c.before a st) := by
  induction ts with
  | nil => rfl
  | cons c t ih =>
    show (Jvm.Cond.and c (allAtoms t)).before a st = _
    rw [Jvm.Cond.before_and, ih, List.all_cons]
def words1 : List Jvm.Cond := Jvm.Cond.code x code maxLocals ret :: tables_1
/-- a 'code' word, met by the world's own term for the bytes: nothing is compared byte by byte -/
theorem code_word {y : MethodName} {bytes : ByteArray} {mx : Nat} {rt : Option FieldType} {a : Array Value} {s : State} {m : MethodId} {meth : Method} {c : Code} (h1 : s.methodNamed? y = some m) (h2 : s.vm.method? m = some meth) (h3 : meth.code = some c) (h4 : c.code = bytes)
    (h5 : (c.maxLocals == mx && c.exceptionTable.isEmpty && decide (c.maxStack ≤ mostOperands) && decide (meth.sig.returnType = rt) && !meth.locks && decide (parseMethodDescriptor y.desc = some meth.sig)) = true) : (Jvm.Cond.code y bytes mx rt).before a s = true := by
  simp only [Bool.and_eq_true, beq_iff_eq, Bool.not_eq_true', decide_eq_true_eq] at h5
  obtain ⟨⟨⟨⟨⟨g1, g2⟩, g3⟩, g4⟩, g5⟩, g6⟩ := h5
  simp [Cond.before, Cond.holds, Cond.value, h1, h2, h3, h4, g1, g2, g3, g4, g5, g6]
def isCode : Jvm.Cond → Bool
  | .code _ _ _ _ => true
  | _ => false
theorem all_split {L : List Jvm.Cond} {P : Jvm.Cond → Bool} (h1 : L.all (fun c => isCode c || P c) = true) (h2 : ∀ c ∈ L.filter isCode, P c = true) : L.all P = true := by
  refine List.all_eq_true.mpr fun c hc => ?_
  have h := List.all_eq_true.mp h1 c hc
  rcases Bool.eq_false_or_eq_true (isCode c) with hi | hi
  · exact h2 c (List.mem_filter.mpr ⟨hc, hi⟩)
  · simpa [hi] using h
set_option maxRecDepth 65536 in
theorem w_c0 : (Jvm.Cond.code x code maxLocals ret).before args0 about1 = true := code_word (m := ⟨1, 1⟩) (meth := k1m1) (c := k1c1) (by decide +kernel) rfl rfl rfl (by decide +kernel)
set_option maxRecDepth 65536 in
theorem w_c1 : (Jvm.Cond.code ({ cls := "com/example/kerros/kerros/store/SortedChunks", name := "<init>", desc := "(I[JI)V" } : Jvm.MethodName) prog_86_method_2_code (8 : Nat) (Option.none : Option Jvm.ClassFile.FieldType)).before args0 about1 = true := code_word (m := ⟨2, 0⟩) (meth := k2m0) (c := k2c0) (by decide +kernel) rfl rfl rfl (by decide +kernel)
set_option maxRecDepth 65536 in
theorem w_c2 : (Jvm.Cond.code ({ cls := "java/lang/Object", name := "<init>", desc := "()V" } : Jvm.MethodName) object_method_1_code (1 : Nat) (Option.none : Option Jvm.ClassFile.FieldType)).before args0 about1 = true := code_word (m := ⟨0, 0⟩) (meth := k0m0) (c := k0c0) (by decide +kernel) rfl rfl rfl (by decide +kernel)
set_option maxRecDepth 65536 in
theorem w_c3 : (Jvm.Cond.code ({ cls := "java/lang/Math", name := "max", desc := "(II)I" } : Jvm.MethodName) jdk_29_method_65_code (2 : Nat) (Option.some Jvm.ClassFile.FieldType.int)).before args0 about1 = true := code_word (m := ⟨3, 1⟩) (meth := k3m1) (c := k3c1) (by decide +kernel) rfl rfl rfl (by decide +kernel)
set_option maxRecDepth 65536 in
theorem w_c4 : (Jvm.Cond.code ({ cls := "java/lang/Math", name := "min", desc := "(II)I" } : Jvm.MethodName) jdk_29_method_69_code (2 : Nat) (Option.some Jvm.ClassFile.FieldType.int)).before args0 about1 = true := code_word (m := ⟨3, 2⟩) (meth := k3m2) (c := k3c2) (by decide +kernel) rfl rfl rfl (by decide +kernel)
set_option maxRecDepth 65536 in
theorem w_c5 : (Jvm.Cond.code ({ cls := "java/util/Arrays", name := "copyOfRange", desc := "([JII)[J" } : Jvm.MethodName) jdk_65_method_138_code (3 : Nat) (Option.some (Jvm.ClassFile.FieldType.array Jvm.ClassFile.FieldType.long))).before args0 about1 = true := code_word (m := ⟨5, 3⟩) (meth := k5m3) (c := k5c3) (by decide +kernel) rfl rfl rfl (by decide +kernel)
set_option maxRecDepth 65536 in
theorem w_c6 : (Jvm.Cond.code ({ cls := "java/util/Arrays", name := "copyOfRangeLong", desc := "([JII)[J" } : Jvm.MethodName) jdk_65_method_139_code (5 : Nat) (Option.some (Jvm.ClassFile.FieldType.array Jvm.ClassFile.FieldType.long))).before args0 about1 = true := code_word (m := ⟨5, 4⟩) (meth := k5m4) (c := k5c4) (by decide +kernel) rfl rfl rfl (by decide +kernel)
set_option maxRecDepth 65536 in
theorem w_c7 : (Jvm.Cond.code ({ cls := "java/util/Arrays", name := "checkLength", desc := "(II)V" } : Jvm.MethodName) jdk_65_method_131_code (2 : Nat) (Option.none : Option Jvm.ClassFile.FieldType)).before args0 about1 = true := code_word (m := ⟨5, 2⟩) (meth := k5m2) (c := k5c2) (by decide +kernel) rfl rfl rfl (by decide +kernel)
set_option maxRecDepth 65536 in
theorem w_c8 : (Jvm.Cond.code ({ cls := "com/example/kerros/kerros/store/SortedChunks$Chunk", name := "<init>", desc := "([JI)V" } : Jvm.MethodName) prog_87_method_1_code (3 : Nat) (Option.none : Option Jvm.ClassFile.FieldType)).before args0 about1 = true := code_word (m := ⟨4, 0⟩) (meth := k4m0) (c := k4c0) (by decide +kernel) rfl rfl rfl (by decide +kernel)
set_option maxRecDepth 65536 in
theorem w_c9 : (Jvm.Cond.code ({ cls := "com/example/kerros/kerros/store/SortedChunks", name := "isEmpty", desc := "()Z" } : Jvm.MethodName) prog_86_method_12_code (1 : Nat) (Option.some Jvm.ClassFile.FieldType.boolean)).before args0 about1 = true := code_word (m := ⟨2, 4⟩) (meth := k2m4) (c := k2c4) (by decide +kernel) rfl rfl rfl (by decide +kernel)
set_option maxRecDepth 65536 in
theorem w_c10 : (Jvm.Cond.code ({ cls := "com/example/kerros/kerros/store/SortedChunks", name := "insert", desc := "(J)J" } : Jvm.MethodName) prog_86_method_10_code (9 : Nat) (Option.some Jvm.ClassFile.FieldType.long)).before args0 about1 = true := code_word (m := ⟨2, 2⟩) (meth := k2m2) (c := k2c2) (by decide +kernel) rfl rfl rfl (by decide +kernel)
set_option maxRecDepth 65536 in
theorem w_c11 : (Jvm.Cond.code ({ cls := "com/example/kerros/kerros/store/SortedChunks", name := "chunkOf", desc := "(J)I" } : Jvm.MethodName) prog_86_method_17_code (2 : Nat) (Option.some Jvm.ClassFile.FieldType.int)).before args0 about1 = true := code_word (m := ⟨2, 5⟩) (meth := k2m5) (c := k2c5) (by decide +kernel) rfl rfl rfl (by decide +kernel)
set_option maxRecDepth 65536 in
theorem w_c12 : (Jvm.Cond.code ({ cls := "com/example/kerros/kerros/store/SortedChunks", name := "indexOf", desc := "(J)I" } : Jvm.MethodName) prog_86_method_18_code (2 : Nat) (Option.some Jvm.ClassFile.FieldType.int)).before args0 about1 = true := code_word (m := ⟨2, 6⟩) (meth := k2m6) (c := k2c6) (by decide +kernel) rfl rfl rfl (by decide +kernel)
set_option maxRecDepth 65536 in
theorem w_c13 : (Jvm.Cond.code ({ cls := "com/example/kerros/kerros/store/SortedChunks$Chunk", name := "insert", desc := "(II)V" } : Jvm.MethodName) prog_87_method_3_code (3 : Nat) (Option.none : Option Jvm.ClassFile.FieldType)).before args0 about1 = true := code_word (m := ⟨4, 1⟩) (meth := k4m1) (c := k4c1) (by decide +kernel) rfl rfl rfl (by decide +kernel)
set_option maxRecDepth 65536 in
theorem w_c14 : (Jvm.Cond.code ({ cls := "com/example/kerros/kerros/store/SortedChunks$Chunk", name := "grown", desc := "(I)I" } : Jvm.MethodName) prog_87_method_7_code (1 : Nat) (Option.some Jvm.ClassFile.FieldType.int)).before args0 about1 = true := code_word (m := ⟨4, 3⟩) (meth := k4m3) (c := k4c3) (by decide +kernel) rfl rfl rfl (by decide +kernel)
set_option maxRecDepth 65536 in
theorem w_c15 : (Jvm.Cond.code ({ cls := "java/util/Arrays", name := "copyOf", desc := "([JI)[J" } : Jvm.MethodName) jdk_65_method_124_code (3 : Nat) (Option.some (Jvm.ClassFile.FieldType.array Jvm.ClassFile.FieldType.long))).before args0 about1 = true := code_word (m := ⟨5, 1⟩) (meth := k5m1) (c := k5c1) (by decide +kernel) rfl rfl rfl (by decide +kernel)
set_option maxRecDepth 65536 in
theorem w_c16 : (Jvm.Cond.code ({ cls := "com/example/kerros/kerros/store/SortedChunks", name := "setWord", desc := "(JIJ)V" } : Jvm.MethodName) prog_86_method_9_code (6 : Nat) (Option.none : Option Jvm.ClassFile.FieldType)).before args0 about1 = true := code_word (m := ⟨2, 1⟩) (meth := k2m1) (c := k2c1) (by decide +kernel) rfl rfl rfl (by decide +kernel)
set_option maxRecDepth 65536 in
theorem w_c17 : (Jvm.Cond.code ({ cls := "com/example/kerros/kerros/store/SortedChunks", name := "remove", desc := "(J)V" } : Jvm.MethodName) prog_86_method_11_code (4 : Nat) (Option.none : Option Jvm.ClassFile.FieldType)).before args0 about1 = true := code_word (m := ⟨2, 3⟩) (meth := k2m3) (c := k2c3) (by decide +kernel) rfl rfl rfl (by decide +kernel)
set_option maxRecDepth 65536 in
theorem w_c18 : (Jvm.Cond.code ({ cls := "com/example/kerros/kerros/store/SortedChunks$Chunk", name := "remove", desc := "(II)V" } : Jvm.MethodName) prog_87_method_4_code (3 : Nat) (Option.none : Option Jvm.ClassFile.FieldType)).before args0 about1 = true := code_word (m := ⟨4, 2⟩) (meth := k4m2) (c := k4c2) (by decide +kernel) rfl rfl rfl (by decide +kernel)
def codes1 : List Jvm.Cond := [Jvm.Cond.code x code maxLocals ret, Jvm.Cond.code ({ cls := "com/example/kerros/kerros/store/SortedChunks", name := "<init>", desc := "(I[JI)V" } : Jvm.MethodName) prog_86_method_2_code (8 : Nat) (Option.none : Option Jvm.ClassFile.FieldType), Jvm.Cond.code ({ cls := "java/lang/Object", name := "<init>", desc := "()V" } : Jvm.MethodName) object_method_1_code (1 : Nat) (Option.none : Option Jvm.ClassFile.FieldType), Jvm.Cond.code ({ cls := "java/lang/Math", name := "max", desc := "(II)I" } : Jvm.MethodName) jdk_29_method_65_code (2 : Nat) (Option.some Jvm.ClassFile.FieldType.int), Jvm.Cond.code ({ cls := "java/lang/Math", name := "min", desc := "(II)I" } : Jvm.MethodName) jdk_29_method_69_code (2 : Nat) (Option.some Jvm.ClassFile.FieldType.int), Jvm.Cond.code ({ cls := "java/util/Arrays", name := "copyOfRange", desc := "([JII)[J" } : Jvm.MethodName) jdk_65_method_138_code (3 : Nat) (Option.some (Jvm.ClassFile.FieldType.array Jvm.ClassFile.FieldType.long)), Jvm.Cond.code ({ cls := "java/util/Arrays", name := "copyOfRangeLong", desc := "([JII)[J" } : Jvm.MethodName) jdk_65_method_139_code (5 : Nat) (Option.some (Jvm.ClassFile.FieldType.array Jvm.ClassFile.FieldType.long)), Jvm.Cond.code ({ cls := "java/util/Arrays", name := "checkLength", desc := "(II)V" } : Jvm.MethodName) jdk_65_method_131_code (2 : Nat) (Option.none : Option Jvm.ClassFile.FieldType), Jvm.Cond.code ({ cls := "com/example/kerros/kerros/store/SortedChunks$Chunk", name := "<init>", desc := "([JI)V" } : Jvm.MethodName) prog_87_method_1_code (3 : Nat) (Option.none : Option Jvm.ClassFile.FieldType), Jvm.Cond.code ({ cls := "com/example/kerros/kerros/store/SortedChunks", name := "isEmpty", desc := "()Z" } : Jvm.MethodName) prog_86_method_12_code (1 : Nat) (Option.some Jvm.ClassFile.FieldType.boolean), Jvm.Cond.code ({ cls := "com/example/kerros/kerros/store/SortedChunks", name := "insert", desc := "(J)J" } : Jvm.MethodName) prog_86_method_10_code (9 : Nat) (Option.some Jvm.ClassFile.FieldType.long), Jvm.Cond.code ({ cls := "com/example/kerros/kerros/store/SortedChunks", name := "chunkOf", desc := "(J)I" } : Jvm.MethodName) prog_86_method_17_code (2 : Nat) (Option.some Jvm.ClassFile.FieldType.int), Jvm.Cond.code ({ cls := "com/example/kerros/kerros/store/SortedChunks", name := "indexOf", desc := "(J)I" } : Jvm.MethodName) prog_86_method_18_code (2 : Nat) (Option.some Jvm.ClassFile.FieldType.int), Jvm.Cond.code ({ cls := "com/example/kerros/kerros/store/SortedChunks$Chunk", name := "insert", desc := "(II)V" } : Jvm.MethodName) prog_87_method_3_code (3 : Nat) (Option.none : Option Jvm.ClassFile.FieldType), Jvm.Cond.code ({ cls := "com/example/kerros/kerros/store/SortedChunks$Chunk", name := "grown", desc := "(I)I" } : Jvm.MethodName) prog_87_method_7_code (1 : Nat) (Option.some Jvm.ClassFile.FieldType.int), Jvm.Cond.code ({ cls := "java/util/Arrays", name := "copyOf", desc := "([JI)[J" } : Jvm.MethodName) jdk_65_method_124_code (3 : Nat) (Option.some (Jvm.ClassFile.FieldType.array Jvm.ClassFile.FieldType.long)), Jvm.Cond.code ({ cls := "com/example/kerros/kerros/store/SortedChunks", name := "setWord", desc := "(JIJ)V" } : Jvm.MethodName) prog_86_method_9_code (6 : Nat) (Option.none : Option Jvm.ClassFile.FieldType), Jvm.Cond.code ({ cls := "com/example/kerros/kerros/store/SortedChunks", name := "remove", desc := "(J)V" } : Jvm.MethodName) prog_86_method_11_code (4 : Nat) (Option.none : Option Jvm.ClassFile.FieldType), Jvm.Cond.code ({ cls := "com/example/kerros/kerros/store/SortedChunks$Chunk", name := "remove", desc := "(II)V" } : Jvm.MethodName) prog_87_method_4_code (3 : Nat) (Option.none : Option Jvm.ClassFile.FieldType)]
set_option maxRecDepth 65536 in
theorem codes_eq : words1.filter isCode = codes1 := rfl
theorem w_codes : ∀ c ∈ words1.filter isCode, c.before args0 about1 = true := by
  rw [codes_eq]
  intro c hc
  simp only [codes1, List.mem_cons, List.not_mem_nil, or_false] at hc
  rcases hc with rfl | rfl | rfl | rfl | rfl | rfl | rfl | rfl | rfl | rfl | rfl | rfl | rfl | rfl | rfl | rfl | rfl | rfl | rfl
  · exact w_c0
  · exact w_c1
  · exact w_c2
  · exact w_c3
  · exact w_c4
  · exact w_c5
  · exact w_c6
  · exact w_c7
  · exact w_c8
  · exact w_c9
  · exact w_c10
  · exact w_c11
  · exact w_c12
  · exact w_c13
  · exact w_c14
  · exact w_c15
  · exact w_c16
  · exact w_c17
  · exact w_c18
set_option maxRecDepth 65536 in
theorem w_t1 : (words1.take 24).all (fun c => isCode c || c.before args0 about1) = true := by decide +kernel
set_option maxRecDepth 65536 in
theorem w_t2 : ((words1.drop 24).take 24).all (fun c => isCode c || c.before args0 about1) = true := by decide +kernel
set_option maxRecDepth 65536 in
theorem w_t3 : (((words1.drop 24).drop 24).take 24).all (fun c => isCode c || c.before args0 about1) = true := by decide +kernel
set_option maxRecDepth 65536 in
theorem w_t4 : ((((words1.drop 24).drop 24).drop 24).take 24).all (fun c => isCode c || c.before args0 about1) = true := by decide +kernel
set_option maxRecDepth 65536 in
theorem w_t5 : ((((words1.drop 24).drop 24).drop 24).drop 24).all (fun c => isCode c || c.before args0 about1) = true := by decide +kernel
theorem w_tables : (allAtoms (Jvm.Cond.code x code maxLocals ret :: tables_1)).before args0 about1 = true := by
  rw [allAtoms_all]
  show words1.all (fun c => c.before args0 about1) = true
  refine all_split ?_ w_codes
  rw [← List.take_append_drop 24 words1, List.all_append, w_t1, ← List.take_append_drop 24 (words1.drop 24), List.all_append, w_t2, ← List.take_append_drop 24 ((words1.drop 24).drop 24), List.all_append, w_t3, ← List.take_append_drop 24 (((words1.drop 24).drop 24).drop 24), List.all_append, w_t4, w_t5]
  rfl
set_option maxRecDepth 65536 in
theorem w_case : (Jvm.Cond.and given_1 narrow_1).before args0 about1 = true := by decide +kernel
theorem w_applies : (headSpec (Jvm.Cond.code x code maxLocals ret :: tables_1) room_1).applies x e0.platform about1 = true :=
  (Spec.applies_iff w_frames).mpr ⟨w_running, w_runnable, w_alone, w_named, w_hears, w_ripe, w_room, w_tables⟩
theorem atStart : AtStart classFile x code maxLocals ret World_1 tables_1 room_1 Calls_1 rest_1 Pre_1 launch0 p0 e0 about1 theMethod args0 below0 :=
  ⟨lists_1, trivial, launch0.admits_env _ _ _, launch0.least_env, fairChoices_fair.cas, fairChoices_fair.clock, w_frames, w_args, w_heap, w_applies, trivial, trivial, w_case⟩
end start1
theorem witness_1 : WitnessClaimed_1 := ⟨start1.p0, start1.e0, start1.about1, start1.theMethod, start1.args0, start1.below0, start1.atStart⟩
end Jvm.Pilot.@@N@@
