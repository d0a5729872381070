import JvmDerived
import JvmDerived.Pilot.@@N@@Statement
import JvmDerived.Pilot.@@N@@Code
set_option linter.unusedVariables false
set_option linter.unusedSimpArgs false
namespace Jvm.Pilot.@@N@@
open Jvm Jvm.ClassFile Sem Op Lib Jvm.Free Jvm.Stand Jvm.LawKit Jvm.RoadKit Bundle Jvm.Pilot.@@N@@.Jvm.D
/-- what a walk must still come to -/
def OwnG (p : Program) (e : Env) (below : List Frame) (s : State) (C S : Nat) (Q : Option Value → Heap → List Loc → Prop) (A : State) : Prop :=
  ∃ s₂ o, Steps p.tables e below A s₂ ∧ s₂.status = .running ∧ Ended s₂ below o ∧ ∃ v L, o = .returned v ∧ Q v s₂.heap L ∧ FrameEnd s o s₂ L C S
theorem OwnG.go {p : Program} {e : Env} {below : List Frame} {s : State} {C S : Nat} {Q : Option Value → Heap → List Loc → Prop} {A B : State} (h : ∀ t, Steps p.tables e below A t → Steps p.tables e below B t) (k : OwnG p e below s C S Q A) : OwnG p e below s C S Q B := by
  obtain ⟨s₂, o, k1, k2⟩ := k
  exact ⟨s₂, o, h _ k1, k2⟩
theorem own_fin {p : Program} {l : Launch} {e : Env} {R : Room} {s : State} {m : MethodId} {args : Array Value} {below : List Frame} {meth : Method} {c : Code} {T : State} {locs : List Loc} {cells slots : Nat}
    (X : Stand p l e R s m args below meth c T locs cells slots) {C S : Nat} {Q : Option Value → Heap → List Loc → Prop} (hlocks : meth.locks = false) {v : Option Value} (hv : meth.sig.returnType = none → v = none) {A : State}
    (hst : ∀ fs, (∀ (f : JFrame) (acts : List Action), f.method = m → f.locked = none → f.entered = [] → (doReturn e (T.setTop f) acts v).1 = T.setFrames fs) → Steps p.tables e below A (T.setFrames fs))
    (hQ : Q v T.heap locs) (hc : cells ≤ C) (hs : slots ≤ S) : OwnG p e below s C S Q A := by
  obtain ⟨fs, hr, hrun, hended, hW, hsame⟩ := X.leave (v := v) hv hlocks
  exact ⟨_, _, hst fs hr, hrun, hended, v, locs, rfl, hQ, ⟨_, rfl⟩, hW, hsame.mono hc hs⟩
def OwnGW (p : Program) (e : Env) (below : List Frame) (s : State) (C S : Nat) (Q : Option Value → Heap → List Loc → Prop) (A : State) : Prop :=
  ∃ s₂ o, Steps p.tables e below A s₂ ∧ s₂.status = .running ∧ Ended s₂ below o ∧ ∃ v L, o = .returned v ∧ Q v s₂.heap L ∧ ReturnedEndW s o s₂ L C S
theorem OwnGW.go {p : Program} {e : Env} {below : List Frame} {s : State} {C S : Nat} {Q : Option Value → Heap → List Loc → Prop} {A B : State} (h : ∀ t, Steps p.tables e below A t → Steps p.tables e below B t) (k : OwnGW p e below s C S Q A) : OwnGW p e below s C S Q B := by
  obtain ⟨s₂, o, k1, k2⟩ := k
  exact ⟨s₂, o, h _ k1, k2⟩
theorem own_finW {p : Program} {l : Launch} {e : Env} {R : Room} {s : State} {vm₁ : Vm} {m : MethodId} {args : Array Value} {below : List Frame} {meth : Method} {c : Code} {T : State} {locs : List Loc} {cells slots n : Nat}
    (X : Stand p l e R (s.setVm vm₁) m args below meth c T locs cells slots) (hS : s.Since vm₁ n) (hn : n ≤ T.heap.size) {C S : Nat} {Q : Option Value → Heap → List Loc → Prop} (hlocks : meth.locks = false) {v : Option Value} (hv : meth.sig.returnType = none → v = none) {A : State}
    (hst : ∀ fs, (∀ (f : JFrame) (acts : List Action), f.method = m → f.locked = none → f.entered = [] → (doReturn e (T.setTop f) acts v).1 = T.setFrames fs) → Steps p.tables e below A (T.setFrames fs))
    (hQ : Q v T.heap locs) (hc : cells ≤ C) (hs : slots ≤ S) : OwnGW p e below s C S Q A := by
  obtain ⟨fs, hr, hrun, hended, hW⟩ := X.leaveW hS hn (v := v) hv hlocks
  exact ⟨_, _, hst fs hr, hrun, hended, v, locs, rfl, hQ, hW.1, hW.2.1, hW.2.2.1, hW.2.2.2.mono hc hs⟩
theorem own_lrem {p : Program} {l : Launch} {e : Env} {R : Room} {s : State} {m : MethodId} {args : Array Value} {below : List Frame} {meth : Method} {c : Code} {T : State} {locs : List Loc} {cells slots : Nat} {g : JFrame} {target : State}
    (X : Stand p l e R s m args below meth c T locs cells slots) (hx : p.tables.exec = Jvm.exec) (hg : g.method = m) {x y : Int64} {rest : List Value} (hd : decode c.code g.pc = .ok (.lrem, 1)) (hs : g.stack = .long y :: .long x :: rest) (hy : y ≠ 0)
    (hr : Steps p.tables e below (T.setTop { g with pc := g.pc + 1, stack := .long (x % y) :: rest }) target) : Steps p.tables e below (T.setTop g) target := by
  have q : x - x / y * y = x % y := lrem_mod x y
  exact XS.lrem X.here hx hg hd hs hy (by rw [q]; exact hr)
theorem own_selpriv {Z s : State} {args a0 : Array Value} {y z : MethodName} (hZ : Z.Warmed39 s.vm) (wsel : (Jvm.Cond.selects z.cls z z).before a0 Z = true) (hz : z.cls = y.cls) (wpriv : (Jvm.Cond.privateMethod y).before a0 Z = true) (winst : (Jvm.Cond.instanceMethod y).before a0 Z = true)
    (hy : y.cls ≠ "java/lang/invoke/MethodHandle" ∧ y.cls ≠ "java/lang/invoke/VarHandle") : (Jvm.Cond.selects y.cls y y).before args s = true := by
  have ws : (Jvm.Cond.selects z.cls z z).before args s = true := mvT hZ wsel
  obtain ⟨c2, r2, m2, q1, q2, q3, q4, kP, hkP, hkPi⟩ := Cond.selects_spec ws
  exact selects_self_of_private (c := m2.cls) (k := kP) (hz ▸ findClass_of_methodNamed q3) hkP hkPi (Cond.privateMethod_at (mvP hZ wpriv (args := #[]))) (mvT hZ winst) hy
theorem own_exa_cell {Z : State} {h : Heap} {a : Addr} {C : String} (E : Exa Z h a C) : ∃ c : Cell, h[a]? = some c ∧ c.vm.isStatics = false := by
  obtain ⟨cell, k, h1, h2, h3, h4, -⟩ := E
  exact ⟨cell, h1, h4⟩
theorem own_sta_keep {Z : State} {h h' : Heap} {C n d : String} {v : Value} {ws : List Addr} (S : Sta Z h C n d v) (K : Keep h h' ws) (hq : ∀ x ∈ ws, ∃ c : Cell, h[x]? = some c ∧ c.vm.isStatics = false) : Sta Z h' C n d v := by
  obtain ⟨cf, i, k, f, st, cell, h1, h2, h3, h4, h5, h6, h7⟩ := S
  refine ⟨cf, i, k, f, st, cell, h1, h2, h3, h4, K.2.1 st cell h5 (fun q => ?_), h6, h7⟩
  obtain ⟨c, c1, c2⟩ := hq st q
  cases h5.symm.trans c1
  rw [h6] at c2; cases c2
theorem own_lclt {a b : Int64} : lcmpW a b < 0 ↔ a < b := by
  unfold lcmpW
  by_cases h1 : a > b
  · simp only [h1, if_true]
    refine ⟨fun h => absurd h (by decide), fun h => ?_⟩
    rw [Int64.lt_iff_toInt_lt] at h; rw [gt_iff_lt, Int64.lt_iff_toInt_lt] at h1; omega
  · by_cases h2 : a = b
    · subst h2; simp [h1]
    · simp only [h1, h2, if_false]
      refine ⟨fun _ => ?_, fun _ => by decide⟩
      rw [gt_iff_lt, Int64.lt_iff_toInt_lt] at h1; rw [Int64.lt_iff_toInt_lt]
      have : a.toInt ≠ b.toInt := fun q => h2 (Int64.toInt_inj.mp q)
      omega
theorem own_lceq {a b : Int64} : lcmpW a b = 0 ↔ a = b := by
  unfold lcmpW
  by_cases h1 : a > b
  · simp only [h1, if_true]
    refine ⟨fun h => absurd h (by decide), fun h => ?_⟩
    subst h; rw [gt_iff_lt, Int64.lt_iff_toInt_lt] at h1; omega
  · by_cases h2 : a = b
    · subst h2; simp [h1]
    · simp only [h1, h2, if_false]
      exact ⟨fun h => absurd h (by decide), fun h => h.elim⟩
theorem own_lcgt {a b : Int64} : 0 < lcmpW a b ↔ b < a := by
  unfold lcmpW
  by_cases h1 : a > b
  · rw [if_pos h1]
    exact ⟨fun _ => h1, fun _ => by decide⟩
  · rw [if_neg h1]
    refine ⟨fun h => ?_, fun h => absurd h h1⟩
    by_cases h2 : a = b
    · rw [if_pos h2] at h; exact absurd h (by decide)
    · rw [if_neg h2] at h; exact absurd h (by decide)

theorem own_mask32 (x m : Int32) (h : 0 ≤ m.toInt) : 0 ≤ (x &&& m).toInt ∧ (x &&& m).toInt ≤ m.toInt := by
  have e : (x &&& m).toInt = (x.toBitVec &&& m.toBitVec).toInt := rfl
  have em : m.toInt = m.toBitVec.toInt := rfl
  have h1 : (x.toBitVec &&& m.toBitVec).toNat ≤ m.toBitVec.toNat := by rw [BitVec.toNat_and]; exact Nat.and_le_right
  have h2 := m.toBitVec.isLt
  rw [BitVec.toInt_eq_toNat_cond] at e em
  rw [em] at h
  rw [e, em]
  generalize (x.toBitVec &&& m.toBitVec).toNat = u at *
  generalize m.toBitVec.toNat = w at *
  split at h <;> split <;> omega
theorem own_mask64 (x m : Int64) (h : 0 ≤ m.toInt) : 0 ≤ (x &&& m).toInt ∧ (x &&& m).toInt ≤ m.toInt := by
  have e : (x &&& m).toInt = (x.toBitVec &&& m.toBitVec).toInt := rfl
  have em : m.toInt = m.toBitVec.toInt := rfl
  have h1 : (x.toBitVec &&& m.toBitVec).toNat ≤ m.toBitVec.toNat := by rw [BitVec.toNat_and]; exact Nat.and_le_right
  have h2 := m.toBitVec.isLt
  rw [BitVec.toInt_eq_toNat_cond] at e em
  rw [em] at h
  rw [e, em]
  generalize (x.toBitVec &&& m.toBitVec).toNat = u at *
  generalize m.toBitVec.toNat = w at *
  split at h <;> split <;> omega
theorem own_add32 {a b : Int32} (h1 : -2147483648 ≤ a.toInt + b.toInt) (h2 : a.toInt + b.toInt < 2147483648) : (a + b).toInt = a.toInt + b.toInt := by
  rw [Int32.toInt_add, Int.bmod_def]; omega
theorem own_sub32 {a b : Int32} (h1 : -2147483648 ≤ a.toInt - b.toInt) (h2 : a.toInt - b.toInt < 2147483648) : (a - b).toInt = a.toInt - b.toInt := by
  rw [Int32.toInt_sub, Int.bmod_def]; omega
theorem own_add64 {a b : Int64} (h1 : -9223372036854775808 ≤ a.toInt + b.toInt) (h2 : a.toInt + b.toInt < 9223372036854775808) : (a + b).toInt = a.toInt + b.toInt := by
  rw [Int64.toInt_add, Int.bmod_def]; omega
theorem own_sub64 {a b : Int64} (h1 : -9223372036854775808 ≤ a.toInt - b.toInt) (h2 : a.toInt - b.toInt < 9223372036854775808) : (a - b).toInt = a.toInt - b.toInt := by
  rw [Int64.toInt_sub, Int.bmod_def]; omega
theorem own_mul64 {a b : Int64} (h1 : -9223372036854775808 ≤ a.toInt * b.toInt) (h2 : a.toInt * b.toInt < 9223372036854775808) : (a * b).toInt = a.toInt * b.toInt := by
  rw [Int64.toInt_mul, Int.bmod_def]
  generalize a.toInt * b.toInt = z at *
  omega
theorem own_rem32 {a b : Int32} (h1 : 0 ≤ a.toInt) (h2 : 0 < b.toInt) : (a % b).toInt = a.toInt % b.toInt := by
  rw [Int32.toInt_mod, Int.tmod_eq_emod_of_nonneg h1]
theorem own_rem64 {a b : Int64} (h1 : 0 ≤ a.toInt) (h2 : 0 < b.toInt) : (a % b).toInt = a.toInt % b.toInt := by
  rw [Int64.toInt_mod, Int.tmod_eq_emod_of_nonneg h1]


section OwnDV
open Jvm.FP Jvm.FP.Core Jvm.Free.Fl
/-- a is finite, and worth z of the least doubles -/
def OwnDV (a : UInt64) (z : Int) : Prop := (∃ s c q, val64 a = .fin s c q) ∧ zval b64 (val64 a) = z
theorem OwnDV.nn {a : UInt64} {z : Int} (h : OwnDV a z) : NoNaN64 a := by
  obtain ⟨⟨s, c, q, e⟩, -⟩ := h
  exact val64_no.mpr (by rw [e]; intro k; cases k)
theorem OwnDV.of_int {a : UInt64} {i : Int} (h : DInt i a) : OwnDV a (i * (one64 : Int)) := by
  refine ⟨?_, DInt_zval h⟩
  unfold DInt at h
  cases e : val64 a with
  | nan => rw [e] at h; exact h.elim
  | inf s => rw [e] at h; exact h.elim
  | fin s c q => exact ⟨s, c, q, rfl⟩
theorem own_zabs (f : Fmt) (d : Datum) : (zval f d).natAbs = zmag f d := by unfold zval; exact natAbs_signed _ _
/-- the quotient of two finite doubles, the divisor above nought -/
theorem own_ddiv {a b : UInt64} {A B : Int} (ha : OwnDV a A) (hb : OwnDV b B) (hB : 0 < B) :
    NoNaN64 (FP.ddiv a b) ∧ (A ≤ 0 → zval b64 (val64 (FP.ddiv a b)) ≤ 0) ∧ (0 ≤ A → 0 ≤ zval b64 (val64 (FP.ddiv a b))) ∧
    (∀ V : Datum, Core.fits b64 V → V ≠ .nan → 0 ≤ A → 0 ≤ zval b64 V → A * (one64 : Int) ≤ zval b64 V * B → zval b64 (val64 (FP.ddiv a b)) ≤ zval b64 V) ∧
    (∀ V : Datum, Core.fits b64 V → 0 ≤ A → 0 ≤ zval b64 V → zval b64 V * B ≤ A * (one64 : Int) → zval b64 V ≤ zval b64 (val64 (FP.ddiv a b))) := by
  have fa := val64_fits a; have fb := val64_fits b
  obtain ⟨⟨s, c, q, ea⟩, za⟩ := ha
  obtain ⟨⟨t, d, r, eb⟩, zb⟩ := hb
  have ev : val64 (FP.ddiv a b) = quotient b64 (val64 a) (val64 b) := val64_ddiv a b
  rw [ea] at za fa ev; rw [eb] at zb fb ev
  have zb' : d * 2 ^ (r - b64.qmin).toNat = B.toNat := by
    have := own_zabs b64 (.fin t d r); rw [zb] at this; show zmag b64 (.fin t d r) = _; omega
  have za' : c * 2 ^ (q - b64.qmin).toNat = A.natAbs := by
    have := own_zabs b64 (.fin s c q); rw [za] at this; exact this.symm
  have hd : d ≠ 0 := by rintro rfl; rw [Nat.zero_mul] at zb'; omega
  have ht : t = false := by
    cases t
    · rfl
    · have : zval b64 (.fin true d r) = -((d * 2 ^ (r - b64.qmin).toNat : Nat) : Int) := rfl
      rw [zb, zb'] at this; omega
  subst ht
  have ev : val64 (FP.ddiv a b) = roundRatio b64 (s != false) c d (q - r) := by rw [ev]; show (if d = 0 then _ else _) = _; rw [if_neg hd]
  have hd0 : 0 < d := Nat.pos_of_ne_zero hd
  have hsg : ∀ x : Datum, x = roundRatio b64 (s != false) c d (q - r) → x ≠ .nan ∧ sgn x = s := by
    intro x hx
    rcases roundRatio_cases b64 (s != false) c d (q - r) with ⟨c', q', h⟩ | h
    · rw [hx, h]; exact ⟨(fun k => by cases k), by cases s <;> rfl⟩
    · rw [hx, h]; exact ⟨(fun k => by cases k), by cases s <;> rfl⟩
  obtain ⟨h1, h2⟩ := hsg _ ev
  have zz : zval b64 (val64 (FP.ddiv a b)) = signed s (zmag b64 (val64 (FP.ddiv a b))) := by unfold zval; rw [h2]
  have hsA : 0 < A → s = false := fun hA => by
    cases s
    · rfl
    · have : zval b64 (.fin true c q) = -((c * 2 ^ (q - b64.qmin).toNat : Nat) : Int) := rfl
      rw [za, za'] at this; omega
  have hsN : A < 0 → s = true := fun hA => by
    cases s
    · have : zval b64 (.fin false c q) = ((c * 2 ^ (q - b64.qmin).toNat : Nat) : Int) := rfl
      rw [za, za'] at this; omega
    · rfl
  have hz0 : A = 0 → zmag b64 (val64 (FP.ddiv a b)) = 0 := fun hA => by
    subst hA
    have hc : c = 0 := by
      have := Nat.mul_eq_zero.mp (za'.trans rfl); have p := Nat.two_pow_pos (q - b64.qmin).toNat; omega
    rw [ev, hc]; unfold roundRatio; rw [if_pos rfl]; unfold zmag inUnits; exact Nat.zero_mul _
  have e1 : b64.qmin = -1074 := by decide +kernel
  have key1 : (q - r - (2 * b64.qmin - r)).toNat = (q - b64.qmin).toNat + 1074 := by have := fa.2.1; omega
  have key2 : (b64.qmin - (2 * b64.qmin - r)).toNat = (r - b64.qmin).toNat := by have := fb.2.1; omega
  have i0 : (2 * b64.qmin - r) ≤ b64.qmin := by have := fb.2.1; omega
  have i1 : (2 * b64.qmin - r) ≤ q - r := by have := fa.2.1; omega
  have u1 : inUnits c (q - r) (2 * b64.qmin - r) = A.natAbs * one64 := by
    unfold inUnits one64; rw [key1, Nat.pow_add, ← Nat.mul_assoc, za']
  have u2 : ∀ v : Nat, v * 2 ^ (b64.qmin - (2 * b64.qmin - r)).toNat * d = v * B.toNat := fun v => by
    rw [key2, Nat.mul_assoc, Nat.mul_comm (2 ^ _) d, zb']
  refine ⟨val64_no.mpr h1, fun hA => ?_, fun hA => ?_, fun V fV nV hA hV hle => ?_, fun V fV hA hV hle => ?_⟩
  · rw [zz]
    by_cases k : A = 0
    · rw [hz0 k]; cases s <;> decide
    · rw [hsN (by omega)]; show -_ ≤ (0 : Int); omega
  · rw [zz]
    by_cases k : A = 0
    · rw [hz0 k]; cases s <;> decide
    · rw [hsA (by omega)]; show (0 : Int) ≤ ((_ : Nat) : Int); omega
  · have hm : zmag b64 (val64 (FP.ddiv a b)) ≤ zmag b64 V := by
      rw [ev]
      refine zmag_roundRatio_le good_b64 hd0 fV nV i0 i1 ?_
      rw [u1, u2]
      have := own_zabs b64 V
      have hV' : zval b64 V = (zmag b64 V : Int) := by omega
      rw [hV'] at hle
      have hA' : A = (A.natAbs : Int) := by omega
      have hB' : B = (B.toNat : Int) := by omega
      rw [hA', hB'] at hle
      exact_mod_cast hle
    have := own_zabs b64 V
    rw [zz]
    by_cases k : A = 0
    · rw [hz0 k]; cases s
      · show ((0 : Nat) : Int) ≤ _; omega
      · show -((0 : Nat) : Int) ≤ _; omega
    · rw [hsA (by omega)]; show ((_ : Nat) : Int) ≤ _; omega
  · have hm : zmag b64 V ≤ zmag b64 (val64 (FP.ddiv a b)) := by
      rw [ev]
      refine zmag_roundRatio_ge good_b64 hd0 fV i0 i1 ?_
      rw [u1, u2]
      have := own_zabs b64 V
      have hV' : zval b64 V = (zmag b64 V : Int) := by omega
      rw [hV'] at hle
      have hA' : A = (A.natAbs : Int) := by omega
      have hB' : B = (B.toNat : Int) := by omega
      rw [hA', hB'] at hle
      exact_mod_cast hle
    have := own_zabs b64 V
    rw [zz]
    by_cases k : A = 0
    · rw [hz0 k] at hm ⊢; cases s
      · show _ ≤ ((0 : Nat) : Int); omega
      · show _ ≤ -((0 : Nat) : Int); omega
    · rw [hsA (by omega)]; show _ ≤ ((_ : Nat) : Int); omega
end OwnDV


section OwnDQ
open Jvm.FP Jvm.FP.Core Jvm.Free.Fl
def ownU : Nat := 2 ^ 1064
theorem ownU_pos : (0 : Int) < (ownU : Int) := by have : 0 < ownU := by decide +kernel
                                                  omega
theorem own_ac1 (i j U : Int) : i * U * (j * U) = (i * j) * (U * U) := by ac_rfl
theorem own_ac2 (k U : Int) : k * U * (1024 * U) = (k * 1024) * (U * U) := by ac_rfl
theorem own_ac3 (i U : Int) : i * (1024 * U) = 1024 * (i * U) := by ac_rfl
theorem own_one : (one64 : Int) = 1024 * (ownU : Int) := by decide +kernel
/-- z of the least doubles is a double -/
def OwnR (z : Int) : Prop := ∃ s c q, Core.fits b64 (.fin s c q) ∧ zval b64 (.fin s c q) = z
theorem own_r_int {i : Int} (h : i.natAbs ≤ 2 ^ 53) : OwnR (i * (one64 : Int)) := by
  have e : (Int64.ofInt i).toInt = i := Int64.toInt_ofInt_of_le (by omega) (by omega)
  have d := l2d_int (a := Int64.ofInt i) (by rw [e]; exact h)
  rw [e] at d
  have o := OwnDV.of_int d
  have f := val64_fits (Core.l2d (Int64.ofInt i))
  obtain ⟨⟨s, c, q, k⟩, z⟩ := o
  rw [k] at z f
  exact ⟨s, c, q, f, z⟩
theorem own_r_q {i : Int} (h : i.natAbs ≤ 2 ^ 53) : OwnR (i * (ownU : Int)) := by
  by_cases h0 : i = 0
  · subst h0; exact ⟨false, 0, b64.qmin, by unfold Core.fits; decide +kernel, by rw [Int.zero_mul]; decide +kernel⟩
  obtain ⟨s, c, q, f, z⟩ := own_r_int h
  have e1 : b64.qmin = -1074 := by decide +kernel
  have e2 : b64.p = 53 := by decide +kernel
  obtain ⟨f1, f2, f3, f4⟩ := f
  rw [e2] at f1
  have hm : c * 2 ^ (q - b64.qmin).toNat = i.natAbs * one64 := by
    have := own_zabs b64 (.fin s c q); rw [z, Int.natAbs_mul, Int.natAbs_natCast] at this; exact this.symm
  have hq : -1000 ≤ q := by
    refine Int.not_lt.mp fun hlt => ?_
    have k1 : (q - b64.qmin).toNat ≤ 74 := by omega
    have k2 : c * 2 ^ (q - b64.qmin).toNat < 2 ^ 53 * 2 ^ 74 := Nat.mul_lt_mul_of_lt_of_le f1 (Nat.pow_le_pow_right (by decide) k1) (by decide)
    have k3 : one64 ≤ i.natAbs * one64 := Nat.le_mul_of_pos_left _ (by omega)
    have k4 : 2 ^ 53 * 2 ^ 74 ≤ one64 := by decide +kernel
    omega
  refine ⟨s, c, q - 10, ⟨by rw [e2]; exact f1, by omega, by omega, ?_⟩, ?_⟩
  · rcases f4 with f4 | f4
    · omega
    · exact Or.inr f4
  · have k5 : c * 2 ^ (q - b64.qmin).toNat = 1024 * (c * 2 ^ (q - 10 - b64.qmin).toNat) := by
      rw [show (q - b64.qmin).toNat = (q - 10 - b64.qmin).toNat + 10 by omega, Nat.pow_add, ← Nat.mul_assoc, Nat.mul_comm _ (2 ^ 10)]
    have k6 : zval b64 (.fin s c q) = 1024 * zval b64 (.fin s c (q - 10)) := by
      show signed s (c * 2 ^ (q - b64.qmin).toNat) = 1024 * signed s (c * 2 ^ (q - 10 - b64.qmin).toNat)
      rw [k5]; unfold signed; cases s
      · simp only [Bool.false_eq_true, if_false]; omega
      · simp only [if_true]; omega
    rw [z, own_one] at k6
    rw [own_ac3] at k6; omega
/-- a is i / 1024 -/
def OwnQ (i : Int) (a : UInt64) : Prop := OwnDV a (i * (ownU : Int))
/-- i / 1024 is a double -/
def OwnRq (i : Int) : Prop := i.natAbs ≤ 9007199254740992 ∨ ∃ j : Int, i = j * 1024 ∧ j.natAbs ≤ 9007199254740992
theorem OwnRq.r {i : Int} (h : OwnRq i) : OwnR (i * (ownU : Int)) := by
  rcases h with h | ⟨j, rfl, h⟩
  · exact own_r_q h
  · have := own_r_int (i := j) h; rw [own_one, ← Int.mul_assoc] at this; exact this
theorem OwnQ.nn {i : Int} {a : UInt64} (h : OwnQ i a) : NoNaN64 a := OwnDV.nn h
theorem OwnQ.cast {i j : Int} {a : UInt64} (h : OwnQ i a) (e : i = j) : OwnQ j a := e ▸ h
theorem OwnQ.of_int {i : Int} {a : UInt64} (h : DInt i a) : OwnQ (i * 1024) a := by
  have := OwnDV.of_int h; rw [own_one, ← Int.mul_assoc] at this; exact this
theorem own_q_i2d (n : Int32) : OwnQ (n.toInt * 1024) (FP.i2d n) := OwnQ.of_int (i2d_int n)
theorem own_q_l2d {n : Int64} (h : n.toInt.natAbs ≤ 9007199254740992) : OwnQ (n.toInt * 1024) (FP.l2d n) := OwnQ.of_int (l2d_int h)
/-- no such value is beyond all doubles -/
theorem own_fin_of {x : Datum} {z : Int} (hn : x ≠ .nan) (hz : zval b64 x = z) (hR : OwnR z) : ∃ s c q, x = .fin s c q := by
  cases x with
  | nan => exact absurd rfl hn
  | inf s =>
    exfalso
    obtain ⟨t, c, q, f, k⟩ := hR
    have h1 := own_zabs b64 (.inf s)
    have h2 := own_zabs b64 (.fin t c q)
    have h3 := zmag_lt_top good_b64 f
    rw [hz] at h1; rw [k] at h2
    have h4 : zmag b64 (.inf s) = b64.tails * 2 ^ (b64.exps - 2) := rfl
    have h5 : zmag b64 (.fin t c q) = inUnits c q b64.qmin := rfl
    omega
  | fin s c q => exact ⟨s, c, q, rfl⟩
theorem own_round_nn (s : Bool) (c : Nat) (q : Int) : round b64 (.fin s c q) ≠ .nan := by
  show roundRatio b64 s c 1 q ≠ .nan
  rcases roundRatio_cases b64 s c 1 q with ⟨c', q', h⟩ | h <;> rw [h] <;> exact fun k => by cases k
theorem own_dadd {a b : UInt64} {x y : Int} (ha : OwnDV a x) (hb : OwnDV b y) (hR : OwnR (x + y)) : OwnDV (FP.dadd a b) (x + y) := by
  have ev : val64 (FP.dadd a b) = round b64 (exactSum (val64 a) (val64 b)) := val64_dadd a b
  have fa := val64_fits a; have fb := val64_fits b
  have ⟨t, d, r, fV, zV⟩ := hR
  have hle := sum_le good_b64 ha.1 hb.1 fa fb fV (fun k => by cases k) (by rw [ha.2, hb.2, zV]; omega)
  have hge := sum_ge good_b64 ha.1 hb.1 fa fb fV (fun k => by cases k) (by rw [ha.2, hb.2, zV]; omega)
  have hz : zval b64 (val64 (FP.dadd a b)) = x + y := by rw [ev]; rw [zV] at hle hge; omega
  refine ⟨own_fin_of ?_ hz hR, hz⟩
  obtain ⟨s1, c1, q1, e1⟩ := ha.1
  obtain ⟨s2, c2, q2, e2⟩ := hb.1
  rw [e1] at fa; rw [e2] at fb
  obtain ⟨sg, n, e, h1, -, -⟩ := sum_units fa fb
  rw [ev, e1, e2, h1]; exact own_round_nn _ _ _
theorem own_dmul {a b : UInt64} {x y z : Int} (ha : OwnDV a x) (hb : OwnDV b y) (hR : OwnR z) (h : x * y = z * (one64 : Int)) : OwnDV (FP.dmul a b) z := by
  have ev : val64 (FP.dmul a b) = round b64 (exactProduct (val64 a) (val64 b)) := val64_dmul a b
  have fa := val64_fits a; have fb := val64_fits b
  have ⟨t, d, r, fV, zV⟩ := hR
  obtain ⟨⟨s1, c1, q1, e1⟩, z1⟩ := ha
  obtain ⟨⟨s2, c2, q2, e2⟩, z2⟩ := hb
  rw [e1] at fa z1; rw [e2] at fb z2
  obtain ⟨p1, p2, p3⟩ := product_units fa fb
  have eq : b64.qmin = -1074 := by decide +kernel
  have e3 : ((2 ^ (b64.qmin - 2 * b64.qmin).toNat : Nat) : Int) = (one64 : Int) := by
    rw [show b64.qmin - 2 * b64.qmin = -b64.qmin by omega, pow_qmin64]
  have e4 : signed (s1 != s2) (inUnits (c1 * c2) (q1 + q2) (2 * b64.qmin)) = x * y := by
    rw [p3, ← z1, ← z2]
    unfold zval
    show signed (s1 != s2) _ = signed s1 _ * signed s2 _
    unfold signed
    cases s1 <;> cases s2 <;> simp [Int.neg_mul, Int.mul_neg]
  have hle := zval_round_le good_b64 (s := s1 != s2) (c := c1 * c2) (q := q1 + q2) (e0 := 2 * b64.qmin) fV (fun k => by cases k) (by omega) p2 (by rw [e3, e4, zV, h]; omega)
  have hge := zval_round_ge good_b64 (s := s1 != s2) (c := c1 * c2) (q := q1 + q2) (e0 := 2 * b64.qmin) fV (fun k => by cases k) (by omega) p2 (by rw [e3, e4, zV, h]; omega)
  have ev' : val64 (FP.dmul a b) = round b64 (.fin (s1 != s2) (c1 * c2) (q1 + q2)) := by rw [ev, e1, e2, p1]
  have hz : zval b64 (val64 (FP.dmul a b)) = z := by rw [ev']; rw [zV] at hle hge; omega
  exact ⟨own_fin_of (by rw [ev']; exact own_round_nn _ _ _) hz hR, hz⟩
theorem own_ddivX {a b : UInt64} {x y z : Int} (ha : OwnDV a x) (hb : OwnDV b y) (hx : 0 ≤ x) (hy : 0 < y) (hz0 : 0 ≤ z) (hR : OwnR z) (h : z * y = x * (one64 : Int)) : OwnDV (FP.ddiv a b) z := by
  obtain ⟨k1, -, -, k4, k5⟩ := own_ddiv ha hb hy
  have ⟨t, d, r, fV, zV⟩ := hR
  have hle := k4 _ fV (fun k => by cases k) hx (by rw [zV]; exact hz0) (by rw [zV, h]; omega)
  have hge := k5 _ fV hx (by rw [zV]; exact hz0) (by rw [zV, h]; omega)
  have hz : zval b64 (val64 (FP.ddiv a b)) = z := by rw [zV] at hle hge; omega
  exact ⟨own_fin_of (val64_no.mp k1) hz hR, hz⟩
theorem own_q_add {i j k : Int} {a b : UInt64} (ha : OwnQ i a) (hb : OwnQ j b) (e : i + j = k) (h : OwnRq k) : OwnQ k (FP.dadd a b) := by
  subst e
  have := own_dadd ha hb (by rw [← Int.add_mul]; exact h.r)
  rw [← Int.add_mul] at this; exact this
theorem own_q_mul {i j k : Int} {a b : UInt64} (ha : OwnQ i a) (hb : OwnQ j b) (e : i * j = k * 1024) (h : OwnRq k) : OwnQ k (FP.dmul a b) := by
  refine own_dmul ha hb h.r ?_
  rw [own_one]
  rw [own_ac1, own_ac2, e]
theorem own_q_div {i j k : Int} {a b : UInt64} (ha : OwnQ i a) (hb : OwnQ j b) (h0 : 0 ≤ i) (h1 : 0 < j) (h2 : 0 ≤ k) (e : k * j = i * 1024) (h : OwnRq k) : OwnQ k (FP.ddiv a b) := by
  have hU := ownU_pos
  refine own_ddivX ha hb (Int.mul_nonneg h0 (by omega)) (Int.mul_pos h1 hU) (Int.mul_nonneg h2 (by omega)) h.r ?_
  rw [own_one]
  rw [own_ac1, own_ac2, e]
theorem own_mulU_lt {i j : Int} : i * (ownU : Int) < j * (ownU : Int) ↔ i < j :=
  ⟨fun h => Int.lt_of_mul_lt_mul_right h (Int.le_of_lt ownU_pos), fun h => Int.mul_lt_mul_of_pos_right h ownU_pos⟩
theorem own_mulU_eq {i j : Int} : i * (ownU : Int) = j * (ownU : Int) ↔ i = j :=
  ⟨fun h => Int.eq_of_mul_eq_mul_right (by have := ownU_pos; omega) h, fun h => by rw [h]⟩
theorem own_q_lt {i j : Int} {a b : UInt64} (ha : OwnQ i a) (hb : OwnQ j b) (h : i < j) : FP.dcmp a b = some .lt := dcmp_lt.mpr ⟨val64_no.mp ha.nn, val64_no.mp hb.nn, by rw [ha.2, hb.2]; exact own_mulU_lt.mpr h⟩
theorem own_q_gt {i j : Int} {a b : UInt64} (ha : OwnQ i a) (hb : OwnQ j b) (h : j < i) : FP.dcmp a b = some .gt := dcmp_gt.mpr ⟨val64_no.mp ha.nn, val64_no.mp hb.nn, by rw [ha.2, hb.2]; exact own_mulU_lt.mpr h⟩
theorem own_q_eq {i j : Int} {a b : UInt64} (ha : OwnQ i a) (hb : OwnQ j b) (h : i = j) : FP.dcmp a b = some .eq := dcmp_eq.mpr ⟨val64_no.mp ha.nn, val64_no.mp hb.nn, by rw [ha.2, hb.2]; exact own_mulU_eq.mpr h⟩
theorem own_q_cmp {i j : Int} {a b : UInt64} (ha : OwnQ i a) (hb : OwnQ j b) (o : ClassFile.CmpOp) :
    (cmpValue (FP.dcmp a b) o < 0 ↔ i < j) ∧ (0 < cmpValue (FP.dcmp a b) o ↔ j < i) ∧ (cmpValue (FP.dcmp a b) o = 0 ↔ i = j) := by
  rcases Int.lt_trichotomy i j with h | h | h
  · rw [own_q_lt ha hb h]; cases o <;> exact ⟨⟨fun _ => h, fun _ => by decide⟩, ⟨fun k => absurd k (by decide), fun k => by omega⟩, ⟨fun k => absurd k (by decide), fun k => by omega⟩⟩
  · rw [own_q_eq ha hb h]; cases o <;> exact ⟨⟨fun k => absurd k (by decide), fun k => by omega⟩, ⟨fun k => absurd k (by decide), fun k => by omega⟩, ⟨fun _ => h, fun _ => by decide⟩⟩
  · rw [own_q_gt ha hb h]; cases o <;> exact ⟨⟨fun k => absurd k (by decide), fun k => by omega⟩, ⟨fun _ => h, fun _ => by decide⟩, ⟨fun k => absurd k (by decide), fun k => by omega⟩⟩
theorem own_q_min {i j : Int} {a b : UInt64} (ha : OwnQ i a) (hb : OwnQ j b) : OwnQ (if i < j then i else j) (Native.java_lang_Math.nans.pick64 false a b) := by
  unfold Native.java_lang_Math.nans.pick64
  rcases Int.lt_trichotomy i j with h | h | h
  · rw [own_q_lt ha hb h, if_pos h]; exact ha
  · rw [own_q_eq ha hb h, if_neg (by omega)]
    subst h
    show OwnQ i (if _ then b else a)
    split
    · exact hb
    · exact ha
  · rw [own_q_gt ha hb h, if_neg (by omega)]; exact hb
/-- a written double -/
theorem own_q_lit {a : UInt64} {c : Nat} {q : Int} (i : Int) (h : val64 a = .fin false c q) (e : zval b64 (.fin false c q) = i * (ownU : Int)) : OwnQ i a := ⟨⟨_, _, _, h⟩, by rw [h]; exact e⟩
theorem own_q_1e9 : OwnQ 1024000000000 4741671816366391296 := own_q_lit (c := 8388608000000000) (q := -23) _ (by decide +kernel) (by decide +kernel)
theorem own_q_half : OwnQ 512 4602678819172646912 := own_q_lit (c := 4503599627370496) (q := -53) _ (by decide +kernel) (by decide +kernel)
theorem own_q_34 : OwnQ 768 4604930618986332160 := own_q_lit (c := 6755399441055744) (q := -53) _ (by decide +kernel) (by decide +kernel)
theorem own_q_2 : OwnQ 2048 4611686018427387904 := own_q_lit (c := 4503599627370496) (q := -51) _ (by decide +kernel) (by decide +kernel)
theorem own_q_4 : OwnQ 4096 4616189618054758400 := own_q_lit (c := 4503599627370496) (q := -50) _ (by decide +kernel) (by decide +kernel)
end OwnDQ


theorem own_k (p : Int32) : 1 ≤ ((1 : Int32) <<< ((p &&& (3 : Int32)) &&& 31)).toInt ∧ ((1 : Int32) <<< ((p &&& (3 : Int32)) &&& 31)).toInt ≤ 8 := by
  have h := own_mask32 p 3 (by decide)
  have e3 : (3 : Int32).toInt = 3 := rfl
  have e : p &&& (3 : Int32) = 0 ∨ p &&& (3 : Int32) = 1 ∨ p &&& (3 : Int32) = 2 ∨ p &&& (3 : Int32) = 3 := by
    have z0 : (0 : Int32).toInt = 0 := rfl
    have z1 : (1 : Int32).toInt = 1 := rfl
    have z2 : (2 : Int32).toInt = 2 := rfl
    rw [← Int32.toInt_inj, ← Int32.toInt_inj, ← Int32.toInt_inj, ← Int32.toInt_inj, z0, z1, z2, e3]; omega
  rcases e with e | e | e | e <;> rw [e] <;> decide
theorem own_wk {W Kv : Int} (hW : 0 ≤ W ∧ W ≤ 131071) (hK : 1 ≤ Kv ∧ Kv ≤ 8) : 0 ≤ W * Kv ∧ W * Kv ≤ 1048568 :=
  ⟨Int.mul_nonneg hW.1 (by omega), Int.le_trans (Int.mul_le_mul hW.2 hK.2 (by omega) (by omega)) (by omega)⟩
theorem own_jk {J Kv : Int} (hJ : 0 ≤ J ∧ J ≤ 4194303) (hK : 1 ≤ Kv ∧ Kv ≤ 8) : 0 ≤ J * 512 * Kv ∧ J * 512 * Kv ≤ 17179865088 :=
  ⟨Int.mul_nonneg (by omega) (by omega), Int.le_trans (Int.mul_le_mul (show J * 512 ≤ 2147483136 by omega) hK.2 (by omega) (by omega)) (by omega)⟩
theorem own_jwk {J X : Int} (hJ : 0 ≤ J ∧ J ≤ 4194303) (hX : 0 ≤ X ∧ X ≤ 1048568) : 0 ≤ J * 512 * X ∧ J * 512 * X ≤ 9007199254740992 :=
  ⟨Int.mul_nonneg (by omega) (by omega), Int.le_trans (Int.mul_le_mul (show J * 512 ≤ 2147483136 by omega) hX.2 (by omega) (by omega)) (by omega)⟩

theorem d1_0 : decode prog_29_method_1_code 0 = .ok (.aload_n 0, 1) := by decide +kernel
theorem d1_1 : decode prog_29_method_1_code 1 = .ok (.invokespecial 1, 3) := by decide +kernel
theorem d1_4 : decode prog_29_method_1_code 4 = .ok (.lload_n 3, 1) := by decide +kernel
theorem d1_5 : decode prog_29_method_1_code 5 = .ok (.l2d, 1) := by decide +kernel
theorem d1_6 : decode prog_29_method_1_code 6 = .ok (.dload_n 1, 1) := by decide +kernel
theorem d1_7 : decode prog_29_method_1_code 7 = .ok (.dmul, 1) := by decide +kernel
theorem d1_8 : decode prog_29_method_1_code 8 = .ok (.ldc2_w 9, 3) := by decide +kernel
theorem d1_11 : decode prog_29_method_1_code 11 = .ok (.ddiv, 1) := by decide +kernel
theorem d1_12 : decode prog_29_method_1_code 12 = .ok (.dstore 6, 2) := by decide +kernel
theorem d1_14 : decode prog_29_method_1_code 14 = .ok (.aload_n 0, 1) := by decide +kernel
theorem d1_15 : decode prog_29_method_1_code 15 = .ok (.lload_n 3, 1) := by decide +kernel
theorem d1_16 : decode prog_29_method_1_code 16 = .ok (.putfield 11, 3) := by decide +kernel
theorem d1_19 : decode prog_29_method_1_code 19 = .ok (.aload_n 0, 1) := by decide +kernel
theorem d1_20 : decode prog_29_method_1_code 20 = .ok (.iload 5, 2) := by decide +kernel
theorem d1_22 : decode prog_29_method_1_code 22 = .ok (.putfield 15, 3) := by decide +kernel
theorem d1_25 : decode prog_29_method_1_code 25 = .ok (.aload_n 0, 1) := by decide +kernel
theorem d1_26 : decode prog_29_method_1_code 26 = .ok (.ldc2_w 19, 3) := by decide +kernel
theorem d1_29 : decode prog_29_method_1_code 29 = .ok (.dload 6, 2) := by decide +kernel
theorem d1_31 : decode prog_29_method_1_code 31 = .ok (.dmul, 1) := by decide +kernel
theorem d1_32 : decode prog_29_method_1_code 32 = .ok (.putfield 21, 3) := by decide +kernel
theorem d1_35 : decode prog_29_method_1_code 35 = .ok (.aload_n 0, 1) := by decide +kernel
theorem d1_36 : decode prog_29_method_1_code 36 = .ok (.aload_n 0, 1) := by decide +kernel
theorem d1_37 : decode prog_29_method_1_code 37 = .ok (.getfield 21, 3) := by decide +kernel
theorem d1_40 : decode prog_29_method_1_code 40 = .ok (.ldc2_w 25, 3) := by decide +kernel
theorem d1_43 : decode prog_29_method_1_code 43 = .ok (.dload 6, 2) := by decide +kernel
theorem d1_45 : decode prog_29_method_1_code 45 = .ok (.dmul, 1) := by decide +kernel
theorem d1_46 : decode prog_29_method_1_code 46 = .ok (.iconst 1, 1) := by decide +kernel
theorem d1_47 : decode prog_29_method_1_code 47 = .ok (.iload 5, 2) := by decide +kernel
theorem d1_49 : decode prog_29_method_1_code 49 = .ok (.iadd, 1) := by decide +kernel
theorem d1_50 : decode prog_29_method_1_code 50 = .ok (.i2d, 1) := by decide +kernel
theorem d1_51 : decode prog_29_method_1_code 51 = .ok (.ddiv, 1) := by decide +kernel
theorem d1_52 : decode prog_29_method_1_code 52 = .ok (.dadd, 1) := by decide +kernel
theorem d1_53 : decode prog_29_method_1_code 53 = .ok (.putfield 27, 3) := by decide +kernel
theorem d1_56 : decode prog_29_method_1_code 56 = .ok (.aload_n 0, 1) := by decide +kernel
theorem d1_57 : decode prog_29_method_1_code 57 = .ok (.lload_n 3, 1) := by decide +kernel
theorem d1_58 : decode prog_29_method_1_code 58 = .ok (.l2d, 1) := by decide +kernel
theorem d1_59 : decode prog_29_method_1_code 59 = .ok (.iload 5, 2) := by decide +kernel
theorem d1_61 : decode prog_29_method_1_code 61 = .ok (.i2d, 1) := by decide +kernel
theorem d1_62 : decode prog_29_method_1_code 62 = .ok (.dconst 1, 1) := by decide +kernel
theorem d1_63 : decode prog_29_method_1_code 63 = .ok (.dsub, 1) := by decide +kernel
theorem d1_64 : decode prog_29_method_1_code 64 = .ok (.iload 5, 2) := by decide +kernel
theorem d1_66 : decode prog_29_method_1_code 66 = .ok (.i2d, 1) := by decide +kernel
theorem d1_67 : decode prog_29_method_1_code 67 = .ok (.dconst 1, 1) := by decide +kernel
theorem d1_68 : decode prog_29_method_1_code 68 = .ok (.dadd, 1) := by decide +kernel
theorem d1_69 : decode prog_29_method_1_code 69 = .ok (.ddiv, 1) := by decide +kernel
theorem d1_70 : decode prog_29_method_1_code 70 = .ok (.dmul, 1) := by decide +kernel
theorem d1_71 : decode prog_29_method_1_code 71 = .ok (.putfield 30, 3) := by decide +kernel
theorem d1_74 : decode prog_29_method_1_code 74 = .ok (.return_, 1) := by decide +kernel
theorem pn_1 : plainName "com/example/clepsydra/clepsydra/WarmingCurve" = true := by first | (simp [plainName, overriddenIn]; done) | decide +kernel
theorem ef_rm1c3 (m : MethodId) (a1 : Addr) (u2 : UInt64) (q3 : Int64) : entryFrame m #[(.ref a1), (.double u2), (.long q3), (.int (3 : Int32))] 8 = mkF m 0 #[.val (.ref a1), .val (.double u2), .second, .val (.long q3), .second, .val (.int (3 : Int32)), .unset, .unset] [] := by first | (simp [entryFrame, mkF, argsToLocals, Value.category]; done) | rfl
def Q1c3 (Z : State) (a1 : Addr) (u2 : UInt64) (q3 : Int64) (W R P : Int) (h0 : Heap) (n0 : Nat) (v : Option Value) (h : Heap) (L : List Loc) : Prop := ∃ M : UInt64, v = none ∧ Fr n0 L ∧ Keep h0 h [a1] ∧ Fld Z h a1 "com/example/clepsydra/clepsydra/WarmingCurve" "warmUpNanos" "J" (.long q3) ∧ Fld Z h a1 "com/example/clepsydra/clepsydra/WarmingCurve" "maxPermits" "D" (.double M) ∧ OwnQ (P * 1024) M
set_option maxRecDepth 65536 in
set_option maxHeartbeats 40000000 in
theorem rm1c3 (l : Launch) (Z : State) (a0 : Array Value) (hw : ∀ d ∈ tables_1, d.before a0 Z = true) (ws : List Jvm.Cond) (a1 : Addr) (u2 : UInt64) (q3 : Int64) (W R P : Int) (h0 : Heap) (n0 : Nat) (Z0 : n0 ≤ h0.size) (F0 : Fld Z h0 a1 "com/example/clepsydra/clepsydra/WarmingCurve" "warmUpNanos" "J" (.long (0 : Int64))) (F1 : Fld Z h0 a1 "com/example/clepsydra/clepsydra/WarmingCurve" "coldFactor" "I" (.int (0 : Int32))) (F2 : Fld Z h0 a1 "com/example/clepsydra/clepsydra/WarmingCurve" "threshold" "D" (.double (0 : UInt64))) (F3 : Fld Z h0 a1 "com/example/clepsydra/clepsydra/WarmingCurve" "maxPermits" "D" (.double (0 : UInt64))) (F4 : Fld Z h0 a1 "com/example/clepsydra/clepsydra/WarmingCurve" "coldNanos" "D" (.double (0 : UInt64))) (E : Exa Z h0 a1 "com/example/clepsydra/clepsydra/WarmingCurve") (g_a1 : n0 ≤ a1) (hu : OwnQ (R * 1024) u2) (hq : q3.toInt = W) (hP : W * R = P * 1000000000) (b1 : 0 ≤ W) (b2 : W ≤ 1099511627776) (b3 : 0 ≤ W * R) (b4 : W * R ≤ 9007199254740992) (b5 : 0 ≤ P) (b6 : P ≤ 2097152) :
    MetFree l (⟨"com/example/clepsydra/clepsydra/WarmingCurve", "<init>", "(DJI)V"⟩ : MethodName) (head1 (Jvm.Cond.code (⟨"com/example/clepsydra/clepsydra/WarmingCurve", "<init>", "(DJI)V"⟩ : MethodName) prog_29_method_1_code 8 none :: ws) ({ frames := 1, cells := 0, slots := 0, locals := 12 } : Room)) (fun a U => a = #[(.ref a1), (.double u2), (.long q3), (.int (3 : Int32))] ∧ Z.Warmed39 U.vm ∧ U.heap = h0) (fun _ _ _ _ _ => True) (fun _ U o U' => ∃ v L, o = .returned v ∧ Q1c3 Z a1 u2 q3 W R P h0 n0 v U'.heap L ∧ FrameEnd U o U' L ({ frames := 1, cells := 0, slots := 0, locals := 12 } : Room).cells ({ frames := 1, cells := 0, slots := 0, locals := 12 } : Room).slots) := by
  refine MetFree.of_bodySF (plainFor_of_name pn_1) hisR ?_
  intro p e s m args below meth c s₁ Bd hml0 hP hK
  obtain ⟨rfl, hZ, hh⟩ := hP
  have hx := Bd.exec
  have hby := Bd.bytes
  have hml : c.maxLocals = 8 := hml0
  have hown : s.vm.findClass "com/example/clepsydra/clepsydra/WarmingCurve" = some m.cls := findClass_of_methodNamed Bd.named
  have hnm := (name_of_methodNamed Bd.named Bd.method).1
  have X0 : Stand p l e ({ frames := 1, cells := 0, slots := 0, locals := 12 } : Room) s m #[(.ref a1), (.double u2), (.long q3), (.int (3 : Int32))] below meth c s₁ [] 0 0 := Stand.of_body Bd
  have e0 : s₁.heap = h0 := by rw [← hh, Bd.state]; rfl
  have N0 := Fr.nil n0
  obtain ⟨G, hG⟩ : ∃ G : State → Prop, G = OwnG p e below s ({ frames := 1, cells := 0, slots := 0, locals := 12 } : Room).cells ({ frames := 1, cells := 0, slots := 0, locals := 12 } : Room).slots (Q1c3 Z a1 u2 q3 W R P h0 n0) := ⟨_, rfl⟩
  have go : ∀ {A B : State}, (∀ t, Steps p.tables e below A t → Steps p.tables e below B t) → G A → G B := fun h k => by rw [hG] at k ⊢; exact OwnG.go h k
  suffices k0 : G (s₁.setTop (mkF m 0 #[.val (.ref a1), .val (.double u2), .second, .val (.long q3), .second, .val (.int (3 : Int32)), .unset, .unset] [])) by
    rw [hG] at k0; exact OwnG.go (fun t k => castTop (ef_rm1c3 m a1 u2 q3) k) k0
  have K0 : Keep h0 h0 [a1] := Keep.refl _ _
  refine go (fun _ k => XS.aloadN X0.here hx rfl (hb hby d1_0) rfl rfl k) ?_
  show G (s₁.setTop (mkF m 1 #[.val (.ref a1), .val (.double u2), .second, .val (.long q3), .second, .val (.int (3 : Int32)), .unset, .unset] [(.ref a1)]))
  obtain ⟨T1, X1, e1, st1⟩ := initO X0 hx hZ hown (hw _ (List.mem_of_getElem? (i := 12) rfl)) (hw _ (List.mem_of_getElem? (i := 13) rfl)) (hw _ (List.mem_of_getElem? (i := 14) rfl)) e0 (g := (mkF m 1 #[.val (.ref a1), .val (.double u2), .second, .val (.long q3), .second, .val (.int (3 : Int32)), .unset, .unset] [(.ref a1)])) rfl (by rw [hml]; rfl) rfl (hb hby d1_1) (by decide) (W := 0) (by show 2 * 0 + _ ≤ _; exact Nat.le_of_eq rfl) (by decide)
  refine go st1 ?_
  show G (T1.setTop (mkF m 4 #[.val (.ref a1), .val (.double u2), .second, .val (.long q3), .second, .val (.int (3 : Int32)), .unset, .unset] []))
  refine go (fun _ k => XS.lloadN X1.here hx rfl (hb hby d1_4) rfl k) ?_
  show G (T1.setTop (mkF m 5 #[.val (.ref a1), .val (.double u2), .second, .val (.long q3), .second, .val (.int (3 : Int32)), .unset, .unset] [(.long q3)]))
  obtain ⟨D2, hD2⟩ : ∃ z, FP.l2d q3 = z := ⟨_, rfl⟩
  have Q2 : OwnQ (W * 1024) D2 := hD2 ▸ (own_q_l2d (by rw [hq]; omega)).cast (by rw [hq])
  refine go (fun _ k => XS.l2dS X1.here hx rfl (hb hby d1_5) rfl (v := D2) hD2 k) ?_
  show G (T1.setTop (mkF m 6 #[.val (.ref a1), .val (.double u2), .second, .val (.long q3), .second, .val (.int (3 : Int32)), .unset, .unset] [(.double D2)]))
  refine go (fun _ k => XS.dloadN X1.here hx rfl (hb hby d1_6) rfl k) ?_
  show G (T1.setTop (mkF m 7 #[.val (.ref a1), .val (.double u2), .second, .val (.long q3), .second, .val (.int (3 : Int32)), .unset, .unset] [(.double u2), (.double D2)]))
  obtain ⟨D3, hD3⟩ : ∃ z, FP.dmul D2 u2 = z := ⟨_, rfl⟩
  have Q3 : OwnQ (W * R * 1024) D3 := hD3 ▸ (own_q_mul Q2 hu (by ac_rfl) (Or.inr ⟨_, rfl, by omega⟩))
  refine go (fun _ k => XS.dmulS X1.here hx rfl (hb hby d1_7) rfl (v := D3) (by rw [hD3]; exact Q3.nn) hD3 k) ?_
  show G (T1.setTop (mkF m 8 #[.val (.ref a1), .val (.double u2), .second, .val (.long q3), .second, .val (.int (3 : Int32)), .unset, .unset] [(.double D3)]))
  refine go (X1.ldc2DoubleC hx hown (mvT hZ (hw _ (List.mem_of_getElem? (i := 15) rfl))) (g := (mkF m 8 #[.val (.ref a1), .val (.double u2), .second, .val (.long q3), .second, .val (.int (3 : Int32)), .unset, .unset] [(.double D3)])) rfl (hb hby d1_8)) ?_
  show G (T1.setTop (mkF m 11 #[.val (.ref a1), .val (.double u2), .second, .val (.long q3), .second, .val (.int (3 : Int32)), .unset, .unset] [(.double (4741671816366391296 : UInt64)), (.double D3)]))
  obtain ⟨D4, hD4⟩ : ∃ z, FP.ddiv D3 (4741671816366391296 : UInt64) = z := ⟨_, rfl⟩
  have Q4 : OwnQ (P * 1024) D4 := hD4 ▸ (own_q_div Q3 own_q_1e9 (by omega) (by decide) (by omega) (by rw [hP]; omega) (Or.inl (by omega)))
  refine go (fun _ k => XS.ddivS X1.here hx rfl (hb hby d1_11) rfl (v := D4) (by rw [hD4]; exact Q4.nn) hD4 k) ?_
  show G (T1.setTop (mkF m 12 #[.val (.ref a1), .val (.double u2), .second, .val (.long q3), .second, .val (.int (3 : Int32)), .unset, .unset] [(.double D4)]))
  refine go (fun _ k => XS.dstore X1.here hx rfl (hb hby d1_12) rfl (l' := #[.val (.ref a1), .val (.double u2), .second, .val (.long q3), .second, .val (.int (3 : Int32)), .val (.double D4), .second]) rfl k) ?_
  show G (T1.setTop (mkF m 14 #[.val (.ref a1), .val (.double u2), .second, .val (.long q3), .second, .val (.int (3 : Int32)), .val (.double D4), .second] []))
  refine go (fun _ k => XS.aloadN X1.here hx rfl (hb hby d1_14) rfl rfl k) ?_
  show G (T1.setTop (mkF m 15 #[.val (.ref a1), .val (.double u2), .second, .val (.long q3), .second, .val (.int (3 : Int32)), .val (.double D4), .second] [(.ref a1)]))
  refine go (fun _ k => XS.lloadN X1.here hx rfl (hb hby d1_15) rfl k) ?_
  show G (T1.setTop (mkF m 16 #[.val (.ref a1), .val (.double u2), .second, .val (.long q3), .second, .val (.int (3 : Int32)), .val (.double D4), .second] [(.long q3), (.ref a1)]))
  obtain ⟨T5, h5, X5, e5, W5, st5⟩ := putF X1 hx hZ hown (host := "") (Or.inl (hw _ (List.mem_of_getElem? (i := 16) rfl))) Via.refl e1 F0 E (Or.inr ⟨(hw _ (List.mem_of_getElem? (i := 17) rfl)), rfl, hnm⟩) (hw _ (List.mem_of_getElem? (i := 7) rfl)) (ty := .long) (by decide) rfl rfl (g := (mkF m 16 #[.val (.ref a1), .val (.double u2), .second, .val (.long q3), .second, .val (.int (3 : Int32)), .val (.double D4), .second] [(.long q3), (.ref a1)])) rfl rfl (hb hby d1_16)
  have f6 := E.wr W5
  have f7 := F1.other W5 (Or.inr (slot_ne (Or.inr (hw _ (List.mem_of_getElem? (i := 19) rfl))) (Or.inr (hw _ (List.mem_of_getElem? (i := 17) rfl))) (by decide) (t := .int) (t' := .long) (by decide) (by decide)))
  have f8 := F2.other W5 (Or.inr (slot_ne (Or.inr (hw _ (List.mem_of_getElem? (i := 22) rfl))) (Or.inr (hw _ (List.mem_of_getElem? (i := 17) rfl))) (by decide) (t := .double) (t' := .long) (by decide) (by decide)))
  have f9 := F3.other W5 (Or.inr (slot_ne (Or.inr (hw _ (List.mem_of_getElem? (i := 25) rfl))) (Or.inr (hw _ (List.mem_of_getElem? (i := 17) rfl))) (by decide) (t := .double) (t' := .long) (by decide) (by decide)))
  have f10 := F4.other W5 (Or.inr (slot_ne (Or.inr (hw _ (List.mem_of_getElem? (i := 27) rfl))) (Or.inr (hw _ (List.mem_of_getElem? (i := 17) rfl))) (by decide) (t := .double) (t' := .long) (by decide) (by decide)))
  have K5 : Keep h0 h5 [a1] := K0.wr W5 (Or.inl (List.mem_of_getElem? (i := 0) rfl))
  have Zs5 : n0 ≤ h5.size := Nat.le_trans Z0 (Keep.of_wr W5).1
  have N5 := Fr.snoc X5 N0 g_a1
  have Fw5 := F0.same W5
  refine go st5 ?_
  show G (T5.setTop (mkF m 19 #[.val (.ref a1), .val (.double u2), .second, .val (.long q3), .second, .val (.int (3 : Int32)), .val (.double D4), .second] []))
  refine go (fun _ k => XS.aloadN X5.here hx rfl (hb hby d1_19) rfl rfl k) ?_
  show G (T5.setTop (mkF m 20 #[.val (.ref a1), .val (.double u2), .second, .val (.long q3), .second, .val (.int (3 : Int32)), .val (.double D4), .second] [(.ref a1)]))
  refine go (fun _ k => XS.iload X5.here hx rfl (hb hby d1_20) rfl k) ?_
  show G (T5.setTop (mkF m 22 #[.val (.ref a1), .val (.double u2), .second, .val (.long q3), .second, .val (.int (3 : Int32)), .val (.double D4), .second] [(.int (3 : Int32)), (.ref a1)]))
  obtain ⟨T11, h11, X11, e11, W11, st11⟩ := putF X5 hx hZ hown (host := "") (Or.inl (hw _ (List.mem_of_getElem? (i := 18) rfl))) Via.refl e5 f7 f6 (Or.inr ⟨(hw _ (List.mem_of_getElem? (i := 19) rfl)), rfl, hnm⟩) (hw _ (List.mem_of_getElem? (i := 7) rfl)) (ty := .int) (by decide) rfl rfl (g := (mkF m 22 #[.val (.ref a1), .val (.double u2), .second, .val (.long q3), .second, .val (.int (3 : Int32)), .val (.double D4), .second] [(.int (3 : Int32)), (.ref a1)])) rfl rfl (hb hby d1_22)
  have f12 := f6.wr W11
  have f13 := Fw5.other W11 (Or.inr (slot_ne (Or.inr (hw _ (List.mem_of_getElem? (i := 17) rfl))) (Or.inr (hw _ (List.mem_of_getElem? (i := 19) rfl))) (by decide) (t := .long) (t' := .int) (by decide) (by decide)))
  have f14 := f8.other W11 (Or.inr (slot_ne (Or.inr (hw _ (List.mem_of_getElem? (i := 22) rfl))) (Or.inr (hw _ (List.mem_of_getElem? (i := 19) rfl))) (by decide) (t := .double) (t' := .int) (by decide) (by decide)))
  have f15 := f9.other W11 (Or.inr (slot_ne (Or.inr (hw _ (List.mem_of_getElem? (i := 25) rfl))) (Or.inr (hw _ (List.mem_of_getElem? (i := 19) rfl))) (by decide) (t := .double) (t' := .int) (by decide) (by decide)))
  have f16 := f10.other W11 (Or.inr (slot_ne (Or.inr (hw _ (List.mem_of_getElem? (i := 27) rfl))) (Or.inr (hw _ (List.mem_of_getElem? (i := 19) rfl))) (by decide) (t := .double) (t' := .int) (by decide) (by decide)))
  have K11 : Keep h0 h11 [a1] := K5.wr W11 (Or.inl (List.mem_of_getElem? (i := 0) rfl))
  have Zs11 : n0 ≤ h11.size := Nat.le_trans Zs5 (Keep.of_wr W11).1
  have N11 := Fr.snoc X11 N5 g_a1
  have Fw11 := f7.same W11
  refine go st11 ?_
  show G (T11.setTop (mkF m 25 #[.val (.ref a1), .val (.double u2), .second, .val (.long q3), .second, .val (.int (3 : Int32)), .val (.double D4), .second] []))
  refine go (fun _ k => XS.aloadN X11.here hx rfl (hb hby d1_25) rfl rfl k) ?_
  show G (T11.setTop (mkF m 26 #[.val (.ref a1), .val (.double u2), .second, .val (.long q3), .second, .val (.int (3 : Int32)), .val (.double D4), .second] [(.ref a1)]))
  refine go (X11.ldc2DoubleC hx hown (mvT hZ (hw _ (List.mem_of_getElem? (i := 20) rfl))) (g := (mkF m 26 #[.val (.ref a1), .val (.double u2), .second, .val (.long q3), .second, .val (.int (3 : Int32)), .val (.double D4), .second] [(.ref a1)])) rfl (hb hby d1_26)) ?_
  show G (T11.setTop (mkF m 29 #[.val (.ref a1), .val (.double u2), .second, .val (.long q3), .second, .val (.int (3 : Int32)), .val (.double D4), .second] [(.double (4602678819172646912 : UInt64)), (.ref a1)]))
  refine go (fun _ k => XS.dload X11.here hx rfl (hb hby d1_29) rfl k) ?_
  show G (T11.setTop (mkF m 31 #[.val (.ref a1), .val (.double u2), .second, .val (.long q3), .second, .val (.int (3 : Int32)), .val (.double D4), .second] [(.double D4), (.double (4602678819172646912 : UInt64)), (.ref a1)]))
  obtain ⟨D17, hD17⟩ : ∃ z, FP.dmul (4602678819172646912 : UInt64) D4 = z := ⟨_, rfl⟩
  have Q17 : OwnQ (P * 512) D17 := hD17 ▸ (own_q_mul own_q_half Q4 (by omega) (Or.inl (by omega)))
  refine go (fun _ k => XS.dmulS X11.here hx rfl (hb hby d1_31) rfl (v := D17) (by rw [hD17]; exact Q17.nn) hD17 k) ?_
  show G (T11.setTop (mkF m 32 #[.val (.ref a1), .val (.double u2), .second, .val (.long q3), .second, .val (.int (3 : Int32)), .val (.double D4), .second] [(.double D17), (.ref a1)]))
  obtain ⟨T18, h18, X18, e18, W18, st18⟩ := putF X11 hx hZ hown (host := "") (Or.inl (hw _ (List.mem_of_getElem? (i := 21) rfl))) Via.refl e11 f14 f12 (Or.inr ⟨(hw _ (List.mem_of_getElem? (i := 22) rfl)), rfl, hnm⟩) (hw _ (List.mem_of_getElem? (i := 7) rfl)) (ty := .double) (by decide) rfl rfl (g := (mkF m 32 #[.val (.ref a1), .val (.double u2), .second, .val (.long q3), .second, .val (.int (3 : Int32)), .val (.double D4), .second] [(.double D17), (.ref a1)])) rfl rfl (hb hby d1_32)
  have f19 := f12.wr W18
  have f20 := f13.other W18 (Or.inr (slot_ne (Or.inr (hw _ (List.mem_of_getElem? (i := 17) rfl))) (Or.inr (hw _ (List.mem_of_getElem? (i := 22) rfl))) (by decide) (t := .long) (t' := .double) (by decide) (by decide)))
  have f21 := Fw11.other W18 (Or.inr (slot_ne (Or.inr (hw _ (List.mem_of_getElem? (i := 19) rfl))) (Or.inr (hw _ (List.mem_of_getElem? (i := 22) rfl))) (by decide) (t := .int) (t' := .double) (by decide) (by decide)))
  have f22 := f15.other W18 (Or.inr (slot_ne (Or.inr (hw _ (List.mem_of_getElem? (i := 25) rfl))) (Or.inr (hw _ (List.mem_of_getElem? (i := 22) rfl))) (by decide) (t := .double) (t' := .double) (by decide) (by decide)))
  have f23 := f16.other W18 (Or.inr (slot_ne (Or.inr (hw _ (List.mem_of_getElem? (i := 27) rfl))) (Or.inr (hw _ (List.mem_of_getElem? (i := 22) rfl))) (by decide) (t := .double) (t' := .double) (by decide) (by decide)))
  have K18 : Keep h0 h18 [a1] := K11.wr W18 (Or.inl (List.mem_of_getElem? (i := 0) rfl))
  have Zs18 : n0 ≤ h18.size := Nat.le_trans Zs11 (Keep.of_wr W18).1
  have N18 := Fr.snoc X18 N11 g_a1
  have Fw18 := f14.same W18
  refine go st18 ?_
  show G (T18.setTop (mkF m 35 #[.val (.ref a1), .val (.double u2), .second, .val (.long q3), .second, .val (.int (3 : Int32)), .val (.double D4), .second] []))
  refine go (fun _ k => XS.aloadN X18.here hx rfl (hb hby d1_35) rfl rfl k) ?_
  show G (T18.setTop (mkF m 36 #[.val (.ref a1), .val (.double u2), .second, .val (.long q3), .second, .val (.int (3 : Int32)), .val (.double D4), .second] [(.ref a1)]))
  refine go (fun _ k => XS.aloadN X18.here hx rfl (hb hby d1_36) rfl rfl k) ?_
  show G (T18.setTop (mkF m 37 #[.val (.ref a1), .val (.double u2), .second, .val (.long q3), .second, .val (.int (3 : Int32)), .val (.double D4), .second] [(.ref a1), (.ref a1)]))
  obtain ⟨T24, X24, e24, st24⟩ := getF X18 hx hZ hown (host := "") (Or.inl (hw _ (List.mem_of_getElem? (i := 21) rfl))) Via.refl e18 Fw18 (g := (mkF m 37 #[.val (.ref a1), .val (.double u2), .second, .val (.long q3), .second, .val (.int (3 : Int32)), .val (.double D4), .second] [(.ref a1), (.ref a1)])) rfl rfl (hb hby d1_37)
  refine go st24 ?_
  show G (T24.setTop (mkF m 40 #[.val (.ref a1), .val (.double u2), .second, .val (.long q3), .second, .val (.int (3 : Int32)), .val (.double D4), .second] [(.double D17), (.ref a1)]))
  refine go (X24.ldc2DoubleC hx hown (mvT hZ (hw _ (List.mem_of_getElem? (i := 23) rfl))) (g := (mkF m 40 #[.val (.ref a1), .val (.double u2), .second, .val (.long q3), .second, .val (.int (3 : Int32)), .val (.double D4), .second] [(.double D17), (.ref a1)])) rfl (hb hby d1_40)) ?_
  show G (T24.setTop (mkF m 43 #[.val (.ref a1), .val (.double u2), .second, .val (.long q3), .second, .val (.int (3 : Int32)), .val (.double D4), .second] [(.double (4611686018427387904 : UInt64)), (.double D17), (.ref a1)]))
  refine go (fun _ k => XS.dload X24.here hx rfl (hb hby d1_43) rfl k) ?_
  show G (T24.setTop (mkF m 45 #[.val (.ref a1), .val (.double u2), .second, .val (.long q3), .second, .val (.int (3 : Int32)), .val (.double D4), .second] [(.double D4), (.double (4611686018427387904 : UInt64)), (.double D17), (.ref a1)]))
  obtain ⟨D25, hD25⟩ : ∃ z, FP.dmul (4611686018427387904 : UInt64) D4 = z := ⟨_, rfl⟩
  have Q25 : OwnQ (P * 2048) D25 := hD25 ▸ (own_q_mul own_q_2 Q4 (by omega) (Or.inl (by omega)))
  refine go (fun _ k => XS.dmulS X24.here hx rfl (hb hby d1_45) rfl (v := D25) (by rw [hD25]; exact Q25.nn) hD25 k) ?_
  show G (T24.setTop (mkF m 46 #[.val (.ref a1), .val (.double u2), .second, .val (.long q3), .second, .val (.int (3 : Int32)), .val (.double D4), .second] [(.double D25), (.double D17), (.ref a1)]))
  refine go (fun _ k => XS.iconst X24.here hx rfl (hb hby d1_46) k) ?_
  show G (T24.setTop (mkF m 47 #[.val (.ref a1), .val (.double u2), .second, .val (.long q3), .second, .val (.int (3 : Int32)), .val (.double D4), .second] [(.int (1 : Int32)), (.double D25), (.double D17), (.ref a1)]))
  refine go (fun _ k => XS.iload X24.here hx rfl (hb hby d1_47) rfl k) ?_
  show G (T24.setTop (mkF m 49 #[.val (.ref a1), .val (.double u2), .second, .val (.long q3), .second, .val (.int (3 : Int32)), .val (.double D4), .second] [(.int (3 : Int32)), (.int (1 : Int32)), (.double D25), (.double D17), (.ref a1)]))
  refine go (fun _ k => XS.iadd X24.here hx rfl (hb hby d1_49) rfl k) ?_
  show G (T24.setTop (mkF m 50 #[.val (.ref a1), .val (.double u2), .second, .val (.long q3), .second, .val (.int (3 : Int32)), .val (.double D4), .second] [(.int ((1 : Int32) + (3 : Int32))), (.double D25), (.double D17), (.ref a1)]))
  obtain ⟨D26, hD26⟩ : ∃ z, FP.i2d ((1 : Int32) + (3 : Int32)) = z := ⟨_, rfl⟩
  have Q26 : OwnQ (4096) D26 := hD26 ▸ (own_q_i2d _).cast (by decide)
  refine go (fun _ k => XS.i2dS X24.here hx rfl (hb hby d1_50) rfl (v := D26) hD26 k) ?_
  show G (T24.setTop (mkF m 51 #[.val (.ref a1), .val (.double u2), .second, .val (.long q3), .second, .val (.int (3 : Int32)), .val (.double D4), .second] [(.double D26), (.double D25), (.double D17), (.ref a1)]))
  obtain ⟨D27, hD27⟩ : ∃ z, FP.ddiv D25 D26 = z := ⟨_, rfl⟩
  have Q27 : OwnQ (P * 512) D27 := hD27 ▸ (own_q_div Q25 Q26 (by omega) (by decide) (by omega) (by omega) (Or.inl (by omega)))
  refine go (fun _ k => XS.ddivS X24.here hx rfl (hb hby d1_51) rfl (v := D27) (by rw [hD27]; exact Q27.nn) hD27 k) ?_
  show G (T24.setTop (mkF m 52 #[.val (.ref a1), .val (.double u2), .second, .val (.long q3), .second, .val (.int (3 : Int32)), .val (.double D4), .second] [(.double D27), (.double D17), (.ref a1)]))
  obtain ⟨D28, hD28⟩ : ∃ z, FP.dadd D17 D27 = z := ⟨_, rfl⟩
  have Q28 : OwnQ (P * 1024) D28 := hD28 ▸ (own_q_add Q17 Q27 (by omega) (Or.inl (by omega)))
  refine go (fun _ k => XS.daddS X24.here hx rfl (hb hby d1_52) rfl (v := D28) (by rw [hD28]; exact Q28.nn) hD28 k) ?_
  show G (T24.setTop (mkF m 53 #[.val (.ref a1), .val (.double u2), .second, .val (.long q3), .second, .val (.int (3 : Int32)), .val (.double D4), .second] [(.double D28), (.ref a1)]))
  obtain ⟨T29, h29, X29, e29, W29, st29⟩ := putF X24 hx hZ hown (host := "") (Or.inl (hw _ (List.mem_of_getElem? (i := 24) rfl))) Via.refl e24 f22 f19 (Or.inr ⟨(hw _ (List.mem_of_getElem? (i := 25) rfl)), rfl, hnm⟩) (hw _ (List.mem_of_getElem? (i := 7) rfl)) (ty := .double) (by decide) rfl rfl (g := (mkF m 53 #[.val (.ref a1), .val (.double u2), .second, .val (.long q3), .second, .val (.int (3 : Int32)), .val (.double D4), .second] [(.double D28), (.ref a1)])) rfl rfl (hb hby d1_53)
  have f30 := f19.wr W29
  have f31 := f20.other W29 (Or.inr (slot_ne (Or.inr (hw _ (List.mem_of_getElem? (i := 17) rfl))) (Or.inr (hw _ (List.mem_of_getElem? (i := 25) rfl))) (by decide) (t := .long) (t' := .double) (by decide) (by decide)))
  have f32 := f21.other W29 (Or.inr (slot_ne (Or.inr (hw _ (List.mem_of_getElem? (i := 19) rfl))) (Or.inr (hw _ (List.mem_of_getElem? (i := 25) rfl))) (by decide) (t := .int) (t' := .double) (by decide) (by decide)))
  have f33 := Fw18.other W29 (Or.inr (slot_ne (Or.inr (hw _ (List.mem_of_getElem? (i := 22) rfl))) (Or.inr (hw _ (List.mem_of_getElem? (i := 25) rfl))) (by decide) (t := .double) (t' := .double) (by decide) (by decide)))
  have f34 := f23.other W29 (Or.inr (slot_ne (Or.inr (hw _ (List.mem_of_getElem? (i := 27) rfl))) (Or.inr (hw _ (List.mem_of_getElem? (i := 25) rfl))) (by decide) (t := .double) (t' := .double) (by decide) (by decide)))
  have K29 : Keep h0 h29 [a1] := K18.wr W29 (Or.inl (List.mem_of_getElem? (i := 0) rfl))
  have Zs29 : n0 ≤ h29.size := Nat.le_trans Zs18 (Keep.of_wr W29).1
  have N29 := Fr.snoc X29 N18 g_a1
  have Fw29 := f22.same W29
  refine go st29 ?_
  show G (T29.setTop (mkF m 56 #[.val (.ref a1), .val (.double u2), .second, .val (.long q3), .second, .val (.int (3 : Int32)), .val (.double D4), .second] []))
  refine go (fun _ k => XS.aloadN X29.here hx rfl (hb hby d1_56) rfl rfl k) ?_
  show G (T29.setTop (mkF m 57 #[.val (.ref a1), .val (.double u2), .second, .val (.long q3), .second, .val (.int (3 : Int32)), .val (.double D4), .second] [(.ref a1)]))
  refine go (fun _ k => XS.lloadN X29.here hx rfl (hb hby d1_57) rfl k) ?_
  show G (T29.setTop (mkF m 58 #[.val (.ref a1), .val (.double u2), .second, .val (.long q3), .second, .val (.int (3 : Int32)), .val (.double D4), .second] [(.long q3), (.ref a1)]))
  obtain ⟨D35, hD35⟩ : ∃ z, FP.l2d q3 = z := ⟨_, rfl⟩
  have Q35 : OwnQ (W * 1024) D35 := hD35 ▸ (own_q_l2d (by rw [hq]; omega)).cast (by rw [hq])
  refine go (fun _ k => XS.l2dS X29.here hx rfl (hb hby d1_58) rfl (v := D35) hD35 k) ?_
  show G (T29.setTop (mkF m 59 #[.val (.ref a1), .val (.double u2), .second, .val (.long q3), .second, .val (.int (3 : Int32)), .val (.double D4), .second] [(.double D35), (.ref a1)]))
  refine go (fun _ k => XS.iload X29.here hx rfl (hb hby d1_59) rfl k) ?_
  show G (T29.setTop (mkF m 61 #[.val (.ref a1), .val (.double u2), .second, .val (.long q3), .second, .val (.int (3 : Int32)), .val (.double D4), .second] [(.int (3 : Int32)), (.double D35), (.ref a1)]))
  refine go (fun _ k => XS.i2dS X29.here hx rfl (hb hby d1_61) rfl (v := (FP.i2d (3 : Int32))) rfl k) ?_
  show G (T29.setTop (mkF m 62 #[.val (.ref a1), .val (.double u2), .second, .val (.long q3), .second, .val (.int (3 : Int32)), .val (.double D4), .second] [(.double (FP.i2d (3 : Int32))), (.double D35), (.ref a1)]))
  refine go (fun _ k => XS.dconst1 X29.here hx rfl (hb hby d1_62) rfl k) ?_
  show G (T29.setTop (mkF m 63 #[.val (.ref a1), .val (.double u2), .second, .val (.long q3), .second, .val (.int (3 : Int32)), .val (.double D4), .second] [(.double FP.dconst1), (.double (FP.i2d (3 : Int32))), (.double D35), (.ref a1)]))
  refine go (fun _ k => XS.dsubS X29.here hx rfl (hb hby d1_63) rfl (v := (4611686018427387904 : UInt64)) (by unfold Jvm.Free.Fl.NoNaN64; decide +kernel) (by decide +kernel) k) ?_
  show G (T29.setTop (mkF m 64 #[.val (.ref a1), .val (.double u2), .second, .val (.long q3), .second, .val (.int (3 : Int32)), .val (.double D4), .second] [(.double (4611686018427387904 : UInt64)), (.double D35), (.ref a1)]))
  refine go (fun _ k => XS.iload X29.here hx rfl (hb hby d1_64) rfl k) ?_
  show G (T29.setTop (mkF m 66 #[.val (.ref a1), .val (.double u2), .second, .val (.long q3), .second, .val (.int (3 : Int32)), .val (.double D4), .second] [(.int (3 : Int32)), (.double (4611686018427387904 : UInt64)), (.double D35), (.ref a1)]))
  refine go (fun _ k => XS.i2dS X29.here hx rfl (hb hby d1_66) rfl (v := (FP.i2d (3 : Int32))) rfl k) ?_
  show G (T29.setTop (mkF m 67 #[.val (.ref a1), .val (.double u2), .second, .val (.long q3), .second, .val (.int (3 : Int32)), .val (.double D4), .second] [(.double (FP.i2d (3 : Int32))), (.double (4611686018427387904 : UInt64)), (.double D35), (.ref a1)]))
  refine go (fun _ k => XS.dconst1 X29.here hx rfl (hb hby d1_67) rfl k) ?_
  show G (T29.setTop (mkF m 68 #[.val (.ref a1), .val (.double u2), .second, .val (.long q3), .second, .val (.int (3 : Int32)), .val (.double D4), .second] [(.double FP.dconst1), (.double (FP.i2d (3 : Int32))), (.double (4611686018427387904 : UInt64)), (.double D35), (.ref a1)]))
  refine go (fun _ k => XS.daddS X29.here hx rfl (hb hby d1_68) rfl (v := (4616189618054758400 : UInt64)) (by unfold Jvm.Free.Fl.NoNaN64; decide +kernel) (by decide +kernel) k) ?_
  show G (T29.setTop (mkF m 69 #[.val (.ref a1), .val (.double u2), .second, .val (.long q3), .second, .val (.int (3 : Int32)), .val (.double D4), .second] [(.double (4616189618054758400 : UInt64)), (.double (4611686018427387904 : UInt64)), (.double D35), (.ref a1)]))
  refine go (fun _ k => XS.ddivS X29.here hx rfl (hb hby d1_69) rfl (v := (4602678819172646912 : UInt64)) (by unfold Jvm.Free.Fl.NoNaN64; decide +kernel) (by decide +kernel) k) ?_
  show G (T29.setTop (mkF m 70 #[.val (.ref a1), .val (.double u2), .second, .val (.long q3), .second, .val (.int (3 : Int32)), .val (.double D4), .second] [(.double (4602678819172646912 : UInt64)), (.double D35), (.ref a1)]))
  obtain ⟨D36, hD36⟩ : ∃ z, FP.dmul D35 (4602678819172646912 : UInt64) = z := ⟨_, rfl⟩
  have Q36 : OwnQ (W * 512) D36 := hD36 ▸ (own_q_mul Q35 own_q_half (by omega) (Or.inl (by omega)))
  refine go (fun _ k => XS.dmulS X29.here hx rfl (hb hby d1_70) rfl (v := D36) (by rw [hD36]; exact Q36.nn) hD36 k) ?_
  show G (T29.setTop (mkF m 71 #[.val (.ref a1), .val (.double u2), .second, .val (.long q3), .second, .val (.int (3 : Int32)), .val (.double D4), .second] [(.double D36), (.ref a1)]))
  obtain ⟨T37, h37, X37, e37, W37, st37⟩ := putF X29 hx hZ hown (host := "") (Or.inl (hw _ (List.mem_of_getElem? (i := 26) rfl))) Via.refl e29 f34 f30 (Or.inr ⟨(hw _ (List.mem_of_getElem? (i := 27) rfl)), rfl, hnm⟩) (hw _ (List.mem_of_getElem? (i := 7) rfl)) (ty := .double) (by decide) rfl rfl (g := (mkF m 71 #[.val (.ref a1), .val (.double u2), .second, .val (.long q3), .second, .val (.int (3 : Int32)), .val (.double D4), .second] [(.double D36), (.ref a1)])) rfl rfl (hb hby d1_71)
  have f38 := f30.wr W37
  have f39 := f31.other W37 (Or.inr (slot_ne (Or.inr (hw _ (List.mem_of_getElem? (i := 17) rfl))) (Or.inr (hw _ (List.mem_of_getElem? (i := 27) rfl))) (by decide) (t := .long) (t' := .double) (by decide) (by decide)))
  have f40 := f32.other W37 (Or.inr (slot_ne (Or.inr (hw _ (List.mem_of_getElem? (i := 19) rfl))) (Or.inr (hw _ (List.mem_of_getElem? (i := 27) rfl))) (by decide) (t := .int) (t' := .double) (by decide) (by decide)))
  have f41 := f33.other W37 (Or.inr (slot_ne (Or.inr (hw _ (List.mem_of_getElem? (i := 22) rfl))) (Or.inr (hw _ (List.mem_of_getElem? (i := 27) rfl))) (by decide) (t := .double) (t' := .double) (by decide) (by decide)))
  have f42 := Fw29.other W37 (Or.inr (slot_ne (Or.inr (hw _ (List.mem_of_getElem? (i := 25) rfl))) (Or.inr (hw _ (List.mem_of_getElem? (i := 27) rfl))) (by decide) (t := .double) (t' := .double) (by decide) (by decide)))
  have K37 : Keep h0 h37 [a1] := K29.wr W37 (Or.inl (List.mem_of_getElem? (i := 0) rfl))
  have Zs37 : n0 ≤ h37.size := Nat.le_trans Zs29 (Keep.of_wr W37).1
  have N37 := Fr.snoc X37 N29 g_a1
  have Fw37 := f34.same W37
  refine go st37 ?_
  show G (T37.setTop (mkF m 74 #[.val (.ref a1), .val (.double u2), .second, .val (.long q3), .second, .val (.int (3 : Int32)), .val (.double D4), .second] []))
  rw [hG]
  refine own_fin X37 Bd.notSynchronized (v := none) (fun _ => rfl) (fun fs hr => X37.returnOut hx Bd.returns (hb hby d1_74) hr) ?_ (by decide) (by decide)
  show Q1c3 Z a1 u2 q3 W R P h0 n0 (none) T37.heap _
  rw [e37]
  exact ⟨D28, rfl, N37, K37, f39, f42, Q28⟩

theorem d3_0 : decode prog_29_method_4_code 0 = .ok (.dload_n 1, 1) := by decide +kernel
theorem d3_1 : decode prog_29_method_4_code 1 = .ok (.aload_n 0, 1) := by decide +kernel
theorem d3_2 : decode prog_29_method_4_code 2 = .ok (.getfield 27, 3) := by decide +kernel
theorem d3_5 : decode prog_29_method_4_code 5 = .ok (.dcmp .l, 1) := by decide +kernel
theorem d3_6 : decode prog_29_method_4_code 6 = .ok (.ifCond .lt 8, 3) := by decide +kernel
theorem d3_9 : decode prog_29_method_4_code 9 = .ok (.aload_n 0, 1) := by decide +kernel
theorem d3_10 : decode prog_29_method_4_code 10 = .ok (.getfield 27, 3) := by decide +kernel
theorem d3_13 : decode prog_29_method_4_code 13 = .ok (.dreturn, 1) := by decide +kernel
theorem d3_14 : decode prog_29_method_4_code 14 = .ok (.aload_n 0, 1) := by decide +kernel
theorem d3_15 : decode prog_29_method_4_code 15 = .ok (.getfield 27, 3) := by decide +kernel
theorem d3_18 : decode prog_29_method_4_code 18 = .ok (.dload_n 1, 1) := by decide +kernel
theorem d3_19 : decode prog_29_method_4_code 19 = .ok (.dload_n 3, 1) := by decide +kernel
theorem d3_20 : decode prog_29_method_4_code 20 = .ok (.aload_n 0, 1) := by decide +kernel
theorem d3_21 : decode prog_29_method_4_code 21 = .ok (.getfield 27, 3) := by decide +kernel
theorem d3_24 : decode prog_29_method_4_code 24 = .ok (.dmul, 1) := by decide +kernel
theorem d3_25 : decode prog_29_method_4_code 25 = .ok (.aload_n 0, 1) := by decide +kernel
theorem d3_26 : decode prog_29_method_4_code 26 = .ok (.getfield 11, 3) := by decide +kernel
theorem d3_29 : decode prog_29_method_4_code 29 = .ok (.l2d, 1) := by decide +kernel
theorem d3_30 : decode prog_29_method_4_code 30 = .ok (.ddiv, 1) := by decide +kernel
theorem d3_31 : decode prog_29_method_4_code 31 = .ok (.dadd, 1) := by decide +kernel
theorem d3_32 : decode prog_29_method_4_code 32 = .ok (.invokestatic 36, 3) := by decide +kernel
theorem d3_35 : decode prog_29_method_4_code 35 = .ok (.dreturn, 1) := by decide +kernel
theorem pn_3 : plainName "com/example/clepsydra/clepsydra/WarmingCurve" = true := by first | (simp [plainName, overriddenIn]; done) | decide +kernel
theorem pd_3_0 : parseMethodDescriptor "(DD)D" = some ⟨[.double, .double], some .double⟩ := by decide +kernel
theorem ef_rm3 (m : MethodId) (a1 : Addr) (u2 : UInt64) (u3 : UInt64) : entryFrame m #[(.ref a1), (.double u2), (.double u3)] 5 = mkF m 0 #[.val (.ref a1), .val (.double u2), .second, .val (.double u3), .second] [] := by first | (simp [entryFrame, mkF, argsToLocals, Value.category]; done) | rfl
def Q3 (Z : State) (a1 : Addr) (u2 : UInt64) (u3 : UInt64) (M : UInt64) (q : Int64) (I J W Kk : Int) (h0 : Heap) (n0 : Nat) (v : Option Value) (h : Heap) (L : List Loc) : Prop := ∃ D : UInt64, v = some (.double D) ∧ Fr n0 L ∧ Keep h0 h [] ∧ OwnQ (if I < W * Kk * 1024 then (if W * Kk * 1024 < I + J * Kk then W * Kk * 1024 else I + J * Kk) else W * Kk * 1024) D
set_option maxRecDepth 65536 in
set_option maxHeartbeats 40000000 in
theorem rm3 (l : Launch) (Z : State) (a0 : Array Value) (hw : ∀ d ∈ tables_1, d.before a0 Z = true) (ws : List Jvm.Cond) (a1 : Addr) (u2 : UInt64) (u3 : UInt64) (M : UInt64) (q : Int64) (I J W Kk : Int) (h0 : Heap) (n0 : Nat) (Z0 : n0 ≤ h0.size) (F0 : Fld Z h0 a1 "com/example/clepsydra/clepsydra/WarmingCurve" "warmUpNanos" "J" (.long q)) (F1 : Fld Z h0 a1 "com/example/clepsydra/clepsydra/WarmingCurve" "maxPermits" "D" (.double M)) (QM : OwnQ (W * Kk * 1024) M) (Qs : OwnQ I u2) (Qe : OwnQ J u3) (hq : q.toInt = W) (bI : 0 ≤ I ∧ I ≤ 1125899906842624) (bW : 0 ≤ W ∧ W ≤ 1099511627776) (bJW : 0 ≤ J * (W * Kk) ∧ J * (W * Kk) ≤ 9007199254740992) (bJK : 0 ≤ J * Kk ∧ J * Kk ≤ 1125899906842624) :
    MetFree l (⟨"com/example/clepsydra/clepsydra/WarmingCurve", "filled", "(DD)D"⟩ : MethodName) (head1 (Jvm.Cond.code (⟨"com/example/clepsydra/clepsydra/WarmingCurve", "filled", "(DD)D"⟩ : MethodName) prog_29_method_4_code 5 (some .double) :: ws) ({ frames := 1, cells := 0, slots := 0, locals := 15 } : Room)) (fun a U => a = #[(.ref a1), (.double u2), (.double u3)] ∧ Z.Warmed39 U.vm ∧ U.heap = h0) (fun _ _ _ _ _ => True) (fun _ U o U' => ∃ v L, o = .returned v ∧ Q3 Z a1 u2 u3 M q I J W Kk h0 n0 v U'.heap L ∧ FrameEnd U o U' L ({ frames := 1, cells := 0, slots := 0, locals := 15 } : Room).cells ({ frames := 1, cells := 0, slots := 0, locals := 15 } : Room).slots) := by
  refine MetFree.of_bodySF (plainFor_of_name pn_3) hisR ?_
  intro p e s m args below meth c s₁ Bd hml0 hP hK
  obtain ⟨rfl, hZ, hh⟩ := hP
  have hx := Bd.exec
  have hby := Bd.bytes
  have hml : c.maxLocals = 5 := hml0
  have hown : s.vm.findClass "com/example/clepsydra/clepsydra/WarmingCurve" = some m.cls := findClass_of_methodNamed Bd.named
  have hnm := (name_of_methodNamed Bd.named Bd.method).1
  have X0 : Stand p l e ({ frames := 1, cells := 0, slots := 0, locals := 15 } : Room) s m #[(.ref a1), (.double u2), (.double u3)] below meth c s₁ [] 0 0 := Stand.of_body Bd
  have e0 : s₁.heap = h0 := by rw [← hh, Bd.state]; rfl
  have N0 := Fr.nil n0
  obtain ⟨G, hG⟩ : ∃ G : State → Prop, G = OwnG p e below s ({ frames := 1, cells := 0, slots := 0, locals := 15 } : Room).cells ({ frames := 1, cells := 0, slots := 0, locals := 15 } : Room).slots (Q3 Z a1 u2 u3 M q I J W Kk h0 n0) := ⟨_, rfl⟩
  have go : ∀ {A B : State}, (∀ t, Steps p.tables e below A t → Steps p.tables e below B t) → G A → G B := fun h k => by rw [hG] at k ⊢; exact OwnG.go h k
  suffices k0 : G (s₁.setTop (mkF m 0 #[.val (.ref a1), .val (.double u2), .second, .val (.double u3), .second] [])) by
    rw [hG] at k0; exact OwnG.go (fun t k => castTop (ef_rm3 m a1 u2 u3) k) k0
  have K0 : Keep h0 h0 [] := Keep.refl _ _
  refine go (fun _ k => XS.dloadN X0.here hx rfl (hb hby d3_0) rfl k) ?_
  show G (s₁.setTop (mkF m 1 #[.val (.ref a1), .val (.double u2), .second, .val (.double u3), .second] [(.double u2)]))
  refine go (fun _ k => XS.aloadN X0.here hx rfl (hb hby d3_1) rfl rfl k) ?_
  show G (s₁.setTop (mkF m 2 #[.val (.ref a1), .val (.double u2), .second, .val (.double u3), .second] [(.ref a1), (.double u2)]))
  obtain ⟨T1, X1, e1, st1⟩ := getF X0 hx hZ hown (host := "") (Or.inl (hw _ (List.mem_of_getElem? (i := 24) rfl))) Via.refl e0 F1 (g := (mkF m 2 #[.val (.ref a1), .val (.double u2), .second, .val (.double u3), .second] [(.ref a1), (.double u2)])) rfl rfl (hb hby d3_2)
  refine go st1 ?_
  show G (T1.setTop (mkF m 5 #[.val (.ref a1), .val (.double u2), .second, .val (.double u3), .second] [(.double M), (.double u2)]))
  refine go (fun _ k => XS.dcmpS X1.here hx rfl (hb hby d3_5) rfl (v := (cmpValue (FP.dcmp u2 M) .l)) rfl k) ?_
  show G (T1.setTop (mkF m 6 #[.val (.ref a1), .val (.double u2), .second, .val (.double u3), .second] [(.int (cmpValue (FP.dcmp u2 M) .l))]))
  by_cases hc6_2 : (cmpValue (FP.dcmp u2 M) .l) < (0 : Int32)
  · refine go (fun _ k => XS.ifYes X1.here hx rfl (pc0 := 6) (pc' := 14) rfl (hb hby d3_6) rfl ((if0 _ _).trans (tlt hc6_2).1) (by decide) (by decide) k) ?_
    show G (T1.setTop (mkF m 14 #[.val (.ref a1), .val (.double u2), .second, .val (.double u3), .second] []))
    have hlt := (own_q_cmp Qs QM _).1.mp hc6_2
    have hWp : 0 < W * 1024 := by
      rcases Int.lt_or_eq_of_le bW.1 with h | h
      · omega
      · rw [← h, Int.zero_mul, Int.zero_mul] at hlt; omega
    refine go (fun _ k => XS.aloadN X1.here hx rfl (hb hby d3_14) rfl rfl k) ?_
    show G (T1.setTop (mkF m 15 #[.val (.ref a1), .val (.double u2), .second, .val (.double u3), .second] [(.ref a1)]))
    obtain ⟨T3, X3, e3, st3⟩ := getF X1 hx hZ hown (host := "") (Or.inl (hw _ (List.mem_of_getElem? (i := 24) rfl))) Via.refl e1 F1 (g := (mkF m 15 #[.val (.ref a1), .val (.double u2), .second, .val (.double u3), .second] [(.ref a1)])) rfl rfl (hb hby d3_15)
    refine go st3 ?_
    show G (T3.setTop (mkF m 18 #[.val (.ref a1), .val (.double u2), .second, .val (.double u3), .second] [(.double M)]))
    refine go (fun _ k => XS.dloadN X3.here hx rfl (hb hby d3_18) rfl k) ?_
    show G (T3.setTop (mkF m 19 #[.val (.ref a1), .val (.double u2), .second, .val (.double u3), .second] [(.double u2), (.double M)]))
    refine go (fun _ k => XS.dloadN X3.here hx rfl (hb hby d3_19) rfl k) ?_
    show G (T3.setTop (mkF m 20 #[.val (.ref a1), .val (.double u2), .second, .val (.double u3), .second] [(.double u3), (.double u2), (.double M)]))
    refine go (fun _ k => XS.aloadN X3.here hx rfl (hb hby d3_20) rfl rfl k) ?_
    show G (T3.setTop (mkF m 21 #[.val (.ref a1), .val (.double u2), .second, .val (.double u3), .second] [(.ref a1), (.double u3), (.double u2), (.double M)]))
    obtain ⟨T4, X4, e4, st4⟩ := getF X3 hx hZ hown (host := "") (Or.inl (hw _ (List.mem_of_getElem? (i := 24) rfl))) Via.refl e3 F1 (g := (mkF m 21 #[.val (.ref a1), .val (.double u2), .second, .val (.double u3), .second] [(.ref a1), (.double u3), (.double u2), (.double M)])) rfl rfl (hb hby d3_21)
    refine go st4 ?_
    show G (T4.setTop (mkF m 24 #[.val (.ref a1), .val (.double u2), .second, .val (.double u3), .second] [(.double M), (.double u3), (.double u2), (.double M)]))
    obtain ⟨D5, hD5⟩ : ∃ z, FP.dmul u3 M = z := ⟨_, rfl⟩
    have Q5 : OwnQ (J * (W * Kk)) D5 := hD5 ▸ (own_q_mul Qe QM (by ac_rfl) (Or.inl (by omega)))
    refine go (fun _ k => XS.dmulS X4.here hx rfl (hb hby d3_24) rfl (v := D5) (by rw [hD5]; exact Q5.nn) hD5 k) ?_
    show G (T4.setTop (mkF m 25 #[.val (.ref a1), .val (.double u2), .second, .val (.double u3), .second] [(.double D5), (.double u2), (.double M)]))
    refine go (fun _ k => XS.aloadN X4.here hx rfl (hb hby d3_25) rfl rfl k) ?_
    show G (T4.setTop (mkF m 26 #[.val (.ref a1), .val (.double u2), .second, .val (.double u3), .second] [(.ref a1), (.double D5), (.double u2), (.double M)]))
    obtain ⟨T6, X6, e6, st6⟩ := getF X4 hx hZ hown (host := "") (Or.inl (hw _ (List.mem_of_getElem? (i := 16) rfl))) Via.refl e4 F0 (g := (mkF m 26 #[.val (.ref a1), .val (.double u2), .second, .val (.double u3), .second] [(.ref a1), (.double D5), (.double u2), (.double M)])) rfl rfl (hb hby d3_26)
    refine go st6 ?_
    show G (T6.setTop (mkF m 29 #[.val (.ref a1), .val (.double u2), .second, .val (.double u3), .second] [(.long q), (.double D5), (.double u2), (.double M)]))
    obtain ⟨D7, hD7⟩ : ∃ z, FP.l2d q = z := ⟨_, rfl⟩
    have Q7 : OwnQ (W * 1024) D7 := hD7 ▸ (own_q_l2d (by rw [hq]; omega)).cast (by rw [hq])
    refine go (fun _ k => XS.l2dS X6.here hx rfl (hb hby d3_29) rfl (v := D7) hD7 k) ?_
    show G (T6.setTop (mkF m 30 #[.val (.ref a1), .val (.double u2), .second, .val (.double u3), .second] [(.double D7), (.double D5), (.double u2), (.double M)]))
    obtain ⟨D8, hD8⟩ : ∃ z, FP.ddiv D5 D7 = z := ⟨_, rfl⟩
    have Q8 : OwnQ (J * Kk) D8 := hD8 ▸ (own_q_div Q5 Q7 (bJW.1) (hWp) (bJK.1) (by ac_rfl) (Or.inl (by omega)))
    refine go (fun _ k => XS.ddivS X6.here hx rfl (hb hby d3_30) rfl (v := D8) (by rw [hD8]; exact Q8.nn) hD8 k) ?_
    show G (T6.setTop (mkF m 31 #[.val (.ref a1), .val (.double u2), .second, .val (.double u3), .second] [(.double D8), (.double u2), (.double M)]))
    obtain ⟨D9, hD9⟩ : ∃ z, FP.dadd u2 D8 = z := ⟨_, rfl⟩
    have Q9 : OwnQ (I + J * Kk) D9 := hD9 ▸ (own_q_add Qs Q8 (rfl) (Or.inl (by omega)))
    refine go (fun _ k => XS.daddS X6.here hx rfl (hb hby d3_31) rfl (v := D9) (by rw [hD9]; exact Q9.nn) hD9 k) ?_
    show G (T6.setTop (mkF m 32 #[.val (.ref a1), .val (.double u2), .second, .val (.double u3), .second] [(.double D9), (.double M)]))
    obtain ⟨T10, X10, e10, st10⟩ := natS X6 hx hZ (y := (⟨"java/lang/Math", "min", "(DD)D"⟩ : MethodName)) hown (hw _ (List.mem_of_getElem? (i := 38) rfl)) (hw _ (List.mem_of_getElem? (i := 39) rfl)) (hw _ (List.mem_of_getElem? (i := 40) rfl)) (hw _ (List.mem_of_getElem? (i := 41) rfl)) (by decide) e6 (W := 0) (F := fun a' => a' = #[.double M, .double D9] ∧ Jvm.Free.Fl.NoNaN64 M ∧ Jvm.Free.Fl.NoNaN64 D9) (val := .double (Native.java_lang_Math.nans.pick64 false M D9)) (fun hc => Jvm.Free.Fl.Abs.minD_pays M D9 hc (by decide) (by decide)) (g := (mkF m 32 #[.val (.ref a1), .val (.double u2), .second, .val (.double u3), .second] [(.double D9), (.double M)])) rfl (by rw [hml]; rfl) (argsL := [.double M, .double D9]) (rest := []) (lenOf pd_3_0 rfl) rfl (by show 2 * 0 + _ ≤ _; exact Nat.le_of_eq rfl) (hb hby d3_32) (by decide) (by decide) ⟨rfl, QM.nn, Q9.nn⟩ rfl
    refine go st10 ?_
    obtain ⟨D10, hD10⟩ : ∃ z, (Native.java_lang_Math.nans.pick64 false M D9) = z := ⟨_, rfl⟩
    have Q10 := own_q_min QM Q9
    rw [hD10] at Q10
    show G (T10.setTop (mkF m 35 #[.val (.ref a1), .val (.double u2), .second, .val (.double u3), .second] [(.double (Native.java_lang_Math.nans.pick64 false M D9))]))
    rw [hD10]
    show G (T10.setTop (mkF m 35 #[.val (.ref a1), .val (.double u2), .second, .val (.double u3), .second] [(.double D10)]))
    rw [hG]
    refine own_fin X10 Bd.notSynchronized (v := some (.double D10)) (fun h => by rw [Bd.returns] at h; cases h) (fun fs hr => retOut X10 hx Bd.returns rfl (by simp [FieldType.isReference, Value.isRef]) (hb hby d3_35) hr) ?_ (by decide) (by decide)
    show Q3 Z a1 u2 u3 M q I J W Kk h0 n0 (some (.double D10)) T10.heap _
    rw [e10]
    exact ⟨_, rfl, N0, K0, by rw [if_pos hlt]; exact Q10⟩
  · refine go (fun _ k => XS.ifNo X1.here hx rfl (hb hby d3_6) rfl ((if0 _ _).trans (flt hc6_2).1) k) ?_
    show G (T1.setTop (mkF m 9 #[.val (.ref a1), .val (.double u2), .second, .val (.double u3), .second] []))
    refine go (fun _ k => XS.aloadN X1.here hx rfl (hb hby d3_9) rfl rfl k) ?_
    show G (T1.setTop (mkF m 10 #[.val (.ref a1), .val (.double u2), .second, .val (.double u3), .second] [(.ref a1)]))
    obtain ⟨T11, X11, e11, st11⟩ := getF X1 hx hZ hown (host := "") (Or.inl (hw _ (List.mem_of_getElem? (i := 24) rfl))) Via.refl e1 F1 (g := (mkF m 10 #[.val (.ref a1), .val (.double u2), .second, .val (.double u3), .second] [(.ref a1)])) rfl rfl (hb hby d3_10)
    refine go st11 ?_
    show G (T11.setTop (mkF m 13 #[.val (.ref a1), .val (.double u2), .second, .val (.double u3), .second] [(.double M)]))
    rw [hG]
    refine own_fin X11 Bd.notSynchronized (v := some (.double M)) (fun h => by rw [Bd.returns] at h; cases h) (fun fs hr => retOut X11 hx Bd.returns rfl (by simp [FieldType.isReference, Value.isRef]) (hb hby d3_13) hr) ?_ (by decide) (by decide)
    show Q3 Z a1 u2 u3 M q I J W Kk h0 n0 (some (.double M)) T11.heap _
    rw [e11]
    exact ⟨_, rfl, N0, K0, by rw [if_neg (fun k => hc6_2 ((own_q_cmp Qs QM _).1.mpr k))]; exact QM⟩

theorem d4_0 : decode prog_29_method_3_code 0 = .ok (.aload_n 0, 1) := by decide +kernel
theorem d4_1 : decode prog_29_method_3_code 1 = .ok (.getfield 27, 3) := by decide +kernel
theorem d4_4 : decode prog_29_method_3_code 4 = .ok (.dreturn, 1) := by decide +kernel
theorem pn_4 : plainName "com/example/clepsydra/clepsydra/WarmingCurve" = true := by first | (simp [plainName, overriddenIn]; done) | decide +kernel
theorem ef_rm4 (m : MethodId) (a1 : Addr) : entryFrame m #[(.ref a1)] 1 = mkF m 0 #[.val (.ref a1)] [] := by first | (simp [entryFrame, mkF, argsToLocals, Value.category]; done) | rfl
def Q4 (Z : State) (a1 : Addr) (M : UInt64) (h0 : Heap) (n0 : Nat) (v : Option Value) (h : Heap) (L : List Loc) : Prop := v = some (.double M) ∧ Fr n0 L ∧ h = h0
set_option maxRecDepth 65536 in
set_option maxHeartbeats 40000000 in
theorem rm4 (l : Launch) (Z : State) (a0 : Array Value) (hw : ∀ d ∈ tables_1, d.before a0 Z = true) (ws : List Jvm.Cond) (a1 : Addr) (M : UInt64) (h0 : Heap) (n0 : Nat) (Z0 : n0 ≤ h0.size) (F1 : Fld Z h0 a1 "com/example/clepsydra/clepsydra/WarmingCurve" "maxPermits" "D" (.double M)) :
    MetFree l (⟨"com/example/clepsydra/clepsydra/WarmingCurve", "maxPermits", "()D"⟩ : MethodName) (head1 (Jvm.Cond.code (⟨"com/example/clepsydra/clepsydra/WarmingCurve", "maxPermits", "()D"⟩ : MethodName) prog_29_method_3_code 1 (some .double) :: ws) ({ frames := 0, cells := 0, slots := 0, locals := 0 } : Room)) (fun a U => a = #[(.ref a1)] ∧ Z.Warmed39 U.vm ∧ U.heap = h0) (fun _ _ _ _ _ => True) (fun _ U o U' => ∃ v L, o = .returned v ∧ Q4 Z a1 M h0 n0 v U'.heap L ∧ FrameEnd U o U' L ({ frames := 0, cells := 0, slots := 0, locals := 0 } : Room).cells ({ frames := 0, cells := 0, slots := 0, locals := 0 } : Room).slots) := by
  refine MetFree.of_bodySF (plainFor_of_name pn_4) hisR ?_
  intro p e s m args below meth c s₁ Bd hml0 hP hK
  obtain ⟨rfl, hZ, hh⟩ := hP
  have hx := Bd.exec
  have hby := Bd.bytes
  have hml : c.maxLocals = 1 := hml0
  have hown : s.vm.findClass "com/example/clepsydra/clepsydra/WarmingCurve" = some m.cls := findClass_of_methodNamed Bd.named
  have hnm := (name_of_methodNamed Bd.named Bd.method).1
  have X0 : Stand p l e ({ frames := 0, cells := 0, slots := 0, locals := 0 } : Room) s m #[(.ref a1)] below meth c s₁ [] 0 0 := Stand.of_body Bd
  have e0 : s₁.heap = h0 := by rw [← hh, Bd.state]; rfl
  have N0 := Fr.nil n0
  obtain ⟨G, hG⟩ : ∃ G : State → Prop, G = OwnG p e below s ({ frames := 0, cells := 0, slots := 0, locals := 0 } : Room).cells ({ frames := 0, cells := 0, slots := 0, locals := 0 } : Room).slots (Q4 Z a1 M h0 n0) := ⟨_, rfl⟩
  have go : ∀ {A B : State}, (∀ t, Steps p.tables e below A t → Steps p.tables e below B t) → G A → G B := fun h k => by rw [hG] at k ⊢; exact OwnG.go h k
  suffices k0 : G (s₁.setTop (mkF m 0 #[.val (.ref a1)] [])) by
    rw [hG] at k0; exact OwnG.go (fun t k => castTop (ef_rm4 m a1) k) k0
  refine go (fun _ k => XS.aloadN X0.here hx rfl (hb hby d4_0) rfl rfl k) ?_
  show G (s₁.setTop (mkF m 1 #[.val (.ref a1)] [(.ref a1)]))
  obtain ⟨T1, X1, e1, st1⟩ := getF X0 hx hZ hown (host := "") (Or.inl (hw _ (List.mem_of_getElem? (i := 24) rfl))) Via.refl e0 F1 (g := (mkF m 1 #[.val (.ref a1)] [(.ref a1)])) rfl rfl (hb hby d4_1)
  refine go st1 ?_
  show G (T1.setTop (mkF m 4 #[.val (.ref a1)] [(.double M)]))
  rw [hG]
  refine own_fin X1 Bd.notSynchronized (v := some (.double M)) (fun h => by rw [Bd.returns] at h; cases h) (fun fs hr => retOut X1 hx Bd.returns rfl (by simp [FieldType.isReference, Value.isRef]) (hb hby d4_4) hr) ?_ (by decide) (by decide)
  show Q4 Z a1 M h0 n0 (some (.double M)) T1.heap _
  rw [e1]
  exact ⟨rfl, N0, rfl⟩

theorem pn_0 : plainName "com/example/clepsydra/clepsydra/WarmingCurveFilledPinLaw" = true := by first | (simp [plainName, overriddenIn]; done) | decide +kernel
theorem pd_0_0 : parseMethodDescriptor "(DJI)V" = some ⟨[.double, .long, .int], none⟩ := by decide +kernel
theorem pd_0_1 : parseMethodDescriptor "(DD)D" = some ⟨[.double, .double], some .double⟩ := by decide +kernel
theorem pd_0_2 : parseMethodDescriptor "()D" = some ⟨[], some .double⟩ := by decide +kernel
theorem ef_rm0 (m : MethodId) (p1 : Int32) (p2 : Int32) (p3 : Int32) (p4 : Int32) : entryFrame m #[(.int p1), (.int p2), (.int p3), (.int p4)] maxLocals = mkF m 0 #[.val (.int p1), .val (.int p2), .val (.int p3), .val (.int p4), .unset, .unset, .unset, .unset, .unset, .unset, .unset, .unset, .unset, .unset, .unset, .unset, .unset, .unset, .unset, .unset] [] := by first | (simp [entryFrame, mkF, argsToLocals, Value.category, maxLocals]; done) | rfl
def Q0 (Z : State) (p1 : Int32) (p2 : Int32) (p3 : Int32) (p4 : Int32) (h0 : Heap) (n0 : Nat) (v : Option Value) (h : Heap) (L : List Loc) : Prop := v = some (.int (1 : Int32)) ∧ Fr n0 L
set_option maxRecDepth 65536 in
set_option maxHeartbeats 40000000 in
theorem rm0 (l : Launch) (Z : State) (a0 : Array Value) (hw : ∀ d ∈ tables_1, d.before a0 Z = true) (ws : List Jvm.Cond) (p1 : Int32) (p2 : Int32) (p3 : Int32) (p4 : Int32) (h0 : Heap) (n0 : Nat) (Z0 : n0 ≤ h0.size) :
    MetFree l x (head1 (Jvm.Cond.code x code maxLocals ret :: ws) room_1) (fun a U => a = #[(.int p1), (.int p2), (.int p3), (.int p4)] ∧ Z.Warmed39 U.vm ∧ U.heap = h0) (fun _ _ _ _ _ => True) (fun _ U o U' => ∃ v L, o = .returned v ∧ Q0 Z p1 p2 p3 p4 h0 n0 v U'.heap L ∧ FrameEnd U o U' L room_1.cells room_1.slots) := by
  refine MetFree.of_bodySF (plainFor_of_name pn_0) hisR ?_
  intro p e s m args below meth c s₁ Bd hml0 hP hK
  obtain ⟨rfl, hZ, hh⟩ := hP
  have hx := Bd.exec
  have hby := Bd.bytes
  have hml : c.maxLocals = 20 := hml0
  have hown : s.vm.findClass "com/example/clepsydra/clepsydra/WarmingCurveFilledPinLaw" = some m.cls := findClass_of_methodNamed Bd.named
  have hnm := (name_of_methodNamed Bd.named Bd.method).1
  have X0 : Stand p l e room_1 s m #[(.int p1), (.int p2), (.int p3), (.int p4)] below meth c s₁ [] 0 0 := Stand.of_body Bd
  have e0 : s₁.heap = h0 := by rw [← hh, Bd.state]; rfl
  have N0 := Fr.nil n0
  obtain ⟨G, hG⟩ : ∃ G : State → Prop, G = OwnG p e below s room_1.cells room_1.slots (Q0 Z p1 p2 p3 p4 h0 n0) := ⟨_, rfl⟩
  have go : ∀ {A B : State}, (∀ t, Steps p.tables e below A t → Steps p.tables e below B t) → G A → G B := fun h k => by rw [hG] at k ⊢; exact OwnG.go h k
  suffices k0 : G (s₁.setTop (mkF m 0 #[.val (.int p1), .val (.int p2), .val (.int p3), .val (.int p4), .unset, .unset, .unset, .unset, .unset, .unset, .unset, .unset, .unset, .unset, .unset, .unset, .unset, .unset, .unset, .unset] [])) by
    rw [hG] at k0; exact OwnG.go (fun t k => castTop (ef_rm0 m p1 p2 p3 p4) k) k0
  refine go (fun _ k => XS.iloadN X0.here hx rfl (hb hby at_0) rfl k) ?_
  show G (s₁.setTop (mkF m 1 #[.val (.int p1), .val (.int p2), .val (.int p3), .val (.int p4), .unset, .unset, .unset, .unset, .unset, .unset, .unset, .unset, .unset, .unset, .unset, .unset, .unset, .unset, .unset, .unset] [(.int p1)]))
  refine go (X0.ldcInt hx hown (mvT hZ (hw _ (List.mem_of_getElem? (i := 0) rfl))) (g := (mkF m 1 #[.val (.int p1), .val (.int p2), .val (.int p3), .val (.int p4), .unset, .unset, .unset, .unset, .unset, .unset, .unset, .unset, .unset, .unset, .unset, .unset, .unset, .unset, .unset, .unset] [(.int p1)])) rfl (hb hby at_1)) ?_
  show G (s₁.setTop (mkF m 3 #[.val (.int p1), .val (.int p2), .val (.int p3), .val (.int p4), .unset, .unset, .unset, .unset, .unset, .unset, .unset, .unset, .unset, .unset, .unset, .unset, .unset, .unset, .unset, .unset] [(.int (131071 : Int32)), (.int p1)]))
  refine go (fun _ k => XS.iand X0.here hx rfl (hb hby at_3) rfl k) ?_
  show G (s₁.setTop (mkF m 4 #[.val (.int p1), .val (.int p2), .val (.int p3), .val (.int p4), .unset, .unset, .unset, .unset, .unset, .unset, .unset, .unset, .unset, .unset, .unset, .unset, .unset, .unset, .unset, .unset] [(.int (p1 &&& (131071 : Int32)))]))
  refine go (fun _ k => XS.i2l X0.here hx rfl (hb hby at_4) rfl k) ?_
  show G (s₁.setTop (mkF m 5 #[.val (.int p1), .val (.int p2), .val (.int p3), .val (.int p4), .unset, .unset, .unset, .unset, .unset, .unset, .unset, .unset, .unset, .unset, .unset, .unset, .unset, .unset, .unset, .unset] [(.long ((p1 &&& (131071 : Int32)).toInt64))]))
  refine go (fun _ k => XS.lstore X0.here hx rfl (hb hby at_5) rfl (l' := #[.val (.int p1), .val (.int p2), .val (.int p3), .val (.int p4), .val (.long ((p1 &&& (131071 : Int32)).toInt64)), .second, .unset, .unset, .unset, .unset, .unset, .unset, .unset, .unset, .unset, .unset, .unset, .unset, .unset, .unset]) rfl k) ?_
  show G (s₁.setTop (mkF m 7 #[.val (.int p1), .val (.int p2), .val (.int p3), .val (.int p4), .val (.long ((p1 &&& (131071 : Int32)).toInt64)), .second, .unset, .unset, .unset, .unset, .unset, .unset, .unset, .unset, .unset, .unset, .unset, .unset, .unset, .unset] []))
  refine go (fun _ k => XS.iconst X0.here hx rfl (hb hby at_7) k) ?_
  show G (s₁.setTop (mkF m 8 #[.val (.int p1), .val (.int p2), .val (.int p3), .val (.int p4), .val (.long ((p1 &&& (131071 : Int32)).toInt64)), .second, .unset, .unset, .unset, .unset, .unset, .unset, .unset, .unset, .unset, .unset, .unset, .unset, .unset, .unset] [(.int (1 : Int32))]))
  refine go (fun _ k => XS.iloadN X0.here hx rfl (hb hby at_8) rfl k) ?_
  show G (s₁.setTop (mkF m 9 #[.val (.int p1), .val (.int p2), .val (.int p3), .val (.int p4), .val (.long ((p1 &&& (131071 : Int32)).toInt64)), .second, .unset, .unset, .unset, .unset, .unset, .unset, .unset, .unset, .unset, .unset, .unset, .unset, .unset, .unset] [(.int p2), (.int (1 : Int32))]))
  refine go (fun _ k => XS.iconst X0.here hx rfl (hb hby at_9) k) ?_
  show G (s₁.setTop (mkF m 10 #[.val (.int p1), .val (.int p2), .val (.int p3), .val (.int p4), .val (.long ((p1 &&& (131071 : Int32)).toInt64)), .second, .unset, .unset, .unset, .unset, .unset, .unset, .unset, .unset, .unset, .unset, .unset, .unset, .unset, .unset] [(.int (3 : Int32)), (.int p2), (.int (1 : Int32))]))
  refine go (fun _ k => XS.iand X0.here hx rfl (hb hby at_10) rfl k) ?_
  show G (s₁.setTop (mkF m 11 #[.val (.int p1), .val (.int p2), .val (.int p3), .val (.int p4), .val (.long ((p1 &&& (131071 : Int32)).toInt64)), .second, .unset, .unset, .unset, .unset, .unset, .unset, .unset, .unset, .unset, .unset, .unset, .unset, .unset, .unset] [(.int (p2 &&& (3 : Int32))), (.int (1 : Int32))]))
  refine go (fun _ k => XS.ishl X0.here hx rfl (hb hby at_11) rfl k) ?_
  show G (s₁.setTop (mkF m 12 #[.val (.int p1), .val (.int p2), .val (.int p3), .val (.int p4), .val (.long ((p1 &&& (131071 : Int32)).toInt64)), .second, .unset, .unset, .unset, .unset, .unset, .unset, .unset, .unset, .unset, .unset, .unset, .unset, .unset, .unset] [(.int ((1 : Int32) <<< ((p2 &&& (3 : Int32)) &&& 31)))]))
  refine go (fun _ k => XS.istore X0.here hx rfl (hb hby at_12) rfl (l' := #[.val (.int p1), .val (.int p2), .val (.int p3), .val (.int p4), .val (.long ((p1 &&& (131071 : Int32)).toInt64)), .second, .val (.int ((1 : Int32) <<< ((p2 &&& (3 : Int32)) &&& 31))), .unset, .unset, .unset, .unset, .unset, .unset, .unset, .unset, .unset, .unset, .unset, .unset, .unset]) rfl k) ?_
  show G (s₁.setTop (mkF m 14 #[.val (.int p1), .val (.int p2), .val (.int p3), .val (.int p4), .val (.long ((p1 &&& (131071 : Int32)).toInt64)), .second, .val (.int ((1 : Int32) <<< ((p2 &&& (3 : Int32)) &&& 31))), .unset, .unset, .unset, .unset, .unset, .unset, .unset, .unset, .unset, .unset, .unset, .unset, .unset] []))
  have bW0 := own_mask32 p1 131071 (by decide)
  have bI0 := own_mask32 p3 8388607 (by decide)
  have bJ0 := own_mask32 p4 4194303 (by decide)
  have bK0 := own_k p2
  rw [show (131071 : Int32).toInt = 131071 from rfl] at bW0
  rw [show (8388607 : Int32).toInt = 8388607 from rfl] at bI0
  rw [show (4194303 : Int32).toInt = 4194303 from rfl] at bJ0
  obtain ⟨Wv, eW0⟩ : ∃ z : Int, (p1 &&& (131071 : Int32)).toInt = z := ⟨_, rfl⟩
  obtain ⟨wl, ewl⟩ : ∃ z : Int64, ((p1 &&& (131071 : Int32)).toInt64) = z := ⟨_, rfl⟩
  have eW : wl.toInt = Wv := by rw [← ewl, c_i2l]; exact eW0
  obtain ⟨Iv, eI⟩ : ∃ z : Int, (p3 &&& (8388607 : Int32)).toInt = z := ⟨_, rfl⟩
  obtain ⟨Jv, eJ⟩ : ∃ z : Int, (p4 &&& (4194303 : Int32)).toInt = z := ⟨_, rfl⟩
  obtain ⟨kv, ekv⟩ : ∃ z : Int32, ((1 : Int32) <<< ((p2 &&& (3 : Int32)) &&& 31)) = z := ⟨_, rfl⟩
  obtain ⟨Kv, eK⟩ : ∃ z : Int, kv.toInt = z := ⟨_, rfl⟩
  rw [ekv, eK] at bK0
  rw [eW0] at bW0
  rw [eI] at bI0
  rw [eJ] at bJ0
  have bWK := own_wk bW0 bK0
  have bJK := own_jk bJ0 bK0
  have bJWK := own_jwk bJ0 bWK
  have hm : (wl * kv.toInt64).toInt = Wv * Kv := by rw [own_mul64 (by rw [c_i2l, eW, eK]; omega) (by rw [c_i2l, eW, eK]; omega), c_i2l, eW, eK]
  rw [ewl, ekv]
  show G (s₁.setTop (mkF m 14 #[.val (.int p1), .val (.int p2), .val (.int p3), .val (.int p4), .val (.long wl), .second, .val (.int kv), .unset, .unset, .unset, .unset, .unset, .unset, .unset, .unset, .unset, .unset, .unset, .unset, .unset] []))
  refine go (X0.ldc2DoubleC hx hown (mvT hZ (hw _ (List.mem_of_getElem? (i := 1) rfl))) (g := (mkF m 14 #[.val (.int p1), .val (.int p2), .val (.int p3), .val (.int p4), .val (.long wl), .second, .val (.int kv), .unset, .unset, .unset, .unset, .unset, .unset, .unset, .unset, .unset, .unset, .unset, .unset, .unset] [])) rfl (hb hby at_14)) ?_
  show G (s₁.setTop (mkF m 17 #[.val (.int p1), .val (.int p2), .val (.int p3), .val (.int p4), .val (.long wl), .second, .val (.int kv), .unset, .unset, .unset, .unset, .unset, .unset, .unset, .unset, .unset, .unset, .unset, .unset, .unset] [(.double (4741671816366391296 : UInt64))]))
  refine go (fun _ k => XS.iload X0.here hx rfl (hb hby at_17) rfl k) ?_
  show G (s₁.setTop (mkF m 19 #[.val (.int p1), .val (.int p2), .val (.int p3), .val (.int p4), .val (.long wl), .second, .val (.int kv), .unset, .unset, .unset, .unset, .unset, .unset, .unset, .unset, .unset, .unset, .unset, .unset, .unset] [(.int kv), (.double (4741671816366391296 : UInt64))]))
  obtain ⟨D1, hD1⟩ : ∃ z, FP.i2d kv = z := ⟨_, rfl⟩
  have Q1 : OwnQ (Kv * 1024) D1 := hD1 ▸ (own_q_i2d kv).cast (by rw [eK])
  refine go (fun _ k => XS.i2dS X0.here hx rfl (hb hby at_19) rfl (v := D1) hD1 k) ?_
  show G (s₁.setTop (mkF m 20 #[.val (.int p1), .val (.int p2), .val (.int p3), .val (.int p4), .val (.long wl), .second, .val (.int kv), .unset, .unset, .unset, .unset, .unset, .unset, .unset, .unset, .unset, .unset, .unset, .unset, .unset] [(.double D1), (.double (4741671816366391296 : UInt64))]))
  obtain ⟨D2, hD2⟩ : ∃ z, FP.dmul (4741671816366391296 : UInt64) D1 = z := ⟨_, rfl⟩
  have Q2 : OwnQ (Kv * 1000000000 * 1024) D2 := hD2 ▸ (own_q_mul own_q_1e9 Q1 (by omega) (Or.inl (by omega)))
  refine go (fun _ k => XS.dmulS X0.here hx rfl (hb hby at_20) rfl (v := D2) (by rw [hD2]; exact Q2.nn) hD2 k) ?_
  show G (s₁.setTop (mkF m 21 #[.val (.int p1), .val (.int p2), .val (.int p3), .val (.int p4), .val (.long wl), .second, .val (.int kv), .unset, .unset, .unset, .unset, .unset, .unset, .unset, .unset, .unset, .unset, .unset, .unset, .unset] [(.double D2)]))
  refine go (fun _ k => XS.dstore X0.here hx rfl (hb hby at_21) rfl (l' := #[.val (.int p1), .val (.int p2), .val (.int p3), .val (.int p4), .val (.long wl), .second, .val (.int kv), .val (.double D2), .second, .unset, .unset, .unset, .unset, .unset, .unset, .unset, .unset, .unset, .unset, .unset]) rfl k) ?_
  show G (s₁.setTop (mkF m 23 #[.val (.int p1), .val (.int p2), .val (.int p3), .val (.int p4), .val (.long wl), .second, .val (.int kv), .val (.double D2), .second, .unset, .unset, .unset, .unset, .unset, .unset, .unset, .unset, .unset, .unset, .unset] []))
  refine go (fun _ k => XS.lload X0.here hx rfl (hb hby at_23) rfl k) ?_
  show G (s₁.setTop (mkF m 25 #[.val (.int p1), .val (.int p2), .val (.int p3), .val (.int p4), .val (.long wl), .second, .val (.int kv), .val (.double D2), .second, .unset, .unset, .unset, .unset, .unset, .unset, .unset, .unset, .unset, .unset, .unset] [(.long wl)]))
  refine go (fun _ k => XS.iload X0.here hx rfl (hb hby at_25) rfl k) ?_
  show G (s₁.setTop (mkF m 27 #[.val (.int p1), .val (.int p2), .val (.int p3), .val (.int p4), .val (.long wl), .second, .val (.int kv), .val (.double D2), .second, .unset, .unset, .unset, .unset, .unset, .unset, .unset, .unset, .unset, .unset, .unset] [(.int kv), (.long wl)]))
  refine go (fun _ k => XS.i2l X0.here hx rfl (hb hby at_27) rfl k) ?_
  show G (s₁.setTop (mkF m 28 #[.val (.int p1), .val (.int p2), .val (.int p3), .val (.int p4), .val (.long wl), .second, .val (.int kv), .val (.double D2), .second, .unset, .unset, .unset, .unset, .unset, .unset, .unset, .unset, .unset, .unset, .unset] [(.long (kv.toInt64)), (.long wl)]))
  refine go (fun _ k => XS.lmul X0.here hx rfl (hb hby at_28) rfl k) ?_
  show G (s₁.setTop (mkF m 29 #[.val (.int p1), .val (.int p2), .val (.int p3), .val (.int p4), .val (.long wl), .second, .val (.int kv), .val (.double D2), .second, .unset, .unset, .unset, .unset, .unset, .unset, .unset, .unset, .unset, .unset, .unset] [(.long (wl * (kv.toInt64)))]))
  obtain ⟨D3, hD3⟩ : ∃ z, FP.l2d (wl * (kv.toInt64)) = z := ⟨_, rfl⟩
  have Q3 : OwnQ (Wv * Kv * 1024) D3 := hD3 ▸ (own_q_l2d (by rw [hm]; omega)).cast (by rw [hm])
  refine go (fun _ k => XS.l2dS X0.here hx rfl (hb hby at_29) rfl (v := D3) hD3 k) ?_
  show G (s₁.setTop (mkF m 30 #[.val (.int p1), .val (.int p2), .val (.int p3), .val (.int p4), .val (.long wl), .second, .val (.int kv), .val (.double D2), .second, .unset, .unset, .unset, .unset, .unset, .unset, .unset, .unset, .unset, .unset, .unset] [(.double D3)]))
  refine go (fun _ k => XS.dstore X0.here hx rfl (hb hby at_30) rfl (l' := #[.val (.int p1), .val (.int p2), .val (.int p3), .val (.int p4), .val (.long wl), .second, .val (.int kv), .val (.double D2), .second, .val (.double D3), .second, .unset, .unset, .unset, .unset, .unset, .unset, .unset, .unset, .unset]) rfl k) ?_
  show G (s₁.setTop (mkF m 32 #[.val (.int p1), .val (.int p2), .val (.int p3), .val (.int p4), .val (.long wl), .second, .val (.int kv), .val (.double D2), .second, .val (.double D3), .second, .unset, .unset, .unset, .unset, .unset, .unset, .unset, .unset, .unset] []))
  refine go (fun _ k => XS.iloadN X0.here hx rfl (hb hby at_32) rfl k) ?_
  show G (s₁.setTop (mkF m 33 #[.val (.int p1), .val (.int p2), .val (.int p3), .val (.int p4), .val (.long wl), .second, .val (.int kv), .val (.double D2), .second, .val (.double D3), .second, .unset, .unset, .unset, .unset, .unset, .unset, .unset, .unset, .unset] [(.int p3)]))
  refine go (X0.ldcInt hx hown (mvT hZ (hw _ (List.mem_of_getElem? (i := 2) rfl))) (g := (mkF m 33 #[.val (.int p1), .val (.int p2), .val (.int p3), .val (.int p4), .val (.long wl), .second, .val (.int kv), .val (.double D2), .second, .val (.double D3), .second, .unset, .unset, .unset, .unset, .unset, .unset, .unset, .unset, .unset] [(.int p3)])) rfl (hb hby at_33)) ?_
  show G (s₁.setTop (mkF m 35 #[.val (.int p1), .val (.int p2), .val (.int p3), .val (.int p4), .val (.long wl), .second, .val (.int kv), .val (.double D2), .second, .val (.double D3), .second, .unset, .unset, .unset, .unset, .unset, .unset, .unset, .unset, .unset] [(.int (8388607 : Int32)), (.int p3)]))
  refine go (fun _ k => XS.iand X0.here hx rfl (hb hby at_35) rfl k) ?_
  show G (s₁.setTop (mkF m 36 #[.val (.int p1), .val (.int p2), .val (.int p3), .val (.int p4), .val (.long wl), .second, .val (.int kv), .val (.double D2), .second, .val (.double D3), .second, .unset, .unset, .unset, .unset, .unset, .unset, .unset, .unset, .unset] [(.int (p3 &&& (8388607 : Int32)))]))
  obtain ⟨D4, hD4⟩ : ∃ z, FP.i2d (p3 &&& (8388607 : Int32)) = z := ⟨_, rfl⟩
  have Q4 : OwnQ (Iv * 1024) D4 := hD4 ▸ (own_q_i2d _).cast (by rw [eI])
  refine go (fun _ k => XS.i2dS X0.here hx rfl (hb hby at_36) rfl (v := D4) hD4 k) ?_
  show G (s₁.setTop (mkF m 37 #[.val (.int p1), .val (.int p2), .val (.int p3), .val (.int p4), .val (.long wl), .second, .val (.int kv), .val (.double D2), .second, .val (.double D3), .second, .unset, .unset, .unset, .unset, .unset, .unset, .unset, .unset, .unset] [(.double D4)]))
  refine go (X0.ldc2DoubleC hx hown (mvT hZ (hw _ (List.mem_of_getElem? (i := 3) rfl))) (g := (mkF m 37 #[.val (.int p1), .val (.int p2), .val (.int p3), .val (.int p4), .val (.long wl), .second, .val (.int kv), .val (.double D2), .second, .val (.double D3), .second, .unset, .unset, .unset, .unset, .unset, .unset, .unset, .unset, .unset] [(.double D4)])) rfl (hb hby at_37)) ?_
  show G (s₁.setTop (mkF m 40 #[.val (.int p1), .val (.int p2), .val (.int p3), .val (.int p4), .val (.long wl), .second, .val (.int kv), .val (.double D2), .second, .val (.double D3), .second, .unset, .unset, .unset, .unset, .unset, .unset, .unset, .unset, .unset] [(.double (4616189618054758400 : UInt64)), (.double D4)]))
  obtain ⟨D5, hD5⟩ : ∃ z, FP.ddiv D4 (4616189618054758400 : UInt64) = z := ⟨_, rfl⟩
  have Q5 : OwnQ (Iv * 256) D5 := hD5 ▸ (own_q_div Q4 own_q_4 (by omega) (by decide) (by omega) (by omega) (Or.inl (by omega)))
  refine go (fun _ k => XS.ddivS X0.here hx rfl (hb hby at_40) rfl (v := D5) (by rw [hD5]; exact Q5.nn) hD5 k) ?_
  show G (s₁.setTop (mkF m 41 #[.val (.int p1), .val (.int p2), .val (.int p3), .val (.int p4), .val (.long wl), .second, .val (.int kv), .val (.double D2), .second, .val (.double D3), .second, .unset, .unset, .unset, .unset, .unset, .unset, .unset, .unset, .unset] [(.double D5)]))
  refine go (fun _ k => XS.dstore X0.here hx rfl (hb hby at_41) rfl (l' := #[.val (.int p1), .val (.int p2), .val (.int p3), .val (.int p4), .val (.long wl), .second, .val (.int kv), .val (.double D2), .second, .val (.double D3), .second, .val (.double D5), .second, .unset, .unset, .unset, .unset, .unset, .unset, .unset]) rfl k) ?_
  show G (s₁.setTop (mkF m 43 #[.val (.int p1), .val (.int p2), .val (.int p3), .val (.int p4), .val (.long wl), .second, .val (.int kv), .val (.double D2), .second, .val (.double D3), .second, .val (.double D5), .second, .unset, .unset, .unset, .unset, .unset, .unset, .unset] []))
  refine go (fun _ k => XS.iloadN X0.here hx rfl (hb hby at_43) rfl k) ?_
  show G (s₁.setTop (mkF m 44 #[.val (.int p1), .val (.int p2), .val (.int p3), .val (.int p4), .val (.long wl), .second, .val (.int kv), .val (.double D2), .second, .val (.double D3), .second, .val (.double D5), .second, .unset, .unset, .unset, .unset, .unset, .unset, .unset] [(.int p4)]))
  refine go (X0.ldcInt hx hown (mvT hZ (hw _ (List.mem_of_getElem? (i := 4) rfl))) (g := (mkF m 44 #[.val (.int p1), .val (.int p2), .val (.int p3), .val (.int p4), .val (.long wl), .second, .val (.int kv), .val (.double D2), .second, .val (.double D3), .second, .val (.double D5), .second, .unset, .unset, .unset, .unset, .unset, .unset, .unset] [(.int p4)])) rfl (hb hby at_44)) ?_
  show G (s₁.setTop (mkF m 46 #[.val (.int p1), .val (.int p2), .val (.int p3), .val (.int p4), .val (.long wl), .second, .val (.int kv), .val (.double D2), .second, .val (.double D3), .second, .val (.double D5), .second, .unset, .unset, .unset, .unset, .unset, .unset, .unset] [(.int (4194303 : Int32)), (.int p4)]))
  refine go (fun _ k => XS.iand X0.here hx rfl (hb hby at_46) rfl k) ?_
  show G (s₁.setTop (mkF m 47 #[.val (.int p1), .val (.int p2), .val (.int p3), .val (.int p4), .val (.long wl), .second, .val (.int kv), .val (.double D2), .second, .val (.double D3), .second, .val (.double D5), .second, .unset, .unset, .unset, .unset, .unset, .unset, .unset] [(.int (p4 &&& (4194303 : Int32)))]))
  obtain ⟨D6, hD6⟩ : ∃ z, FP.i2d (p4 &&& (4194303 : Int32)) = z := ⟨_, rfl⟩
  have Q6 : OwnQ (Jv * 1024) D6 := hD6 ▸ (own_q_i2d _).cast (by rw [eJ])
  refine go (fun _ k => XS.i2dS X0.here hx rfl (hb hby at_47) rfl (v := D6) hD6 k) ?_
  show G (s₁.setTop (mkF m 48 #[.val (.int p1), .val (.int p2), .val (.int p3), .val (.int p4), .val (.long wl), .second, .val (.int kv), .val (.double D2), .second, .val (.double D3), .second, .val (.double D5), .second, .unset, .unset, .unset, .unset, .unset, .unset, .unset] [(.double D6)]))
  refine go (X0.ldc2DoubleC hx hown (mvT hZ (hw _ (List.mem_of_getElem? (i := 5) rfl))) (g := (mkF m 48 #[.val (.int p1), .val (.int p2), .val (.int p3), .val (.int p4), .val (.long wl), .second, .val (.int kv), .val (.double D2), .second, .val (.double D3), .second, .val (.double D5), .second, .unset, .unset, .unset, .unset, .unset, .unset, .unset] [(.double D6)])) rfl (hb hby at_48)) ?_
  show G (s₁.setTop (mkF m 51 #[.val (.int p1), .val (.int p2), .val (.int p3), .val (.int p4), .val (.long wl), .second, .val (.int kv), .val (.double D2), .second, .val (.double D3), .second, .val (.double D5), .second, .unset, .unset, .unset, .unset, .unset, .unset, .unset] [(.double (4611686018427387904 : UInt64)), (.double D6)]))
  obtain ⟨D7, hD7⟩ : ∃ z, FP.ddiv D6 (4611686018427387904 : UInt64) = z := ⟨_, rfl⟩
  have Q7 : OwnQ (Jv * 512) D7 := hD7 ▸ (own_q_div Q6 own_q_2 (by omega) (by decide) (by omega) (by omega) (Or.inl (by omega)))
  refine go (fun _ k => XS.ddivS X0.here hx rfl (hb hby at_51) rfl (v := D7) (by rw [hD7]; exact Q7.nn) hD7 k) ?_
  show G (s₁.setTop (mkF m 52 #[.val (.int p1), .val (.int p2), .val (.int p3), .val (.int p4), .val (.long wl), .second, .val (.int kv), .val (.double D2), .second, .val (.double D3), .second, .val (.double D5), .second, .unset, .unset, .unset, .unset, .unset, .unset, .unset] [(.double D7)]))
  refine go (fun _ k => XS.dstore X0.here hx rfl (hb hby at_52) rfl (l' := #[.val (.int p1), .val (.int p2), .val (.int p3), .val (.int p4), .val (.long wl), .second, .val (.int kv), .val (.double D2), .second, .val (.double D3), .second, .val (.double D5), .second, .val (.double D7), .second, .unset, .unset, .unset, .unset, .unset]) rfl k) ?_
  show G (s₁.setTop (mkF m 54 #[.val (.int p1), .val (.int p2), .val (.int p3), .val (.int p4), .val (.long wl), .second, .val (.int kv), .val (.double D2), .second, .val (.double D3), .second, .val (.double D5), .second, .val (.double D7), .second, .unset, .unset, .unset, .unset, .unset] []))
  obtain ⟨T8, h8, X8, e8, E8, A8, D8, -, st8⟩ := newO X0 hx hZ hown (hw _ (List.mem_of_getElem? (i := 6) rfl)) (hw _ (List.mem_of_getElem? (i := 7) rfl)) (hw _ (List.mem_of_getElem? (i := 8) rfl)) e0 (g := (mkF m 54 #[.val (.int p1), .val (.int p2), .val (.int p3), .val (.int p4), .val (.long wl), .second, .val (.int kv), .val (.double D2), .second, .val (.double D3), .second, .val (.double D5), .second, .val (.double D7), .second, .unset, .unset, .unset, .unset, .unset] [])) rfl (hb hby at_54) (by decide) (by decide)
  obtain ⟨b8, ga8⟩ : ∃ z, z = h0.size := ⟨_, rfl⟩
  have g_b8 : n0 ≤ b8 := Nat.le_trans Z0 (Nat.le_of_eq ga8.symm)
  rw [← ga8] at A8 D8 st8
  have Zs8 : n0 ≤ h8.size := Nat.le_trans Z0 E8.1
  have F8_warmUpNanos : Fld Z h8 b8 "com/example/clepsydra/clepsydra/WarmingCurve" "warmUpNanos" "J" (.long (0 : Int64)) := D8 (Or.inr (hw _ (List.mem_of_getElem? (i := 17) rfl))) (ty := .long) (by decide)
  have F8_coldFactor : Fld Z h8 b8 "com/example/clepsydra/clepsydra/WarmingCurve" "coldFactor" "I" (.int (0 : Int32)) := D8 (Or.inr (hw _ (List.mem_of_getElem? (i := 19) rfl))) (ty := .int) (by decide)
  have F8_threshold : Fld Z h8 b8 "com/example/clepsydra/clepsydra/WarmingCurve" "threshold" "D" (.double (0 : UInt64)) := D8 (Or.inr (hw _ (List.mem_of_getElem? (i := 22) rfl))) (ty := .double) (by decide)
  have F8_maxPermits : Fld Z h8 b8 "com/example/clepsydra/clepsydra/WarmingCurve" "maxPermits" "D" (.double (0 : UInt64)) := D8 (Or.inr (hw _ (List.mem_of_getElem? (i := 25) rfl))) (ty := .double) (by decide)
  have F8_coldNanos : Fld Z h8 b8 "com/example/clepsydra/clepsydra/WarmingCurve" "coldNanos" "D" (.double (0 : UInt64)) := D8 (Or.inr (hw _ (List.mem_of_getElem? (i := 27) rfl))) (ty := .double) (by decide)
  refine go st8 ?_
  show G (T8.setTop (mkF m 57 #[.val (.int p1), .val (.int p2), .val (.int p3), .val (.int p4), .val (.long wl), .second, .val (.int kv), .val (.double D2), .second, .val (.double D3), .second, .val (.double D5), .second, .val (.double D7), .second, .unset, .unset, .unset, .unset, .unset] [(.ref b8)]))
  refine go (fun _ k => XS.dup X8.here hx rfl (hb hby at_57) rfl rfl k) ?_
  show G (T8.setTop (mkF m 58 #[.val (.int p1), .val (.int p2), .val (.int p3), .val (.int p4), .val (.long wl), .second, .val (.int kv), .val (.double D2), .second, .val (.double D3), .second, .val (.double D5), .second, .val (.double D7), .second, .unset, .unset, .unset, .unset, .unset] [(.ref b8), (.ref b8)]))
  refine go (fun _ k => XS.dload X8.here hx rfl (hb hby at_58) rfl k) ?_
  show G (T8.setTop (mkF m 60 #[.val (.int p1), .val (.int p2), .val (.int p3), .val (.int p4), .val (.long wl), .second, .val (.int kv), .val (.double D2), .second, .val (.double D3), .second, .val (.double D5), .second, .val (.double D7), .second, .unset, .unset, .unset, .unset, .unset] [(.double D2), (.ref b8), (.ref b8)]))
  refine go (fun _ k => XS.lload X8.here hx rfl (hb hby at_60) rfl k) ?_
  show G (T8.setTop (mkF m 62 #[.val (.int p1), .val (.int p2), .val (.int p3), .val (.int p4), .val (.long wl), .second, .val (.int kv), .val (.double D2), .second, .val (.double D3), .second, .val (.double D5), .second, .val (.double D7), .second, .unset, .unset, .unset, .unset, .unset] [(.long wl), (.double D2), (.ref b8), (.ref b8)]))
  refine go (fun _ k => XS.iconst X8.here hx rfl (hb hby at_62) k) ?_
  show G (T8.setTop (mkF m 63 #[.val (.int p1), .val (.int p2), .val (.int p3), .val (.int p4), .val (.long wl), .second, .val (.int kv), .val (.double D2), .second, .val (.double D3), .second, .val (.double D5), .second, .val (.double D7), .second, .unset, .unset, .unset, .unset, .unset] [(.int (3 : Int32)), (.long wl), (.double D2), (.ref b8), (.ref b8)]))
  obtain ⟨_, _, ⟨T9, L9, k9, n9⟩, -, X9, ⟨Lc9, hQ9, l9, y9, z9⟩, st9⟩ := X8.specialBack hx (y := (⟨"com/example/clepsydra/clepsydra/WarmingCurve", "<init>", "(DJI)V"⟩ : MethodName)) rfl hown (mvT hZ (hw _ (List.mem_of_getElem? (i := 9) rfl))) (mvT hZ (hw _ (List.mem_of_getElem? (i := 10) rfl))) (mvT hZ (hw _ (List.mem_of_getElem? (i := 11) rfl))) (by decide) (backOf (W := 1) (rm1c3 l Z a0 hw [] b8 D2 wl Wv (Kv * 1000000000) (Wv * Kv) h8 n0 Zs8 F8_warmUpNanos F8_coldFactor F8_threshold F8_maxPermits F8_coldNanos A8 g_b8 Q2 eW (Int.mul_assoc _ _ _).symm bW0.1 (by omega) (by rw [← Int.mul_assoc]; omega) (by rw [← Int.mul_assoc]; omega) bWK.1 (by omega)) hZ (hw _ (List.mem_of_getElem? (i := 11) rfl)) (hw _ (List.mem_of_getElem? (i := 8) rfl)) (by decide) (by decide)) (g := (mkF m 63 #[.val (.int p1), .val (.int p2), .val (.int p3), .val (.int p4), .val (.long wl), .second, .val (.int kv), .val (.double D2), .second, .val (.double D3), .second, .val (.double D5), .second, .val (.double D7), .second, .unset, .unset, .unset, .unset, .unset] [(.int (3 : Int32)), (.long wl), (.double D2), (.ref b8), (.ref b8)])) rfl (by rw [hml]; rfl) (Steps.refl _) (a := b8) (argsL := [(.double D2), (.long wl), (.int (3 : Int32))]) (rest := [(.ref b8)]) (lenOf pd_0_0 rfl) rfl (by show 2 * 0 + _ ≤ _; exact Nat.le_of_eq rfl) (hb hby at_63) (fun _ _ => ⟨rfl, e8, (by decide : 1 + 0 ≤ _), (by decide : 5 + 0 ≤ _)⟩)
  dsimp only [Pt.U, Pt.locs, Pt.cells, Pt.slots] at X9 l9 y9 z9 st9 hQ9
  subst l9 y9 z9
  obtain ⟨M9, rfl, N9q, Kc9, c9_0, c9_1, c9_2⟩ := hQ9
  have f10 := A8.keep Kc9
  have Zs9 : n0 ≤ T9.heap.size := Nat.le_trans Zs8 Kc9.1
  have N9 := Fr.app N0 N9q
  refine go (fun _ k => st9.trans k) ?_
  show G (T9.setTop (mkF m 66 #[.val (.int p1), .val (.int p2), .val (.int p3), .val (.int p4), .val (.long wl), .second, .val (.int kv), .val (.double D2), .second, .val (.double D3), .second, .val (.double D5), .second, .val (.double D7), .second, .unset, .unset, .unset, .unset, .unset] [(.ref b8)]))
  refine go (fun _ k => XS.astore X9.here hx rfl (hb hby at_66) rfl rfl (l' := #[.val (.int p1), .val (.int p2), .val (.int p3), .val (.int p4), .val (.long wl), .second, .val (.int kv), .val (.double D2), .second, .val (.double D3), .second, .val (.double D5), .second, .val (.double D7), .second, .val (.ref b8), .unset, .unset, .unset, .unset]) rfl k) ?_
  show G (T9.setTop (mkF m 68 #[.val (.int p1), .val (.int p2), .val (.int p3), .val (.int p4), .val (.long wl), .second, .val (.int kv), .val (.double D2), .second, .val (.double D3), .second, .val (.double D5), .second, .val (.double D7), .second, .val (.ref b8), .unset, .unset, .unset, .unset] []))
  refine go (fun _ k => XS.dload X9.here hx rfl (hb hby at_68) rfl k) ?_
  show G (T9.setTop (mkF m 70 #[.val (.int p1), .val (.int p2), .val (.int p3), .val (.int p4), .val (.long wl), .second, .val (.int kv), .val (.double D2), .second, .val (.double D3), .second, .val (.double D5), .second, .val (.double D7), .second, .val (.ref b8), .unset, .unset, .unset, .unset] [(.double D5)]))
  refine go (fun _ k => XS.dload X9.here hx rfl (hb hby at_70) rfl k) ?_
  show G (T9.setTop (mkF m 72 #[.val (.int p1), .val (.int p2), .val (.int p3), .val (.int p4), .val (.long wl), .second, .val (.int kv), .val (.double D2), .second, .val (.double D3), .second, .val (.double D5), .second, .val (.double D7), .second, .val (.ref b8), .unset, .unset, .unset, .unset] [(.double D3), (.double D5)]))
  refine go (fun _ k => XS.dcmpS X9.here hx rfl (hb hby at_72) rfl (v := (cmpValue (FP.dcmp D5 D3) .l)) rfl k) ?_
  show G (T9.setTop (mkF m 73 #[.val (.int p1), .val (.int p2), .val (.int p3), .val (.int p4), .val (.long wl), .second, .val (.int kv), .val (.double D2), .second, .val (.double D3), .second, .val (.double D5), .second, .val (.double D7), .second, .val (.ref b8), .unset, .unset, .unset, .unset] [(.int (cmpValue (FP.dcmp D5 D3) .l))]))
  by_cases hc73_11 : (cmpValue (FP.dcmp D5 D3) .l) < (0 : Int32)
  · refine go (fun _ k => XS.ifYes X9.here hx rfl (pc0 := 73) (pc' := 83) rfl (hb hby at_73) rfl ((if0 _ _).trans (tlt hc73_11).1) (by decide) (by decide) k) ?_
    show G (T9.setTop (mkF m 83 #[.val (.int p1), .val (.int p2), .val (.int p3), .val (.int p4), .val (.long wl), .second, .val (.int kv), .val (.double D2), .second, .val (.double D3), .second, .val (.double D5), .second, .val (.double D7), .second, .val (.ref b8), .unset, .unset, .unset, .unset] []))
    refine go (fun _ k => XS.dload X9.here hx rfl (hb hby at_83) rfl k) ?_
    show G (T9.setTop (mkF m 85 #[.val (.int p1), .val (.int p2), .val (.int p3), .val (.int p4), .val (.long wl), .second, .val (.int kv), .val (.double D2), .second, .val (.double D3), .second, .val (.double D5), .second, .val (.double D7), .second, .val (.ref b8), .unset, .unset, .unset, .unset] [(.double D5)]))
    refine go (fun _ k => XS.iload X9.here hx rfl (hb hby at_85) rfl k) ?_
    show G (T9.setTop (mkF m 87 #[.val (.int p1), .val (.int p2), .val (.int p3), .val (.int p4), .val (.long wl), .second, .val (.int kv), .val (.double D2), .second, .val (.double D3), .second, .val (.double D5), .second, .val (.double D7), .second, .val (.ref b8), .unset, .unset, .unset, .unset] [(.int kv), (.double D5)]))
    obtain ⟨D12, hD12⟩ : ∃ z, FP.i2d kv = z := ⟨_, rfl⟩
    have Q12 : OwnQ (Kv * 1024) D12 := hD12 ▸ (own_q_i2d kv).cast (by rw [eK])
    refine go (fun _ k => XS.i2dS X9.here hx rfl (hb hby at_87) rfl (v := D12) hD12 k) ?_
    show G (T9.setTop (mkF m 88 #[.val (.int p1), .val (.int p2), .val (.int p3), .val (.int p4), .val (.long wl), .second, .val (.int kv), .val (.double D2), .second, .val (.double D3), .second, .val (.double D5), .second, .val (.double D7), .second, .val (.ref b8), .unset, .unset, .unset, .unset] [(.double D12), (.double D5)]))
    refine go (fun _ k => XS.dload X9.here hx rfl (hb hby at_88) rfl k) ?_
    show G (T9.setTop (mkF m 90 #[.val (.int p1), .val (.int p2), .val (.int p3), .val (.int p4), .val (.long wl), .second, .val (.int kv), .val (.double D2), .second, .val (.double D3), .second, .val (.double D5), .second, .val (.double D7), .second, .val (.ref b8), .unset, .unset, .unset, .unset] [(.double D7), (.double D12), (.double D5)]))
    obtain ⟨D13, hD13⟩ : ∃ z, FP.dmul D12 D7 = z := ⟨_, rfl⟩
    have Q13 : OwnQ (Jv * 512 * Kv) D13 := hD13 ▸ (own_q_mul Q12 Q7 (by ac_rfl) (Or.inl (by omega)))
    refine go (fun _ k => XS.dmulS X9.here hx rfl (hb hby at_90) rfl (v := D13) (by rw [hD13]; exact Q13.nn) hD13 k) ?_
    show G (T9.setTop (mkF m 91 #[.val (.int p1), .val (.int p2), .val (.int p3), .val (.int p4), .val (.long wl), .second, .val (.int kv), .val (.double D2), .second, .val (.double D3), .second, .val (.double D5), .second, .val (.double D7), .second, .val (.ref b8), .unset, .unset, .unset, .unset] [(.double D13), (.double D5)]))
    obtain ⟨D14, hD14⟩ : ∃ z, FP.dadd D5 D13 = z := ⟨_, rfl⟩
    have Q14 : OwnQ (Iv * 256 + Jv * 512 * Kv) D14 := hD14 ▸ (own_q_add Q5 Q13 (rfl) (Or.inl (by omega)))
    refine go (fun _ k => XS.daddS X9.here hx rfl (hb hby at_91) rfl (v := D14) (by rw [hD14]; exact Q14.nn) hD14 k) ?_
    show G (T9.setTop (mkF m 92 #[.val (.int p1), .val (.int p2), .val (.int p3), .val (.int p4), .val (.long wl), .second, .val (.int kv), .val (.double D2), .second, .val (.double D3), .second, .val (.double D5), .second, .val (.double D7), .second, .val (.ref b8), .unset, .unset, .unset, .unset] [(.double D14)]))
    refine go (fun _ k => XS.dstore X9.here hx rfl (hb hby at_92) rfl (l' := #[.val (.int p1), .val (.int p2), .val (.int p3), .val (.int p4), .val (.long wl), .second, .val (.int kv), .val (.double D2), .second, .val (.double D3), .second, .val (.double D5), .second, .val (.double D7), .second, .val (.ref b8), .unset, .unset, .val (.double D14), .second]) rfl k) ?_
    show G (T9.setTop (mkF m 94 #[.val (.int p1), .val (.int p2), .val (.int p3), .val (.int p4), .val (.long wl), .second, .val (.int kv), .val (.double D2), .second, .val (.double D3), .second, .val (.double D5), .second, .val (.double D7), .second, .val (.ref b8), .unset, .unset, .val (.double D14), .second] []))
    refine go (fun _ k => XS.dload X9.here hx rfl (hb hby at_94) rfl k) ?_
    show G (T9.setTop (mkF m 96 #[.val (.int p1), .val (.int p2), .val (.int p3), .val (.int p4), .val (.long wl), .second, .val (.int kv), .val (.double D2), .second, .val (.double D3), .second, .val (.double D5), .second, .val (.double D7), .second, .val (.ref b8), .unset, .unset, .val (.double D14), .second] [(.double D14)]))
    refine go (fun _ k => XS.dload X9.here hx rfl (hb hby at_96) rfl k) ?_
    show G (T9.setTop (mkF m 98 #[.val (.int p1), .val (.int p2), .val (.int p3), .val (.int p4), .val (.long wl), .second, .val (.int kv), .val (.double D2), .second, .val (.double D3), .second, .val (.double D5), .second, .val (.double D7), .second, .val (.ref b8), .unset, .unset, .val (.double D14), .second] [(.double D3), (.double D14)]))
    refine go (fun _ k => XS.dcmpS X9.here hx rfl (hb hby at_98) rfl (v := (cmpValue (FP.dcmp D14 D3) .l)) rfl k) ?_
    show G (T9.setTop (mkF m 99 #[.val (.int p1), .val (.int p2), .val (.int p3), .val (.int p4), .val (.long wl), .second, .val (.int kv), .val (.double D2), .second, .val (.double D3), .second, .val (.double D5), .second, .val (.double D7), .second, .val (.ref b8), .unset, .unset, .val (.double D14), .second] [(.int (cmpValue (FP.dcmp D14 D3) .l))]))
    by_cases hc99_15 : (0 : Int32) < (cmpValue (FP.dcmp D14 D3) .l)
    · refine go (fun _ k => XS.ifNo X9.here hx rfl (hb hby at_99) rfl ((if0 _ _).trans (tlt hc99_15).2.2.2) k) ?_
      show G (T9.setTop (mkF m 102 #[.val (.int p1), .val (.int p2), .val (.int p3), .val (.int p4), .val (.long wl), .second, .val (.int kv), .val (.double D2), .second, .val (.double D3), .second, .val (.double D5), .second, .val (.double D7), .second, .val (.ref b8), .unset, .unset, .val (.double D14), .second] []))
      refine go (fun _ k => XS.dload X9.here hx rfl (hb hby at_102) rfl k) ?_
      show G (T9.setTop (mkF m 104 #[.val (.int p1), .val (.int p2), .val (.int p3), .val (.int p4), .val (.long wl), .second, .val (.int kv), .val (.double D2), .second, .val (.double D3), .second, .val (.double D5), .second, .val (.double D7), .second, .val (.ref b8), .unset, .unset, .val (.double D14), .second] [(.double D3)]))
      refine go (fun _ k => XS.dstore X9.here hx rfl (hb hby at_104) rfl (l' := #[.val (.int p1), .val (.int p2), .val (.int p3), .val (.int p4), .val (.long wl), .second, .val (.int kv), .val (.double D2), .second, .val (.double D3), .second, .val (.double D5), .second, .val (.double D7), .second, .val (.ref b8), .val (.double D3), .second, .val (.double D14), .second]) rfl k) ?_
      show G (T9.setTop (mkF m 106 #[.val (.int p1), .val (.int p2), .val (.int p3), .val (.int p4), .val (.long wl), .second, .val (.int kv), .val (.double D2), .second, .val (.double D3), .second, .val (.double D5), .second, .val (.double D7), .second, .val (.ref b8), .val (.double D3), .second, .val (.double D14), .second] []))
      refine go (fun _ k => XS.goto X9.here hx rfl (pc0 := 106) (pc' := 113) rfl (hb hby at_106) (by decide) (by decide) k) ?_
      show G (T9.setTop (mkF m 113 #[.val (.int p1), .val (.int p2), .val (.int p3), .val (.int p4), .val (.long wl), .second, .val (.int kv), .val (.double D2), .second, .val (.double D3), .second, .val (.double D5), .second, .val (.double D7), .second, .val (.ref b8), .val (.double D3), .second, .val (.double D14), .second] []))
      refine go (fun _ k => XS.aload X9.here hx rfl (hb hby at_113) rfl rfl k) ?_
      show G (T9.setTop (mkF m 115 #[.val (.int p1), .val (.int p2), .val (.int p3), .val (.int p4), .val (.long wl), .second, .val (.int kv), .val (.double D2), .second, .val (.double D3), .second, .val (.double D5), .second, .val (.double D7), .second, .val (.ref b8), .val (.double D3), .second, .val (.double D14), .second] [(.ref b8)]))
      refine go (fun _ k => XS.dload X9.here hx rfl (hb hby at_115) rfl k) ?_
      show G (T9.setTop (mkF m 117 #[.val (.int p1), .val (.int p2), .val (.int p3), .val (.int p4), .val (.long wl), .second, .val (.int kv), .val (.double D2), .second, .val (.double D3), .second, .val (.double D5), .second, .val (.double D7), .second, .val (.ref b8), .val (.double D3), .second, .val (.double D14), .second] [(.double D5), (.ref b8)]))
      refine go (fun _ k => XS.dload X9.here hx rfl (hb hby at_117) rfl k) ?_
      show G (T9.setTop (mkF m 119 #[.val (.int p1), .val (.int p2), .val (.int p3), .val (.int p4), .val (.long wl), .second, .val (.int kv), .val (.double D2), .second, .val (.double D3), .second, .val (.double D5), .second, .val (.double D7), .second, .val (.ref b8), .val (.double D3), .second, .val (.double D14), .second] [(.double D7), (.double D5), (.ref b8)]))
      obtain ⟨cq16, kq16, qa16, qb16, qc16⟩ := isOf hZ rfl f10
      obtain ⟨_, _, ⟨T16, L16, k16, n16⟩, -, X16, ⟨Lc16, hQ16, l16, y16, z16⟩, st16⟩ := X9.virtualBack hx (y := (⟨"com/example/clepsydra/clepsydra/WarmingCurve", "filled", "(DD)D"⟩ : MethodName)) (z := (⟨"com/example/clepsydra/clepsydra/WarmingCurve", "filled", "(DD)D"⟩ : MethodName)) hown (mvT hZ (hw _ (List.mem_of_getElem? (i := 28) rfl))) (mvT hZ (hw _ (List.mem_of_getElem? (i := 29) rfl))) (notFace_of_selects (args := #[]) (mvT hZ (hw _ (List.mem_of_getElem? (i := 31) rfl)))) (mvT hZ (hw _ (List.mem_of_getElem? (i := 31) rfl))) (mvT hZ (hw _ (List.mem_of_getElem? (i := 30) rfl))) (by decide) (backOf (W := 0) (rm3 l Z a0 hw [] b8 D5 D7 M9 wl (Iv * 256) (Jv * 512) Wv Kv T9.heap n0 Zs9 c9_0 c9_1 c9_2 Q5 Q7 eW (by omega) (by omega) bJWK (by omega)) hZ (hw _ (List.mem_of_getElem? (i := 32) rfl)) (hw _ (List.mem_of_getElem? (i := 8) rfl)) (by decide) (by decide)) qa16 qc16 (g := (mkF m 119 #[.val (.int p1), .val (.int p2), .val (.int p3), .val (.int p4), .val (.long wl), .second, .val (.int kv), .val (.double D2), .second, .val (.double D3), .second, .val (.double D5), .second, .val (.double D7), .second, .val (.ref b8), .val (.double D3), .second, .val (.double D14), .second] [(.double D7), (.double D5), (.ref b8)])) rfl (by rw [hml]; rfl) (Steps.refl _) (argsL := [(.double D5), (.double D7)]) (rest := []) (lenOf pd_0_1 rfl) rfl (by show 2 * 0 + _ ≤ _; exact Nat.le_of_eq rfl) (hb hby at_119) (fun _ _ => ⟨rfl, rfl, (by decide : 1 + 0 ≤ _), (by decide : 5 + 0 ≤ _)⟩)
      dsimp only [Pt.U, Pt.locs, Pt.cells, Pt.slots] at X16 l16 y16 z16 st16 hQ16
      subst l16 y16 z16
      obtain ⟨Dg16, rfl, N16q, Kc16, c16_0⟩ := hQ16
      have f17 := f10.keep Kc16
      have f18 := c9_0.keep Kc16 nin0
      have f19 := c9_1.keep Kc16 nin0
      have Zs16 : n0 ≤ T16.heap.size := Nat.le_trans Zs9 Kc16.1
      have N16 := Fr.app N9 N16q
      refine go (fun _ k => st16.trans k) ?_
      show G (T16.setTop (mkF m 122 #[.val (.int p1), .val (.int p2), .val (.int p3), .val (.int p4), .val (.long wl), .second, .val (.int kv), .val (.double D2), .second, .val (.double D3), .second, .val (.double D5), .second, .val (.double D7), .second, .val (.ref b8), .val (.double D3), .second, .val (.double D14), .second] [(.double Dg16)]))
      refine go (fun _ k => XS.dstore X16.here hx rfl (hb hby at_122) rfl (l' := #[.val (.int p1), .val (.int p2), .val (.int p3), .val (.int p4), .val (.long wl), .second, .val (.int kv), .val (.double D2), .second, .val (.double D3), .second, .val (.double D5), .second, .val (.double D7), .second, .val (.ref b8), .val (.double D3), .second, .val (.double Dg16), .second]) rfl k) ?_
      show G (T16.setTop (mkF m 124 #[.val (.int p1), .val (.int p2), .val (.int p3), .val (.int p4), .val (.long wl), .second, .val (.int kv), .val (.double D2), .second, .val (.double D3), .second, .val (.double D5), .second, .val (.double D7), .second, .val (.ref b8), .val (.double D3), .second, .val (.double Dg16), .second] []))
      refine go (fun _ k => XS.dload X16.here hx rfl (hb hby at_124) rfl k) ?_
      show G (T16.setTop (mkF m 126 #[.val (.int p1), .val (.int p2), .val (.int p3), .val (.int p4), .val (.long wl), .second, .val (.int kv), .val (.double D2), .second, .val (.double D3), .second, .val (.double D5), .second, .val (.double D7), .second, .val (.ref b8), .val (.double D3), .second, .val (.double Dg16), .second] [(.double Dg16)]))
      refine go (fun _ k => XS.dload X16.here hx rfl (hb hby at_126) rfl k) ?_
      show G (T16.setTop (mkF m 128 #[.val (.int p1), .val (.int p2), .val (.int p3), .val (.int p4), .val (.long wl), .second, .val (.int kv), .val (.double D2), .second, .val (.double D3), .second, .val (.double D5), .second, .val (.double D7), .second, .val (.ref b8), .val (.double D3), .second, .val (.double Dg16), .second] [(.double D3), (.double Dg16)]))
      refine go (fun _ k => XS.dcmpS X16.here hx rfl (hb hby at_128) rfl (v := (cmpValue (FP.dcmp Dg16 D3) .l)) rfl k) ?_
      show G (T16.setTop (mkF m 129 #[.val (.int p1), .val (.int p2), .val (.int p3), .val (.int p4), .val (.long wl), .second, .val (.int kv), .val (.double D2), .second, .val (.double D3), .second, .val (.double D5), .second, .val (.double D7), .second, .val (.ref b8), .val (.double D3), .second, .val (.double Dg16), .second] [(.int (cmpValue (FP.dcmp Dg16 D3) .l))]))
      have hc20 : (cmpValue (FP.dcmp Dg16 D3) .l) = (0 : Int32) := (own_q_cmp c16_0 Q3 _).2.2.mpr (by rw [if_pos ((own_q_cmp Q5 Q3 _).1.mp hc73_11), if_pos ((own_q_cmp Q14 Q3 _).2.1.mp hc99_15)])
      refine go (fun _ k => XS.ifNo X16.here hx rfl (hb hby at_129) rfl ((if0 _ _).trans (teq hc20).2) k) ?_
      show G (T16.setTop (mkF m 132 #[.val (.int p1), .val (.int p2), .val (.int p3), .val (.int p4), .val (.long wl), .second, .val (.int kv), .val (.double D2), .second, .val (.double D3), .second, .val (.double D5), .second, .val (.double D7), .second, .val (.ref b8), .val (.double D3), .second, .val (.double Dg16), .second] []))
      refine go (fun _ k => XS.aload X16.here hx rfl (hb hby at_132) rfl rfl k) ?_
      show G (T16.setTop (mkF m 134 #[.val (.int p1), .val (.int p2), .val (.int p3), .val (.int p4), .val (.long wl), .second, .val (.int kv), .val (.double D2), .second, .val (.double D3), .second, .val (.double D5), .second, .val (.double D7), .second, .val (.ref b8), .val (.double D3), .second, .val (.double Dg16), .second] [(.ref b8)]))
      obtain ⟨cq21, kq21, qa21, qb21, qc21⟩ := isOf hZ rfl f17
      obtain ⟨_, _, ⟨T21, L21, k21, n21⟩, -, X21, ⟨Lc21, hQ21, l21, y21, z21⟩, st21⟩ := X16.virtualBack hx (y := (⟨"com/example/clepsydra/clepsydra/WarmingCurve", "maxPermits", "()D"⟩ : MethodName)) (z := (⟨"com/example/clepsydra/clepsydra/WarmingCurve", "maxPermits", "()D"⟩ : MethodName)) hown (mvT hZ (hw _ (List.mem_of_getElem? (i := 33) rfl))) (mvT hZ (hw _ (List.mem_of_getElem? (i := 34) rfl))) (notFace_of_selects (args := #[]) (mvT hZ (hw _ (List.mem_of_getElem? (i := 36) rfl)))) (mvT hZ (hw _ (List.mem_of_getElem? (i := 36) rfl))) (mvT hZ (hw _ (List.mem_of_getElem? (i := 35) rfl))) (by decide) (backOf (W := 0) (rm4 l Z a0 hw [] b8 M9 T16.heap n0 Zs16 f19) hZ (hw _ (List.mem_of_getElem? (i := 37) rfl)) (hw _ (List.mem_of_getElem? (i := 8) rfl)) (by decide) (by decide)) qa21 qc21 (g := (mkF m 134 #[.val (.int p1), .val (.int p2), .val (.int p3), .val (.int p4), .val (.long wl), .second, .val (.int kv), .val (.double D2), .second, .val (.double D3), .second, .val (.double D5), .second, .val (.double D7), .second, .val (.ref b8), .val (.double D3), .second, .val (.double Dg16), .second] [(.ref b8)])) rfl (by rw [hml]; rfl) (Steps.refl _) (argsL := []) (rest := []) (lenOf pd_0_2 rfl) rfl (by show 2 * 0 + _ ≤ _; exact Nat.le_of_eq rfl) (hb hby at_134) (fun _ _ => ⟨rfl, rfl, (by decide : 1 + 0 ≤ _), (by decide : 5 + 0 ≤ _)⟩)
      dsimp only [Pt.U, Pt.locs, Pt.cells, Pt.slots] at X21 l21 y21 z21 st21 hQ21
      subst l21 y21 z21
      obtain ⟨rfl, N21q, e21⟩ := hQ21
      have N21 := Fr.app N16 N21q
      refine go (fun _ k => st21.trans k) ?_
      show G (T21.setTop (mkF m 137 #[.val (.int p1), .val (.int p2), .val (.int p3), .val (.int p4), .val (.long wl), .second, .val (.int kv), .val (.double D2), .second, .val (.double D3), .second, .val (.double D5), .second, .val (.double D7), .second, .val (.ref b8), .val (.double D3), .second, .val (.double Dg16), .second] [(.double M9)]))
      refine go (fun _ k => XS.dload X21.here hx rfl (hb hby at_137) rfl k) ?_
      show G (T21.setTop (mkF m 139 #[.val (.int p1), .val (.int p2), .val (.int p3), .val (.int p4), .val (.long wl), .second, .val (.int kv), .val (.double D2), .second, .val (.double D3), .second, .val (.double D5), .second, .val (.double D7), .second, .val (.ref b8), .val (.double D3), .second, .val (.double Dg16), .second] [(.double D3), (.double M9)]))
      refine go (fun _ k => XS.dcmpS X21.here hx rfl (hb hby at_139) rfl (v := (cmpValue (FP.dcmp M9 D3) .l)) rfl k) ?_
      show G (T21.setTop (mkF m 140 #[.val (.int p1), .val (.int p2), .val (.int p3), .val (.int p4), .val (.long wl), .second, .val (.int kv), .val (.double D2), .second, .val (.double D3), .second, .val (.double D5), .second, .val (.double D7), .second, .val (.ref b8), .val (.double D3), .second, .val (.double Dg16), .second] [(.int (cmpValue (FP.dcmp M9 D3) .l))]))
      have hc22 : (cmpValue (FP.dcmp M9 D3) .l) = (0 : Int32) := (own_q_cmp c9_2 Q3 _).2.2.mpr rfl
      refine go (fun _ k => XS.ifNo X21.here hx rfl (hb hby at_140) rfl ((if0 _ _).trans (teq hc22).2) k) ?_
      show G (T21.setTop (mkF m 143 #[.val (.int p1), .val (.int p2), .val (.int p3), .val (.int p4), .val (.long wl), .second, .val (.int kv), .val (.double D2), .second, .val (.double D3), .second, .val (.double D5), .second, .val (.double D7), .second, .val (.ref b8), .val (.double D3), .second, .val (.double Dg16), .second] []))
      refine go (fun _ k => XS.iconst X21.here hx rfl (hb hby at_143) k) ?_
      show G (T21.setTop (mkF m 144 #[.val (.int p1), .val (.int p2), .val (.int p3), .val (.int p4), .val (.long wl), .second, .val (.int kv), .val (.double D2), .second, .val (.double D3), .second, .val (.double D5), .second, .val (.double D7), .second, .val (.ref b8), .val (.double D3), .second, .val (.double Dg16), .second] [(.int (1 : Int32))]))
      refine go (fun _ k => XS.goto X21.here hx rfl (pc0 := 144) (pc' := 148) rfl (hb hby at_144) (by decide) (by decide) k) ?_
      show G (T21.setTop (mkF m 148 #[.val (.int p1), .val (.int p2), .val (.int p3), .val (.int p4), .val (.long wl), .second, .val (.int kv), .val (.double D2), .second, .val (.double D3), .second, .val (.double D5), .second, .val (.double D7), .second, .val (.ref b8), .val (.double D3), .second, .val (.double Dg16), .second] [(.int (1 : Int32))]))
      rw [hG]
      refine own_fin X21 Bd.notSynchronized (v := some (.int (1 : Int32))) (fun h => by rw [Bd.returns] at h; cases h) (fun fs hr => retOut X21 hx Bd.returns rfl (by simp [FieldType.isReference, Value.isRef]) (hb hby at_148) hr) ?_ (by decide) (by decide)
      show Q0 Z p1 p2 p3 p4 h0 n0 (some (.int (1 : Int32))) T21.heap _
      rw [e21]
      exact ⟨rfl, N21⟩
    · refine go (fun _ k => XS.ifYes X9.here hx rfl (pc0 := 99) (pc' := 109) rfl (hb hby at_99) rfl ((if0 _ _).trans (flt hc99_15).2.2.2) (by decide) (by decide) k) ?_
      show G (T9.setTop (mkF m 109 #[.val (.int p1), .val (.int p2), .val (.int p3), .val (.int p4), .val (.long wl), .second, .val (.int kv), .val (.double D2), .second, .val (.double D3), .second, .val (.double D5), .second, .val (.double D7), .second, .val (.ref b8), .unset, .unset, .val (.double D14), .second] []))
      refine go (fun _ k => XS.dload X9.here hx rfl (hb hby at_109) rfl k) ?_
      show G (T9.setTop (mkF m 111 #[.val (.int p1), .val (.int p2), .val (.int p3), .val (.int p4), .val (.long wl), .second, .val (.int kv), .val (.double D2), .second, .val (.double D3), .second, .val (.double D5), .second, .val (.double D7), .second, .val (.ref b8), .unset, .unset, .val (.double D14), .second] [(.double D14)]))
      refine go (fun _ k => XS.dstore X9.here hx rfl (hb hby at_111) rfl (l' := #[.val (.int p1), .val (.int p2), .val (.int p3), .val (.int p4), .val (.long wl), .second, .val (.int kv), .val (.double D2), .second, .val (.double D3), .second, .val (.double D5), .second, .val (.double D7), .second, .val (.ref b8), .val (.double D14), .second, .val (.double D14), .second]) rfl k) ?_
      show G (T9.setTop (mkF m 113 #[.val (.int p1), .val (.int p2), .val (.int p3), .val (.int p4), .val (.long wl), .second, .val (.int kv), .val (.double D2), .second, .val (.double D3), .second, .val (.double D5), .second, .val (.double D7), .second, .val (.ref b8), .val (.double D14), .second, .val (.double D14), .second] []))
      refine go (fun _ k => XS.aload X9.here hx rfl (hb hby at_113) rfl rfl k) ?_
      show G (T9.setTop (mkF m 115 #[.val (.int p1), .val (.int p2), .val (.int p3), .val (.int p4), .val (.long wl), .second, .val (.int kv), .val (.double D2), .second, .val (.double D3), .second, .val (.double D5), .second, .val (.double D7), .second, .val (.ref b8), .val (.double D14), .second, .val (.double D14), .second] [(.ref b8)]))
      refine go (fun _ k => XS.dload X9.here hx rfl (hb hby at_115) rfl k) ?_
      show G (T9.setTop (mkF m 117 #[.val (.int p1), .val (.int p2), .val (.int p3), .val (.int p4), .val (.long wl), .second, .val (.int kv), .val (.double D2), .second, .val (.double D3), .second, .val (.double D5), .second, .val (.double D7), .second, .val (.ref b8), .val (.double D14), .second, .val (.double D14), .second] [(.double D5), (.ref b8)]))
      refine go (fun _ k => XS.dload X9.here hx rfl (hb hby at_117) rfl k) ?_
      show G (T9.setTop (mkF m 119 #[.val (.int p1), .val (.int p2), .val (.int p3), .val (.int p4), .val (.long wl), .second, .val (.int kv), .val (.double D2), .second, .val (.double D3), .second, .val (.double D5), .second, .val (.double D7), .second, .val (.ref b8), .val (.double D14), .second, .val (.double D14), .second] [(.double D7), (.double D5), (.ref b8)]))
      obtain ⟨cq23, kq23, qa23, qb23, qc23⟩ := isOf hZ rfl f10
      obtain ⟨_, _, ⟨T23, L23, k23, n23⟩, -, X23, ⟨Lc23, hQ23, l23, y23, z23⟩, st23⟩ := X9.virtualBack hx (y := (⟨"com/example/clepsydra/clepsydra/WarmingCurve", "filled", "(DD)D"⟩ : MethodName)) (z := (⟨"com/example/clepsydra/clepsydra/WarmingCurve", "filled", "(DD)D"⟩ : MethodName)) hown (mvT hZ (hw _ (List.mem_of_getElem? (i := 28) rfl))) (mvT hZ (hw _ (List.mem_of_getElem? (i := 29) rfl))) (notFace_of_selects (args := #[]) (mvT hZ (hw _ (List.mem_of_getElem? (i := 31) rfl)))) (mvT hZ (hw _ (List.mem_of_getElem? (i := 31) rfl))) (mvT hZ (hw _ (List.mem_of_getElem? (i := 30) rfl))) (by decide) (backOf (W := 0) (rm3 l Z a0 hw [] b8 D5 D7 M9 wl (Iv * 256) (Jv * 512) Wv Kv T9.heap n0 Zs9 c9_0 c9_1 c9_2 Q5 Q7 eW (by omega) (by omega) bJWK (by omega)) hZ (hw _ (List.mem_of_getElem? (i := 32) rfl)) (hw _ (List.mem_of_getElem? (i := 8) rfl)) (by decide) (by decide)) qa23 qc23 (g := (mkF m 119 #[.val (.int p1), .val (.int p2), .val (.int p3), .val (.int p4), .val (.long wl), .second, .val (.int kv), .val (.double D2), .second, .val (.double D3), .second, .val (.double D5), .second, .val (.double D7), .second, .val (.ref b8), .val (.double D14), .second, .val (.double D14), .second] [(.double D7), (.double D5), (.ref b8)])) rfl (by rw [hml]; rfl) (Steps.refl _) (argsL := [(.double D5), (.double D7)]) (rest := []) (lenOf pd_0_1 rfl) rfl (by show 2 * 0 + _ ≤ _; exact Nat.le_of_eq rfl) (hb hby at_119) (fun _ _ => ⟨rfl, rfl, (by decide : 1 + 0 ≤ _), (by decide : 5 + 0 ≤ _)⟩)
      dsimp only [Pt.U, Pt.locs, Pt.cells, Pt.slots] at X23 l23 y23 z23 st23 hQ23
      subst l23 y23 z23
      obtain ⟨Dg23, rfl, N23q, Kc23, c23_0⟩ := hQ23
      have f24 := f10.keep Kc23
      have f25 := c9_0.keep Kc23 nin0
      have f26 := c9_1.keep Kc23 nin0
      have Zs23 : n0 ≤ T23.heap.size := Nat.le_trans Zs9 Kc23.1
      have N23 := Fr.app N9 N23q
      refine go (fun _ k => st23.trans k) ?_
      show G (T23.setTop (mkF m 122 #[.val (.int p1), .val (.int p2), .val (.int p3), .val (.int p4), .val (.long wl), .second, .val (.int kv), .val (.double D2), .second, .val (.double D3), .second, .val (.double D5), .second, .val (.double D7), .second, .val (.ref b8), .val (.double D14), .second, .val (.double D14), .second] [(.double Dg23)]))
      refine go (fun _ k => XS.dstore X23.here hx rfl (hb hby at_122) rfl (l' := #[.val (.int p1), .val (.int p2), .val (.int p3), .val (.int p4), .val (.long wl), .second, .val (.int kv), .val (.double D2), .second, .val (.double D3), .second, .val (.double D5), .second, .val (.double D7), .second, .val (.ref b8), .val (.double D14), .second, .val (.double Dg23), .second]) rfl k) ?_
      show G (T23.setTop (mkF m 124 #[.val (.int p1), .val (.int p2), .val (.int p3), .val (.int p4), .val (.long wl), .second, .val (.int kv), .val (.double D2), .second, .val (.double D3), .second, .val (.double D5), .second, .val (.double D7), .second, .val (.ref b8), .val (.double D14), .second, .val (.double Dg23), .second] []))
      refine go (fun _ k => XS.dload X23.here hx rfl (hb hby at_124) rfl k) ?_
      show G (T23.setTop (mkF m 126 #[.val (.int p1), .val (.int p2), .val (.int p3), .val (.int p4), .val (.long wl), .second, .val (.int kv), .val (.double D2), .second, .val (.double D3), .second, .val (.double D5), .second, .val (.double D7), .second, .val (.ref b8), .val (.double D14), .second, .val (.double Dg23), .second] [(.double Dg23)]))
      refine go (fun _ k => XS.dload X23.here hx rfl (hb hby at_126) rfl k) ?_
      show G (T23.setTop (mkF m 128 #[.val (.int p1), .val (.int p2), .val (.int p3), .val (.int p4), .val (.long wl), .second, .val (.int kv), .val (.double D2), .second, .val (.double D3), .second, .val (.double D5), .second, .val (.double D7), .second, .val (.ref b8), .val (.double D14), .second, .val (.double Dg23), .second] [(.double D14), (.double Dg23)]))
      refine go (fun _ k => XS.dcmpS X23.here hx rfl (hb hby at_128) rfl (v := (cmpValue (FP.dcmp Dg23 D14) .l)) rfl k) ?_
      show G (T23.setTop (mkF m 129 #[.val (.int p1), .val (.int p2), .val (.int p3), .val (.int p4), .val (.long wl), .second, .val (.int kv), .val (.double D2), .second, .val (.double D3), .second, .val (.double D5), .second, .val (.double D7), .second, .val (.ref b8), .val (.double D14), .second, .val (.double Dg23), .second] [(.int (cmpValue (FP.dcmp Dg23 D14) .l))]))
      have hc27 : (cmpValue (FP.dcmp Dg23 D14) .l) = (0 : Int32) := (own_q_cmp c23_0 Q14 _).2.2.mpr (by rw [if_pos ((own_q_cmp Q5 Q3 _).1.mp hc73_11), if_neg (fun k => hc99_15 ((own_q_cmp Q14 Q3 _).2.1.mpr k))])
      refine go (fun _ k => XS.ifNo X23.here hx rfl (hb hby at_129) rfl ((if0 _ _).trans (teq hc27).2) k) ?_
      show G (T23.setTop (mkF m 132 #[.val (.int p1), .val (.int p2), .val (.int p3), .val (.int p4), .val (.long wl), .second, .val (.int kv), .val (.double D2), .second, .val (.double D3), .second, .val (.double D5), .second, .val (.double D7), .second, .val (.ref b8), .val (.double D14), .second, .val (.double Dg23), .second] []))
      refine go (fun _ k => XS.aload X23.here hx rfl (hb hby at_132) rfl rfl k) ?_
      show G (T23.setTop (mkF m 134 #[.val (.int p1), .val (.int p2), .val (.int p3), .val (.int p4), .val (.long wl), .second, .val (.int kv), .val (.double D2), .second, .val (.double D3), .second, .val (.double D5), .second, .val (.double D7), .second, .val (.ref b8), .val (.double D14), .second, .val (.double Dg23), .second] [(.ref b8)]))
      obtain ⟨cq28, kq28, qa28, qb28, qc28⟩ := isOf hZ rfl f24
      obtain ⟨_, _, ⟨T28, L28, k28, n28⟩, -, X28, ⟨Lc28, hQ28, l28, y28, z28⟩, st28⟩ := X23.virtualBack hx (y := (⟨"com/example/clepsydra/clepsydra/WarmingCurve", "maxPermits", "()D"⟩ : MethodName)) (z := (⟨"com/example/clepsydra/clepsydra/WarmingCurve", "maxPermits", "()D"⟩ : MethodName)) hown (mvT hZ (hw _ (List.mem_of_getElem? (i := 33) rfl))) (mvT hZ (hw _ (List.mem_of_getElem? (i := 34) rfl))) (notFace_of_selects (args := #[]) (mvT hZ (hw _ (List.mem_of_getElem? (i := 36) rfl)))) (mvT hZ (hw _ (List.mem_of_getElem? (i := 36) rfl))) (mvT hZ (hw _ (List.mem_of_getElem? (i := 35) rfl))) (by decide) (backOf (W := 0) (rm4 l Z a0 hw [] b8 M9 T23.heap n0 Zs23 f26) hZ (hw _ (List.mem_of_getElem? (i := 37) rfl)) (hw _ (List.mem_of_getElem? (i := 8) rfl)) (by decide) (by decide)) qa28 qc28 (g := (mkF m 134 #[.val (.int p1), .val (.int p2), .val (.int p3), .val (.int p4), .val (.long wl), .second, .val (.int kv), .val (.double D2), .second, .val (.double D3), .second, .val (.double D5), .second, .val (.double D7), .second, .val (.ref b8), .val (.double D14), .second, .val (.double Dg23), .second] [(.ref b8)])) rfl (by rw [hml]; rfl) (Steps.refl _) (argsL := []) (rest := []) (lenOf pd_0_2 rfl) rfl (by show 2 * 0 + _ ≤ _; exact Nat.le_of_eq rfl) (hb hby at_134) (fun _ _ => ⟨rfl, rfl, (by decide : 1 + 0 ≤ _), (by decide : 5 + 0 ≤ _)⟩)
      dsimp only [Pt.U, Pt.locs, Pt.cells, Pt.slots] at X28 l28 y28 z28 st28 hQ28
      subst l28 y28 z28
      obtain ⟨rfl, N28q, e28⟩ := hQ28
      have N28 := Fr.app N23 N28q
      refine go (fun _ k => st28.trans k) ?_
      show G (T28.setTop (mkF m 137 #[.val (.int p1), .val (.int p2), .val (.int p3), .val (.int p4), .val (.long wl), .second, .val (.int kv), .val (.double D2), .second, .val (.double D3), .second, .val (.double D5), .second, .val (.double D7), .second, .val (.ref b8), .val (.double D14), .second, .val (.double Dg23), .second] [(.double M9)]))
      refine go (fun _ k => XS.dload X28.here hx rfl (hb hby at_137) rfl k) ?_
      show G (T28.setTop (mkF m 139 #[.val (.int p1), .val (.int p2), .val (.int p3), .val (.int p4), .val (.long wl), .second, .val (.int kv), .val (.double D2), .second, .val (.double D3), .second, .val (.double D5), .second, .val (.double D7), .second, .val (.ref b8), .val (.double D14), .second, .val (.double Dg23), .second] [(.double D3), (.double M9)]))
      refine go (fun _ k => XS.dcmpS X28.here hx rfl (hb hby at_139) rfl (v := (cmpValue (FP.dcmp M9 D3) .l)) rfl k) ?_
      show G (T28.setTop (mkF m 140 #[.val (.int p1), .val (.int p2), .val (.int p3), .val (.int p4), .val (.long wl), .second, .val (.int kv), .val (.double D2), .second, .val (.double D3), .second, .val (.double D5), .second, .val (.double D7), .second, .val (.ref b8), .val (.double D14), .second, .val (.double Dg23), .second] [(.int (cmpValue (FP.dcmp M9 D3) .l))]))
      have hc29 : (cmpValue (FP.dcmp M9 D3) .l) = (0 : Int32) := (own_q_cmp c9_2 Q3 _).2.2.mpr rfl
      refine go (fun _ k => XS.ifNo X28.here hx rfl (hb hby at_140) rfl ((if0 _ _).trans (teq hc29).2) k) ?_
      show G (T28.setTop (mkF m 143 #[.val (.int p1), .val (.int p2), .val (.int p3), .val (.int p4), .val (.long wl), .second, .val (.int kv), .val (.double D2), .second, .val (.double D3), .second, .val (.double D5), .second, .val (.double D7), .second, .val (.ref b8), .val (.double D14), .second, .val (.double Dg23), .second] []))
      refine go (fun _ k => XS.iconst X28.here hx rfl (hb hby at_143) k) ?_
      show G (T28.setTop (mkF m 144 #[.val (.int p1), .val (.int p2), .val (.int p3), .val (.int p4), .val (.long wl), .second, .val (.int kv), .val (.double D2), .second, .val (.double D3), .second, .val (.double D5), .second, .val (.double D7), .second, .val (.ref b8), .val (.double D14), .second, .val (.double Dg23), .second] [(.int (1 : Int32))]))
      refine go (fun _ k => XS.goto X28.here hx rfl (pc0 := 144) (pc' := 148) rfl (hb hby at_144) (by decide) (by decide) k) ?_
      show G (T28.setTop (mkF m 148 #[.val (.int p1), .val (.int p2), .val (.int p3), .val (.int p4), .val (.long wl), .second, .val (.int kv), .val (.double D2), .second, .val (.double D3), .second, .val (.double D5), .second, .val (.double D7), .second, .val (.ref b8), .val (.double D14), .second, .val (.double Dg23), .second] [(.int (1 : Int32))]))
      rw [hG]
      refine own_fin X28 Bd.notSynchronized (v := some (.int (1 : Int32))) (fun h => by rw [Bd.returns] at h; cases h) (fun fs hr => retOut X28 hx Bd.returns rfl (by simp [FieldType.isReference, Value.isRef]) (hb hby at_148) hr) ?_ (by decide) (by decide)
      show Q0 Z p1 p2 p3 p4 h0 n0 (some (.int (1 : Int32))) T28.heap _
      rw [e28]
      exact ⟨rfl, N28⟩
  · refine go (fun _ k => XS.ifNo X9.here hx rfl (hb hby at_73) rfl ((if0 _ _).trans (flt hc73_11).1) k) ?_
    show G (T9.setTop (mkF m 76 #[.val (.int p1), .val (.int p2), .val (.int p3), .val (.int p4), .val (.long wl), .second, .val (.int kv), .val (.double D2), .second, .val (.double D3), .second, .val (.double D5), .second, .val (.double D7), .second, .val (.ref b8), .unset, .unset, .unset, .unset] []))
    refine go (fun _ k => XS.dload X9.here hx rfl (hb hby at_76) rfl k) ?_
    show G (T9.setTop (mkF m 78 #[.val (.int p1), .val (.int p2), .val (.int p3), .val (.int p4), .val (.long wl), .second, .val (.int kv), .val (.double D2), .second, .val (.double D3), .second, .val (.double D5), .second, .val (.double D7), .second, .val (.ref b8), .unset, .unset, .unset, .unset] [(.double D3)]))
    refine go (fun _ k => XS.dstore X9.here hx rfl (hb hby at_78) rfl (l' := #[.val (.int p1), .val (.int p2), .val (.int p3), .val (.int p4), .val (.long wl), .second, .val (.int kv), .val (.double D2), .second, .val (.double D3), .second, .val (.double D5), .second, .val (.double D7), .second, .val (.ref b8), .val (.double D3), .second, .unset, .unset]) rfl k) ?_
    show G (T9.setTop (mkF m 80 #[.val (.int p1), .val (.int p2), .val (.int p3), .val (.int p4), .val (.long wl), .second, .val (.int kv), .val (.double D2), .second, .val (.double D3), .second, .val (.double D5), .second, .val (.double D7), .second, .val (.ref b8), .val (.double D3), .second, .unset, .unset] []))
    refine go (fun _ k => XS.goto X9.here hx rfl (pc0 := 80) (pc' := 113) rfl (hb hby at_80) (by decide) (by decide) k) ?_
    show G (T9.setTop (mkF m 113 #[.val (.int p1), .val (.int p2), .val (.int p3), .val (.int p4), .val (.long wl), .second, .val (.int kv), .val (.double D2), .second, .val (.double D3), .second, .val (.double D5), .second, .val (.double D7), .second, .val (.ref b8), .val (.double D3), .second, .unset, .unset] []))
    refine go (fun _ k => XS.aload X9.here hx rfl (hb hby at_113) rfl rfl k) ?_
    show G (T9.setTop (mkF m 115 #[.val (.int p1), .val (.int p2), .val (.int p3), .val (.int p4), .val (.long wl), .second, .val (.int kv), .val (.double D2), .second, .val (.double D3), .second, .val (.double D5), .second, .val (.double D7), .second, .val (.ref b8), .val (.double D3), .second, .unset, .unset] [(.ref b8)]))
    refine go (fun _ k => XS.dload X9.here hx rfl (hb hby at_115) rfl k) ?_
    show G (T9.setTop (mkF m 117 #[.val (.int p1), .val (.int p2), .val (.int p3), .val (.int p4), .val (.long wl), .second, .val (.int kv), .val (.double D2), .second, .val (.double D3), .second, .val (.double D5), .second, .val (.double D7), .second, .val (.ref b8), .val (.double D3), .second, .unset, .unset] [(.double D5), (.ref b8)]))
    refine go (fun _ k => XS.dload X9.here hx rfl (hb hby at_117) rfl k) ?_
    show G (T9.setTop (mkF m 119 #[.val (.int p1), .val (.int p2), .val (.int p3), .val (.int p4), .val (.long wl), .second, .val (.int kv), .val (.double D2), .second, .val (.double D3), .second, .val (.double D5), .second, .val (.double D7), .second, .val (.ref b8), .val (.double D3), .second, .unset, .unset] [(.double D7), (.double D5), (.ref b8)]))
    obtain ⟨cq30, kq30, qa30, qb30, qc30⟩ := isOf hZ rfl f10
    obtain ⟨_, _, ⟨T30, L30, k30, n30⟩, -, X30, ⟨Lc30, hQ30, l30, y30, z30⟩, st30⟩ := X9.virtualBack hx (y := (⟨"com/example/clepsydra/clepsydra/WarmingCurve", "filled", "(DD)D"⟩ : MethodName)) (z := (⟨"com/example/clepsydra/clepsydra/WarmingCurve", "filled", "(DD)D"⟩ : MethodName)) hown (mvT hZ (hw _ (List.mem_of_getElem? (i := 28) rfl))) (mvT hZ (hw _ (List.mem_of_getElem? (i := 29) rfl))) (notFace_of_selects (args := #[]) (mvT hZ (hw _ (List.mem_of_getElem? (i := 31) rfl)))) (mvT hZ (hw _ (List.mem_of_getElem? (i := 31) rfl))) (mvT hZ (hw _ (List.mem_of_getElem? (i := 30) rfl))) (by decide) (backOf (W := 0) (rm3 l Z a0 hw [] b8 D5 D7 M9 wl (Iv * 256) (Jv * 512) Wv Kv T9.heap n0 Zs9 c9_0 c9_1 c9_2 Q5 Q7 eW (by omega) (by omega) bJWK (by omega)) hZ (hw _ (List.mem_of_getElem? (i := 32) rfl)) (hw _ (List.mem_of_getElem? (i := 8) rfl)) (by decide) (by decide)) qa30 qc30 (g := (mkF m 119 #[.val (.int p1), .val (.int p2), .val (.int p3), .val (.int p4), .val (.long wl), .second, .val (.int kv), .val (.double D2), .second, .val (.double D3), .second, .val (.double D5), .second, .val (.double D7), .second, .val (.ref b8), .val (.double D3), .second, .unset, .unset] [(.double D7), (.double D5), (.ref b8)])) rfl (by rw [hml]; rfl) (Steps.refl _) (argsL := [(.double D5), (.double D7)]) (rest := []) (lenOf pd_0_1 rfl) rfl (by show 2 * 0 + _ ≤ _; exact Nat.le_of_eq rfl) (hb hby at_119) (fun _ _ => ⟨rfl, rfl, (by decide : 1 + 0 ≤ _), (by decide : 5 + 0 ≤ _)⟩)
    dsimp only [Pt.U, Pt.locs, Pt.cells, Pt.slots] at X30 l30 y30 z30 st30 hQ30
    subst l30 y30 z30
    obtain ⟨Dg30, rfl, N30q, Kc30, c30_0⟩ := hQ30
    have f31 := f10.keep Kc30
    have f32 := c9_0.keep Kc30 nin0
    have f33 := c9_1.keep Kc30 nin0
    have Zs30 : n0 ≤ T30.heap.size := Nat.le_trans Zs9 Kc30.1
    have N30 := Fr.app N9 N30q
    refine go (fun _ k => st30.trans k) ?_
    show G (T30.setTop (mkF m 122 #[.val (.int p1), .val (.int p2), .val (.int p3), .val (.int p4), .val (.long wl), .second, .val (.int kv), .val (.double D2), .second, .val (.double D3), .second, .val (.double D5), .second, .val (.double D7), .second, .val (.ref b8), .val (.double D3), .second, .unset, .unset] [(.double Dg30)]))
    refine go (fun _ k => XS.dstore X30.here hx rfl (hb hby at_122) rfl (l' := #[.val (.int p1), .val (.int p2), .val (.int p3), .val (.int p4), .val (.long wl), .second, .val (.int kv), .val (.double D2), .second, .val (.double D3), .second, .val (.double D5), .second, .val (.double D7), .second, .val (.ref b8), .val (.double D3), .second, .val (.double Dg30), .second]) rfl k) ?_
    show G (T30.setTop (mkF m 124 #[.val (.int p1), .val (.int p2), .val (.int p3), .val (.int p4), .val (.long wl), .second, .val (.int kv), .val (.double D2), .second, .val (.double D3), .second, .val (.double D5), .second, .val (.double D7), .second, .val (.ref b8), .val (.double D3), .second, .val (.double Dg30), .second] []))
    refine go (fun _ k => XS.dload X30.here hx rfl (hb hby at_124) rfl k) ?_
    show G (T30.setTop (mkF m 126 #[.val (.int p1), .val (.int p2), .val (.int p3), .val (.int p4), .val (.long wl), .second, .val (.int kv), .val (.double D2), .second, .val (.double D3), .second, .val (.double D5), .second, .val (.double D7), .second, .val (.ref b8), .val (.double D3), .second, .val (.double Dg30), .second] [(.double Dg30)]))
    refine go (fun _ k => XS.dload X30.here hx rfl (hb hby at_126) rfl k) ?_
    show G (T30.setTop (mkF m 128 #[.val (.int p1), .val (.int p2), .val (.int p3), .val (.int p4), .val (.long wl), .second, .val (.int kv), .val (.double D2), .second, .val (.double D3), .second, .val (.double D5), .second, .val (.double D7), .second, .val (.ref b8), .val (.double D3), .second, .val (.double Dg30), .second] [(.double D3), (.double Dg30)]))
    refine go (fun _ k => XS.dcmpS X30.here hx rfl (hb hby at_128) rfl (v := (cmpValue (FP.dcmp Dg30 D3) .l)) rfl k) ?_
    show G (T30.setTop (mkF m 129 #[.val (.int p1), .val (.int p2), .val (.int p3), .val (.int p4), .val (.long wl), .second, .val (.int kv), .val (.double D2), .second, .val (.double D3), .second, .val (.double D5), .second, .val (.double D7), .second, .val (.ref b8), .val (.double D3), .second, .val (.double Dg30), .second] [(.int (cmpValue (FP.dcmp Dg30 D3) .l))]))
    have hc34 : (cmpValue (FP.dcmp Dg30 D3) .l) = (0 : Int32) := (own_q_cmp c30_0 Q3 _).2.2.mpr (by rw [if_neg (fun k => hc73_11 ((own_q_cmp Q5 Q3 _).1.mpr k))])
    refine go (fun _ k => XS.ifNo X30.here hx rfl (hb hby at_129) rfl ((if0 _ _).trans (teq hc34).2) k) ?_
    show G (T30.setTop (mkF m 132 #[.val (.int p1), .val (.int p2), .val (.int p3), .val (.int p4), .val (.long wl), .second, .val (.int kv), .val (.double D2), .second, .val (.double D3), .second, .val (.double D5), .second, .val (.double D7), .second, .val (.ref b8), .val (.double D3), .second, .val (.double Dg30), .second] []))
    refine go (fun _ k => XS.aload X30.here hx rfl (hb hby at_132) rfl rfl k) ?_
    show G (T30.setTop (mkF m 134 #[.val (.int p1), .val (.int p2), .val (.int p3), .val (.int p4), .val (.long wl), .second, .val (.int kv), .val (.double D2), .second, .val (.double D3), .second, .val (.double D5), .second, .val (.double D7), .second, .val (.ref b8), .val (.double D3), .second, .val (.double Dg30), .second] [(.ref b8)]))
    obtain ⟨cq35, kq35, qa35, qb35, qc35⟩ := isOf hZ rfl f31
    obtain ⟨_, _, ⟨T35, L35, k35, n35⟩, -, X35, ⟨Lc35, hQ35, l35, y35, z35⟩, st35⟩ := X30.virtualBack hx (y := (⟨"com/example/clepsydra/clepsydra/WarmingCurve", "maxPermits", "()D"⟩ : MethodName)) (z := (⟨"com/example/clepsydra/clepsydra/WarmingCurve", "maxPermits", "()D"⟩ : MethodName)) hown (mvT hZ (hw _ (List.mem_of_getElem? (i := 33) rfl))) (mvT hZ (hw _ (List.mem_of_getElem? (i := 34) rfl))) (notFace_of_selects (args := #[]) (mvT hZ (hw _ (List.mem_of_getElem? (i := 36) rfl)))) (mvT hZ (hw _ (List.mem_of_getElem? (i := 36) rfl))) (mvT hZ (hw _ (List.mem_of_getElem? (i := 35) rfl))) (by decide) (backOf (W := 0) (rm4 l Z a0 hw [] b8 M9 T30.heap n0 Zs30 f33) hZ (hw _ (List.mem_of_getElem? (i := 37) rfl)) (hw _ (List.mem_of_getElem? (i := 8) rfl)) (by decide) (by decide)) qa35 qc35 (g := (mkF m 134 #[.val (.int p1), .val (.int p2), .val (.int p3), .val (.int p4), .val (.long wl), .second, .val (.int kv), .val (.double D2), .second, .val (.double D3), .second, .val (.double D5), .second, .val (.double D7), .second, .val (.ref b8), .val (.double D3), .second, .val (.double Dg30), .second] [(.ref b8)])) rfl (by rw [hml]; rfl) (Steps.refl _) (argsL := []) (rest := []) (lenOf pd_0_2 rfl) rfl (by show 2 * 0 + _ ≤ _; exact Nat.le_of_eq rfl) (hb hby at_134) (fun _ _ => ⟨rfl, rfl, (by decide : 1 + 0 ≤ _), (by decide : 5 + 0 ≤ _)⟩)
    dsimp only [Pt.U, Pt.locs, Pt.cells, Pt.slots] at X35 l35 y35 z35 st35 hQ35
    subst l35 y35 z35
    obtain ⟨rfl, N35q, e35⟩ := hQ35
    have N35 := Fr.app N30 N35q
    refine go (fun _ k => st35.trans k) ?_
    show G (T35.setTop (mkF m 137 #[.val (.int p1), .val (.int p2), .val (.int p3), .val (.int p4), .val (.long wl), .second, .val (.int kv), .val (.double D2), .second, .val (.double D3), .second, .val (.double D5), .second, .val (.double D7), .second, .val (.ref b8), .val (.double D3), .second, .val (.double Dg30), .second] [(.double M9)]))
    refine go (fun _ k => XS.dload X35.here hx rfl (hb hby at_137) rfl k) ?_
    show G (T35.setTop (mkF m 139 #[.val (.int p1), .val (.int p2), .val (.int p3), .val (.int p4), .val (.long wl), .second, .val (.int kv), .val (.double D2), .second, .val (.double D3), .second, .val (.double D5), .second, .val (.double D7), .second, .val (.ref b8), .val (.double D3), .second, .val (.double Dg30), .second] [(.double D3), (.double M9)]))
    refine go (fun _ k => XS.dcmpS X35.here hx rfl (hb hby at_139) rfl (v := (cmpValue (FP.dcmp M9 D3) .l)) rfl k) ?_
    show G (T35.setTop (mkF m 140 #[.val (.int p1), .val (.int p2), .val (.int p3), .val (.int p4), .val (.long wl), .second, .val (.int kv), .val (.double D2), .second, .val (.double D3), .second, .val (.double D5), .second, .val (.double D7), .second, .val (.ref b8), .val (.double D3), .second, .val (.double Dg30), .second] [(.int (cmpValue (FP.dcmp M9 D3) .l))]))
    have hc36 : (cmpValue (FP.dcmp M9 D3) .l) = (0 : Int32) := (own_q_cmp c9_2 Q3 _).2.2.mpr rfl
    refine go (fun _ k => XS.ifNo X35.here hx rfl (hb hby at_140) rfl ((if0 _ _).trans (teq hc36).2) k) ?_
    show G (T35.setTop (mkF m 143 #[.val (.int p1), .val (.int p2), .val (.int p3), .val (.int p4), .val (.long wl), .second, .val (.int kv), .val (.double D2), .second, .val (.double D3), .second, .val (.double D5), .second, .val (.double D7), .second, .val (.ref b8), .val (.double D3), .second, .val (.double Dg30), .second] []))
    refine go (fun _ k => XS.iconst X35.here hx rfl (hb hby at_143) k) ?_
    show G (T35.setTop (mkF m 144 #[.val (.int p1), .val (.int p2), .val (.int p3), .val (.int p4), .val (.long wl), .second, .val (.int kv), .val (.double D2), .second, .val (.double D3), .second, .val (.double D5), .second, .val (.double D7), .second, .val (.ref b8), .val (.double D3), .second, .val (.double Dg30), .second] [(.int (1 : Int32))]))
    refine go (fun _ k => XS.goto X35.here hx rfl (pc0 := 144) (pc' := 148) rfl (hb hby at_144) (by decide) (by decide) k) ?_
    show G (T35.setTop (mkF m 148 #[.val (.int p1), .val (.int p2), .val (.int p3), .val (.int p4), .val (.long wl), .second, .val (.int kv), .val (.double D2), .second, .val (.double D3), .second, .val (.double D5), .second, .val (.double D7), .second, .val (.ref b8), .val (.double D3), .second, .val (.double Dg30), .second] [(.int (1 : Int32))]))
    rw [hG]
    refine own_fin X35 Bd.notSynchronized (v := some (.int (1 : Int32))) (fun h => by rw [Bd.returns] at h; cases h) (fun fs hr => retOut X35 hx Bd.returns rfl (by simp [FieldType.isReference, Value.isRef]) (hb hby at_148) hr) ?_ (by decide) (by decide)
    show Q0 Z p1 p2 p3 p4 h0 n0 (some (.int (1 : Int32))) T35.heap _
    rw [e35]
    exact ⟨rfl, N35⟩

set_option maxRecDepth 65536 in
set_option maxHeartbeats 40000000 in
theorem comes_1 {Post : Tables → Env → Array Value → State → Outcome → State → Prop} (hpost : ∀ tb e args s v u, (limb_1_1.after args s (.returned v) u = true ∧ limb_1_2.after args s (.returned v) u = true ∧ True) → FrameEnd s (.returned v) u (Jvm.fieldLocs frame_1_writes args s ++ Jvm.arrayLocs frame_1_arrays args s ++ Jvm.staticLocs frame_1_statics s) 16 128 → Post tb e args s (.returned v) u) :
    ArmFor flags0 classFile x code maxLocals ret World_1 tables_1 room_1 Calls_1 rest_1 Pre_1 Post := by
  intro l hfl _ _ p e ha hc hk s m args below hf hA hF happ hP
  obtain ⟨hcalls, hrest, hpre⟩ := hP
  obtain ⟨-, -, -, hnamed, -, -, -, hat⟩ := (Spec.applies_iff hf).mp happ
  obtain ⟨hg, hn⟩ := and_e (Cond.before_iff.mp (show (Jvm.Cond.and given_1 narrow_1).before args s = true from hpre))
  obtain ⟨g2, g3⟩ := and_e hg
  obtain ⟨g4, g5⟩ := and_e g3
  obtain ⟨g6, g7⟩ := and_e g5
  obtain ⟨g8, g9⟩ := and_e g7
  obtain ⟨w0, w1, w2, w3, rfl⟩ : ∃ w0 w1 w2 w3 : Value, args = #[w0, w1, w2, w3] := by
    have hs : args.size = 4 := by simpa [Cond.value, given_1] using g2
    obtain ⟨L⟩ := args
    match L, hs with
    | [w0, w1, w2, w3], _ => exact ⟨w0, w1, w2, w3, rfl⟩
  have hw := fun d (hd : d ∈ tables_1) => atoms_spec (ws := Jvm.Cond.code x code maxLocals ret :: tables_1) hat d (List.mem_cons_of_mem _ hd)
  have hfit : Fit s := fun {y c} hc i hi => by
    obtain ⟨ha, rfl⟩ := Array.getElem?_eq_some_iff.mp hc
    have q := List.all_eq_true.mp ((Array.all_eq_true_iff_forall_mem.mp hF) _ (Array.getElem_mem ha)) i (List.mem_range.mpr hi)
    simpa [Array.getElem?_eq_getElem hi] using q
  obtain ⟨i0, ei0⟩ := is_v g4
  obtain rfl : w0 = (.int i0) := Option.some.inj ei0
  obtain ⟨i1, ei1⟩ := is_v g6
  obtain rfl : w1 = (.int i1) := Option.some.inj ei1
  obtain ⟨i2, ei2⟩ := is_v g8
  obtain rfl : w2 = (.int i2) := Option.some.inj ei2
  obtain ⟨i3, ei3⟩ := is_v g9
  obtain rfl : w3 = (.int i3) := Option.some.inj ei3
  obtain ⟨n, o, h1, h2, h3, _, L, rfl, ⟨rfl, N⟩, hq⟩ := rm0 l s _ hw tables_1 i0 i1 i2 i3 s.heap s.heap.size (Nat.le_refl _)  p e ha hc hk s m _ below hf ((Spec.applies_iff_loose hf).mp happ).1 ⟨rfl, State.Warmed39.refl s, rfl⟩ trivial
  refine ⟨n, _, h1, h2, h3, hpost _ _ _ _ _ _ ⟨Cond.after_iff.mpr rfl, Cond.after_iff.mpr (eq_i res_at (Term.int_eval (1)) rfl), trivial⟩ ⟨hq.1, hq.2.1, (hq.2.2.sift fun y hy => Or.inr (N y hy)).mono (by decide) (by decide)⟩⟩
theorem main_1_1 : Claimed_1_1 := comes_1 fun _ _ _ _ _ _ h hF => ⟨h.1, hF⟩
theorem main_1_2 : Claimed_1_2 := comes_1 fun _ _ _ _ _ _ h hF => ⟨h.2.1, hF⟩
end Jvm.Pilot.@@N@@
namespace Jvm.Pilot.@@N@@
open Jvm Jvm.ClassFile Sem Op Lib Jvm.Free Jvm.Stand Jvm.Pilot.@@N@@.Jvm.D
/-! MADE BY PROGRAM (witnessworld.py) out of the Statement's table words and the real class files: 10 classes; the members and pool entries that the words name. The judged class is class 1, her method 1. -/
namespace start1
open Jvm.ClassFile
def u (s : String) : CpInfo := .utf8 (stringToUtf16 s)
/-- a pool by its gaps: so many unusable entries, then the entry; so many at the end -/
def gap : Nat → List CpInfo → List CpInfo
  | 0, r => r
  | n + 1, r => .unusable :: gap n r
def poolList (es : List (Nat × CpInfo)) (last : Nat) : List CpInfo := es.foldr (fun e r => gap e.1 (e.2 :: r)) (gap last [])
def pool (es : List (Nat × CpInfo)) (last : Nat) : Array CpInfo := ⟨poolList es last⟩
def fileOf (pool : Array CpInfo) (this : Nat) (attrs : Array Attribute := #[]) (ms : Array MethodInfo := #[]) (fl : Nat := 33) (sup : Nat := 0) (ifs : Array Nat := #[]) (fds : Array FieldInfo := #[]) : ClassFile where
  minorVersion := 0
  majorVersion := 65
  constantPool := pool
  accessFlags := fl
  thisClass := this
  superClass := sup
  interfaces := ifs
  fields := fds
  methods := ms
  attributes := attrs
def plain (name : String) (sup : Option ClassId) : Class where
  name := name
  kind := .ordinary
  loader := none
  accessFlags := 33
  super := sup
  interfaces := #[]
  cf := none
  fields := #[]
  methods := #[]
  instanceTypes := #[]
  staticTypes := #[]
  resolved := #[]
  callSites := []
  init := .initialized
  statics := none
  mirror := none

def pool0 : Array CpInfo := pool [(5, u "<init>"), (0, u "()V"), (1, .class_ 10), (1, u "java/lang/Object")] 113

def k0c0 : Code := { maxStack := 0, maxLocals := 1, code := object_method_1_code, exceptionTable := #[], attributes := #[] }
def k0m0 : Method := { name := "<init>", desc := "()V", sig := { parameters := [], returnType := none }, accessFlags := 1, code := some k0c0 }
/-- java/lang/Object -/
def k0 : Class := { plain "java/lang/Object" none with
  accessFlags := 33
  interfaces := #[]
  cf := some (fileOf pool0 8 #[] #[{ accessFlags := 1, nameIndex := 5, descriptorIndex := 6, attributes := #[] }] 33 0 #[] #[])
  fields := #[]
  methods := #[k0m0]
  instanceTypes := #[]
  staticTypes := #[]
  resolved := Array.replicate 124 none
  statics := none }

def pool1 : Array CpInfo := pool [(2, .class_ 4), (1, u "java/lang/Object"), (0, u "<init>"), (0, u "()V"), (0, .integer 131071), (0, .double 4741671816366391296), (1, .integer 8388607), (0, .double 4616189618054758400), (1, .integer 4194303), (0, .double 4611686018427387904), (1, .class_ 17), (0, u "com/example/clepsydra/clepsydra/WarmingCurve"), (0, .methodref 16 19), (0, .nameAndType 5 20), (0, u "(DJI)V"), (0, .methodref 16 22), (0, .nameAndType 23 24), (0, u "filled"), (0, u "(DD)D"), (0, .methodref 16 26), (0, .nameAndType 27 28), (0, u "maxPermits"), (0, u "()D"), (0, .class_ 30), (0, u "com/example/clepsydra/clepsydra/WarmingCurveFilledPinLaw"), (2, u "law"), (0, u "(IIII)Z")] 3

def k1m0 : Method := { name := "<init>", desc := "()V", sig := { parameters := [], returnType := none }, accessFlags := 1, code := none }
def k1c1 : Code := { maxStack := 7, maxLocals := 20, code := code, exceptionTable := #[], attributes := #[] }
def k1m1 : Method := { name := "law", desc := "(IIII)Z", sig := { parameters := [.int, .int, .int, .int], returnType := some .boolean }, accessFlags := 9, code := some k1c1 }
/-- com/example/clepsydra/clepsydra/WarmingCurveFilledPinLaw -/
def k1 : Class := { plain "com/example/clepsydra/clepsydra/WarmingCurveFilledPinLaw" (some 0) with
  accessFlags := 49
  interfaces := #[]
  cf := some (fileOf pool1 29 #[] #[{ accessFlags := 1, nameIndex := 5, descriptorIndex := 6, attributes := #[] }, { accessFlags := 9, nameIndex := 33, descriptorIndex := 34, attributes := #[] }] 49 2 #[] #[])
  fields := #[]
  methods := #[k1m0, k1m1]
  instanceTypes := #[]
  staticTypes := #[]
  resolved := Array.replicate 38 none
  statics := none }

def pool2 : Array CpInfo := pool [(1, .methodref 2 3), (0, .class_ 4), (0, .nameAndType 5 6), (0, u "java/lang/Object"), (0, u "<init>"), (0, u "()V"), (0, .class_ 8), (0, u "com/example/clepsydra/clepsydra/WarmingCurve"), (0, .double 4741671816366391296), (1, .fieldref 7 12), (0, .nameAndType 13 14), (0, u "warmUpNanos"), (0, u "J"), (0, .fieldref 7 16), (0, .nameAndType 17 18), (0, u "coldFactor"), (0, u "I"), (0, .double 4602678819172646912), (1, .fieldref 7 22), (0, .nameAndType 23 24), (0, u "threshold"), (0, u "D"), (0, .double 4611686018427387904), (1, .fieldref 7 28), (0, .nameAndType 29 24), (0, u "maxPermits"), (0, .fieldref 7 31), (0, .nameAndType 32 24), (0, u "coldNanos"), (2, u "(DJI)V"), (0, .methodref 37 38), (0, .class_ 39), (0, .nameAndType 40 41), (0, u "java/lang/Math"), (0, u "min"), (0, u "(DD)D"), (4, u "NANOS_PER_SECOND"), (5, u "()D"), (0, u "filled")] 6

def k2c0 : Code := { maxStack := 9, maxLocals := 8, code := prog_29_method_1_code, exceptionTable := #[], attributes := #[] }
def k2m0 : Method := { name := "<init>", desc := "(DJI)V", sig := { parameters := [.double, .long, .int], returnType := none }, accessFlags := 0, code := some k2c0 }
def k2c1 : Code := { maxStack := 2, maxLocals := 1, code := prog_29_method_3_code, exceptionTable := #[], attributes := #[] }
def k2m1 : Method := { name := "maxPermits", desc := "()D", sig := { parameters := [], returnType := some .double }, accessFlags := 0, code := some k2c1 }
def k2c2 : Code := { maxStack := 8, maxLocals := 5, code := prog_29_method_4_code, exceptionTable := #[], attributes := #[] }
def k2m2 : Method := { name := "filled", desc := "(DD)D", sig := { parameters := [.double, .double], returnType := some .double }, accessFlags := 0, code := some k2c2 }
/-- com/example/clepsydra/clepsydra/WarmingCurve -/
def k2 : Class := { plain "com/example/clepsydra/clepsydra/WarmingCurve" (some 0) with
  accessFlags := 48
  interfaces := #[]
  cf := some (fileOf pool2 7 #[] #[{ accessFlags := 0, nameIndex := 5, descriptorIndex := 35, attributes := #[] }, { accessFlags := 0, nameIndex := 29, descriptorIndex := 52, attributes := #[] }, { accessFlags := 0, nameIndex := 53, descriptorIndex := 41, attributes := #[] }] 48 2 #[] #[{ accessFlags := 26, nameIndex := 46, descriptorIndex := 24, attributes := #[] }, { accessFlags := 18, nameIndex := 13, descriptorIndex := 14, attributes := #[] }, { accessFlags := 18, nameIndex := 17, descriptorIndex := 18, attributes := #[] }, { accessFlags := 18, nameIndex := 23, descriptorIndex := 24, attributes := #[] }, { accessFlags := 18, nameIndex := 29, descriptorIndex := 24, attributes := #[] }, { accessFlags := 18, nameIndex := 32, descriptorIndex := 24, attributes := #[] }])
  fields := #[{ name := "NANOS_PER_SECOND", type := .double, accessFlags := 26, slot := 0, constantValue := 0 }, { name := "warmUpNanos", type := .long, accessFlags := 18, slot := 0, constantValue := 0 }, { name := "coldFactor", type := .int, accessFlags := 18, slot := 1, constantValue := 0 }, { name := "threshold", type := .double, accessFlags := 18, slot := 2, constantValue := 0 }, { name := "maxPermits", type := .double, accessFlags := 18, slot := 3, constantValue := 0 }, { name := "coldNanos", type := .double, accessFlags := 18, slot := 4, constantValue := 0 }]
  methods := #[k2m0, k2m1, k2m2]
  instanceTypes := #[.long, .int, .double, .double, .double]
  staticTypes := #[.double]
  resolved := Array.replicate 60 none
  statics := none }

def pool3 : Array CpInfo := pool [(1, .class_ 2), (0, u "java/lang/Math"), (1, .class_ 6), (1, u "java/lang/Object"), (0, u "<init>"), (0, u "()V"), (43, u "(DD)D"), (45, .class_ 100), (1, u "java/lang/Math$RandomNumberGeneratorHolder"), (71, u "negativeZeroFloatBits"), (0, u "J"), (2, u "negativeZeroDoubleBits"), (24, u "min"), (43, u "$assertionsDisabled"), (0, u "Z"), (91, u "twoToTheDoubleScaleDown"), (0, u "D"), (4, u "twoToTheDoubleScaleUp"), (9, u "E"), (3, u "PI"), (2, u "TAU"), (2, u "DEGREES_TO_RADIANS"), (0, u "RADIANS_TO_DEGREES")] 94

def k3m0 : Method := { name := "<init>", desc := "()V", sig := { parameters := [], returnType := none }, accessFlags := 2, code := none }
def k3c1 : Code := { maxStack := 4, maxLocals := 4, code := jdk_29_method_72_code, exceptionTable := #[], attributes := #[] }
def k3m1 : Method := { name := "min", desc := "(DD)D", sig := { parameters := [.double, .double], returnType := some .double }, accessFlags := 9, code := some k3c1 }
/-- java/lang/Math -/
def k3 : Class := { plain "java/lang/Math" (some 0) with
  accessFlags := 49
  interfaces := #[]
  cf := some (fileOf pool3 1 #[.nestMembers #[98]] #[{ accessFlags := 2, nameIndex := 7, descriptorIndex := 8, attributes := #[] }, { accessFlags := 9, nameIndex := 201, descriptorIndex := 52, attributes := #[] }] 49 4 #[] #[{ accessFlags := 25, nameIndex := 354, descriptorIndex := 339, attributes := #[] }, { accessFlags := 25, nameIndex := 358, descriptorIndex := 339, attributes := #[] }, { accessFlags := 25, nameIndex := 361, descriptorIndex := 339, attributes := #[] }, { accessFlags := 26, nameIndex := 364, descriptorIndex := 339, attributes := #[] }, { accessFlags := 26, nameIndex := 365, descriptorIndex := 339, attributes := #[] }, { accessFlags := 26, nameIndex := 172, descriptorIndex := 173, attributes := #[] }, { accessFlags := 26, nameIndex := 176, descriptorIndex := 173, attributes := #[] }, { accessFlags := 8, nameIndex := 344, descriptorIndex := 339, attributes := #[] }, { accessFlags := 8, nameIndex := 338, descriptorIndex := 339, attributes := #[] }, { accessFlags := 4120, nameIndex := 245, descriptorIndex := 246, attributes := #[] }])
  fields := #[{ name := "E", type := .double, accessFlags := 25, slot := 0, constantValue := 0 }, { name := "PI", type := .double, accessFlags := 25, slot := 1, constantValue := 0 }, { name := "TAU", type := .double, accessFlags := 25, slot := 2, constantValue := 0 }, { name := "DEGREES_TO_RADIANS", type := .double, accessFlags := 26, slot := 3, constantValue := 0 }, { name := "RADIANS_TO_DEGREES", type := .double, accessFlags := 26, slot := 4, constantValue := 0 }, { name := "negativeZeroFloatBits", type := .long, accessFlags := 26, slot := 5, constantValue := 0 }, { name := "negativeZeroDoubleBits", type := .long, accessFlags := 26, slot := 6, constantValue := 0 }, { name := "twoToTheDoubleScaleUp", type := .double, accessFlags := 8, slot := 7, constantValue := 0 }, { name := "twoToTheDoubleScaleDown", type := .double, accessFlags := 8, slot := 8, constantValue := 0 }, { name := "$assertionsDisabled", type := .boolean, accessFlags := 4120, slot := 9, constantValue := 0 }]
  methods := #[k3m0, k3m1]
  instanceTypes := #[]
  staticTypes := #[.double, .double, .double, .double, .double, .long, .long, .double, .double, .boolean]
  resolved := Array.replicate 460 none
  statics := none }

def pool4 : Array CpInfo := pool [(1, u "java/lang/Cloneable"), (0, .class_ 1), (0, u "java/lang/Object"), (0, .class_ 3)] 3

/-- java/lang/Cloneable -/
def k4 : Class := { plain "java/lang/Cloneable" (some 0) with
  accessFlags := 1537
  interfaces := #[]
  cf := some (fileOf pool4 2 #[] #[] 1537 4 #[] #[])
  fields := #[]
  methods := #[]
  instanceTypes := #[]
  staticTypes := #[]
  resolved := Array.replicate 8 none
  statics := none }

def pool5 : Array CpInfo := pool [(1, u "java/io/Serializable"), (0, .class_ 1), (0, u "java/lang/Object"), (0, .class_ 3)] 3

/-- java/io/Serializable -/
def k5 : Class := { plain "java/io/Serializable" (some 0) with
  accessFlags := 1537
  interfaces := #[]
  cf := some (fileOf pool5 2 #[] #[] 1537 4 #[] #[])
  fields := #[]
  methods := #[]
  instanceTypes := #[]
  staticTypes := #[]
  resolved := Array.replicate 8 none
  statics := none }

/-- the primitive byte -/
def k6 : Class := { plain "byte" none with kind := .primitive 'B', accessFlags := 0x411 }
/-- [B -/
def k7 : Class := { plain "[B" (some 0) with kind := .array 6 .byte, interfaces := #[4, 5], accessFlags := 1041 }

/-- the primitive int -/
def k8 : Class := { plain "int" none with kind := .primitive 'I', accessFlags := 0x411 }
/-- [I -/
def k9 : Class := { plain "[I" (some 0) with kind := .array 8 .int, interfaces := #[4, 5], accessFlags := 1041 }

def heap : Heap := #[]
def classes : Array Class := #[k0, k1, k2, k3, k4, k5, k6, k7, k8, k9]
def interned : List (Array UInt16 × Addr) := []
def slotsUsed : Nat := 0
def theMethod : MethodId := ⟨1, 1⟩
def args0 : Array Value := #[.int 5, .int 7, .int 9, .int 3]
def aboutOver (below : List Frame) : State where
  vm := { classes := classes, interned := interned.toArray }
  heap := heap
  slotsUsed := slotsUsed
  threads := #[{ frames := .invoking theMethod args0 :: below }]
def below0 : List Frame := [.native { method := ⟨0, 0⟩, args := #[] }]
def about1 : State := aboutOver below0
def p0 : Program := .bare "" "" ""
def e0 : Env := launch0.env 0 0 0
theorem w_frames : about1.frames = Frame.invoking theMethod args0 :: below0 := rfl
set_option maxRecDepth 65536 in
theorem w_args : argsFit about1.vm theMethod args0 = true := by decide +kernel
set_option maxRecDepth 65536 in
theorem w_heap : heapFits about1 = true := by decide +kernel
set_option maxRecDepth 65536 in
theorem w_runnable : about1.curStatus? = some .runnable := by decide +kernel
set_option maxRecDepth 65536 in
theorem w_alone : about1.alone = true := by decide +kernel
set_option maxRecDepth 65536 in
theorem w_named : about1.methodNamed? x = some theMethod := by decide +kernel
set_option maxRecDepth 65536 in
theorem w_hears : about1.hears theMethod below0 = true := by decide +kernel
set_option maxRecDepth 65536 in
theorem w_ripe : about1.ripe theMethod args0 below0 = true := by decide +kernel
theorem w_running : about1.status = .running := rfl
set_option maxRecDepth 65536 in
theorem w_room : about1.hasRoom e0.platform room_1 = true :=
  launch0.hasRoom_least _ room_1 (by decide +kernel) (by decide +kernel) (by decide +kernel) (by decide +kernel) (by decide +kernel) (by decide +kernel)
theorem allAtoms_all (ts : List Jvm.Cond) (a : Array Jvm.Value) (st : Jvm.State) : (allAtoms ts).before a st = ts.all (fun c => c.before a st) := by
  induction ts with
  | nil => rfl
  | cons c t ih =>
    show (Jvm.Cond.and c (allAtoms t)).before a st = _
    rw [Jvm.Cond.before_and, ih, List.all_cons]
def words1 : List Jvm.Cond := Jvm.Cond.code x code maxLocals ret :: tables_1
/-- a 'code' word, met by the world's own term for the bytes: nothing is compared byte by byte -/
theorem code_word {y : MethodName} {bytes : ByteArray} {mx : Nat} {rt : Option FieldType} {a : Array Value} {s : State} {m : MethodId} {meth : Method} {c : Code} (h1 : s.methodNamed? y = some m) (h2 : s.vm.method? m = some meth) (h3 : meth.code = some c) (h4 : c.code = bytes)
    (h5 : (c.maxLocals == mx && c.exceptionTable.isEmpty && decide (c.maxStack ≤ mostOperands) && decide (meth.sig.returnType = rt) && !meth.locks && decide (parseMethodDescriptor y.desc = some meth.sig)) = true) : (Jvm.Cond.code y bytes mx rt).before a s = true := by
  simp only [Bool.and_eq_true, beq_iff_eq, Bool.not_eq_true', decide_eq_true_eq] at h5
  obtain ⟨⟨⟨⟨⟨g1, g2⟩, g3⟩, g4⟩, g5⟩, g6⟩ := h5
  simp [Cond.before, Cond.holds, Cond.value, h1, h2, h3, h4, g1, g2, g3, g4, g5, g6]
def isCode : Jvm.Cond → Bool
  | .code _ _ _ _ => true
  | _ => false
theorem all_split {L : List Jvm.Cond} {P : Jvm.Cond → Bool} (h1 : L.all (fun c => isCode c || P c) = true) (h2 : ∀ c ∈ L.filter isCode, P c = true) : L.all P = true := by
  refine List.all_eq_true.mpr fun c hc => ?_
  have h := List.all_eq_true.mp h1 c hc
  rcases Bool.eq_false_or_eq_true (isCode c) with hi | hi
  · exact h2 c (List.mem_filter.mpr ⟨hc, hi⟩)
  · simpa [hi] using h
set_option maxRecDepth 65536 in
theorem w_c0 : (Jvm.Cond.code x code maxLocals ret).before args0 about1 = true := code_word (m := ⟨1, 1⟩) (meth := k1m1) (c := k1c1) (by decide +kernel) rfl rfl rfl (by decide +kernel)
set_option maxRecDepth 65536 in
theorem w_c1 : (Jvm.Cond.code ({ cls := "com/example/clepsydra/clepsydra/WarmingCurve", name := "<init>", desc := "(DJI)V" } : Jvm.MethodName) prog_29_method_1_code (8 : Nat) (Option.none : Option Jvm.ClassFile.FieldType)).before args0 about1 = true := code_word (m := ⟨2, 0⟩) (meth := k2m0) (c := k2c0) (by decide +kernel) rfl rfl rfl (by decide +kernel)
set_option maxRecDepth 65536 in
theorem w_c2 : (Jvm.Cond.code ({ cls := "java/lang/Object", name := "<init>", desc := "()V" } : Jvm.MethodName) object_method_1_code (1 : Nat) (Option.none : Option Jvm.ClassFile.FieldType)).before args0 about1 = true := code_word (m := ⟨0, 0⟩) (meth := k0m0) (c := k0c0) (by decide +kernel) rfl rfl rfl (by decide +kernel)
set_option maxRecDepth 65536 in
theorem w_c3 : (Jvm.Cond.code ({ cls := "com/example/clepsydra/clepsydra/WarmingCurve", name := "filled", desc := "(DD)D" } : Jvm.MethodName) prog_29_method_4_code (5 : Nat) (Option.some Jvm.ClassFile.FieldType.double)).before args0 about1 = true := code_word (m := ⟨2, 2⟩) (meth := k2m2) (c := k2c2) (by decide +kernel) rfl rfl rfl (by decide +kernel)
set_option maxRecDepth 65536 in
theorem w_c4 : (Jvm.Cond.code ({ cls := "com/example/clepsydra/clepsydra/WarmingCurve", name := "maxPermits", desc := "()D" } : Jvm.MethodName) prog_29_method_3_code (1 : Nat) (Option.some Jvm.ClassFile.FieldType.double)).before args0 about1 = true := code_word (m := ⟨2, 1⟩) (meth := k2m1) (c := k2c1) (by decide +kernel) rfl rfl rfl (by decide +kernel)
set_option maxRecDepth 65536 in
theorem w_c5 : (Jvm.Cond.code ({ cls := "java/lang/Math", name := "min", desc := "(DD)D" } : Jvm.MethodName) jdk_29_method_72_code (4 : Nat) (Option.some Jvm.ClassFile.FieldType.double)).before args0 about1 = true := code_word (m := ⟨3, 1⟩) (meth := k3m1) (c := k3c1) (by decide +kernel) rfl rfl rfl (by decide +kernel)
def codes1 : List Jvm.Cond := [Jvm.Cond.code x code maxLocals ret, Jvm.Cond.code ({ cls := "com/example/clepsydra/clepsydra/WarmingCurve", name := "<init>", desc := "(DJI)V" } : Jvm.MethodName) prog_29_method_1_code (8 : Nat) (Option.none : Option Jvm.ClassFile.FieldType), Jvm.Cond.code ({ cls := "java/lang/Object", name := "<init>", desc := "()V" } : Jvm.MethodName) object_method_1_code (1 : Nat) (Option.none : Option Jvm.ClassFile.FieldType), Jvm.Cond.code ({ cls := "com/example/clepsydra/clepsydra/WarmingCurve", name := "filled", desc := "(DD)D" } : Jvm.MethodName) prog_29_method_4_code (5 : Nat) (Option.some Jvm.ClassFile.FieldType.double), Jvm.Cond.code ({ cls := "com/example/clepsydra/clepsydra/WarmingCurve", name := "maxPermits", desc := "()D" } : Jvm.MethodName) prog_29_method_3_code (1 : Nat) (Option.some Jvm.ClassFile.FieldType.double), Jvm.Cond.code ({ cls := "java/lang/Math", name := "min", desc := "(DD)D" } : Jvm.MethodName) jdk_29_method_72_code (4 : Nat) (Option.some Jvm.ClassFile.FieldType.double)]
set_option maxRecDepth 65536 in
theorem codes_eq : words1.filter isCode = codes1 := rfl
theorem w_codes : ∀ c ∈ words1.filter isCode, c.before args0 about1 = true := by
  rw [codes_eq]
  intro c hc
  simp only [codes1, List.mem_cons, List.not_mem_nil, or_false] at hc
  rcases hc with rfl | rfl | rfl | rfl | rfl | rfl
  · exact w_c0
  · exact w_c1
  · exact w_c2
  · exact w_c3
  · exact w_c4
  · exact w_c5
set_option maxRecDepth 65536 in
theorem w_t1 : (words1.take 24).all (fun c => isCode c || c.before args0 about1) = true := by decide +kernel
set_option maxRecDepth 65536 in
theorem w_t2 : (words1.drop 24).all (fun c => isCode c || c.before args0 about1) = true := by decide +kernel
theorem w_tables : (allAtoms (Jvm.Cond.code x code maxLocals ret :: tables_1)).before args0 about1 = true := by
  rw [allAtoms_all]
  show words1.all (fun c => c.before args0 about1) = true
  refine all_split ?_ w_codes
  rw [← List.take_append_drop 24 words1, List.all_append, w_t1, w_t2]
  rfl
set_option maxRecDepth 65536 in
theorem w_case : (Jvm.Cond.and given_1 narrow_1).before args0 about1 = true := by decide +kernel
theorem w_applies : (headSpec (Jvm.Cond.code x code maxLocals ret :: tables_1) room_1).applies x e0.platform about1 = true :=
  (Spec.applies_iff w_frames).mpr ⟨w_running, w_runnable, w_alone, w_named, w_hears, w_ripe, w_room, w_tables⟩
theorem atStart : AtStart classFile x code maxLocals ret World_1 tables_1 room_1 Calls_1 rest_1 Pre_1 launch0 p0 e0 about1 theMethod args0 below0 :=
  ⟨lists_1, trivial, launch0.admits_env _ _ _, launch0.least_env, fairChoices_fair.cas, fairChoices_fair.clock, w_frames, w_args, w_heap, w_applies, trivial, trivial, w_case⟩
end start1
theorem witness_1 : WitnessClaimed_1 := ⟨start1.p0, start1.e0, start1.about1, start1.theMethod, start1.args0, start1.below0, start1.atStart⟩
end Jvm.Pilot.@@N@@
